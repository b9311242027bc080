/-
  What the world holds of the undo log: rows that the call owns, no two in one block (no Go text is walked here).
-/
import Derived.Test.YbulkdtxoCBase
namespace Go.Proofs.Ybulkdtxo.C
open Go.RowKit

/-- A row that the call owns: the slice value v of n elements of type e ('size' cells each) owns the cells xs. -/
structure Rec where
  e : TypeId
  size : Nat
  v : Value
  n : Nat
  xs : List Value

def Rec.holds (r : Rec) (w : World) (base : Nat) : Prop := w.ownsRow base r.e r.size r.v r.n r.xs
def Rec.apart (r s : Rec) : Prop := ∀ k, r.v.ownBlock = some k → s.v.ownBlock ≠ some k
theorem Rec.apart.symm {r s : Rec} (h : r.apart s) : s.apart r := fun k hs hr => h k hr hs

/-- All the rows of L are owned, and no two lie in one block. -/
def Owns (w : World) (base : Nat) (L : List Rec) : Prop := (∀ r ∈ L, r.holds w base) ∧ L.Pairwise Rec.apart

theorem holds_of_below {w w1 : World} {base : Nat} {r : Rec} (h : r.holds w base) (hb : Below w.heap.size w w1) : r.holds w1 base := by
  unfold Rec.holds at *
  obtain ⟨h1, h2⟩ := h
  refine ⟨h1, ?_⟩
  rcases h2 with h2 | ⟨g, cap, cur, hv, hg, hh, rest⟩
  · exact .inl h2
  · refine .inr ⟨g, cap, cur, hv, hg, ?_, rest⟩
    rw [hb.block g (Array.getElem?_eq_some_iff.1 hh).1]
    exact hh

theorem Owns.below {w w1 : World} {base : Nat} {L : List Rec} (h : Owns w base L) (hb : Below w.heap.size w w1) : Owns w1 base L :=
  ⟨fun r hr => holds_of_below (h.1 r hr) hb, h.2⟩

theorem Owns.setCell {w : World} {base : Nat} {L : List Rec} (h : Owns w base L) (a : Addr) (ha : a.block < base) (u : Value) : Owns (w.setCell a u) base L :=
  ⟨fun r hr => ownsRow_setCell_below (h.1 r hr) ha u, h.2⟩

theorem Owns.perm {w : World} {base : Nat} {L L' : List Rec} (h : Owns w base L) (hp : L.Perm L') : Owns w base L' :=
  ⟨fun r hr => h.1 r (hp.mem_iff.2 hr), (hp.pairwise_iff (fun h => Rec.apart.symm h)).1 h.2⟩

theorem Owns.tail {w : World} {base : Nat} {r : Rec} {L : List Rec} (h : Owns w base (r :: L)) : Owns w base L :=
  ⟨fun s hs => h.1 s (List.mem_cons_of_mem _ hs), (List.pairwise_cons.1 h.2).2⟩

/-- An append (or whatever turns the block of r alone, and makes new ones). -/
theorem Owns.grown {w w1 w2 : World} {base : Nat} {r r' : Rec} {L : List Rec} (h : Owns w base (r :: L)) (hb : Below w.heap.size w w1) (hg : w1.grownBy w2 r.v.ownBlock) (hr : r'.holds w2 base) {g : Nat}
    (hv : r'.v.ownBlock = some g) (hat : r.v.ownBlock = some g ∨ w.heap.size ≤ g) : Owns w2 base (r' :: L) := by
  obtain ⟨h1, h2⟩ := List.pairwise_cons.1 h.2
  have hL : ∀ s ∈ L, s.holds w2 base := by
    intro s hs
    have hs1 := holds_of_below (h.1 s (List.mem_cons_of_mem _ hs)) hb
    refine World.ownsRow.kept hs1 hg ?_
    cases hk : s.v.ownBlock with
    | none => exact .inl rfl
    | some k => exact .inr (fun e => h1 s hs k e.symm hk)
  refine ⟨fun s hs => ?_, List.pairwise_cons.2 ⟨fun s hs k hk hsk => ?_, h2⟩⟩
  · rcases List.mem_cons.1 hs with rfl | hs
    · exact hr
    · exact hL s hs
  · rw [hv] at hk
    obtain rfl : g = k := by simpa using hk
    rcases hat with hat | hat
    · exact h1 s hs g hat hsk
    · have := (World.ownsRow.lt (h.1 s (List.mem_cons_of_mem _ hs)) g hsk).2
      omega

/-- A new row. -/
theorem Owns.add {w : World} {base : Nat} {r : Rec} {L : List Rec} (h : Owns w base L) (hr : r.holds w base) (hap : ∀ s ∈ L, r.apart s) : Owns w base (r :: L) :=
  ⟨fun s hs => (List.mem_cons.1 hs).elim (fun e => e ▸ hr) (h.1 s), List.pairwise_cons.2 ⟨hap, h.2⟩⟩

/-- A store into a row. -/
theorem Owns.stored {w : World} {base e size g n cap : Nat} {xs : List Value} {L : List Rec} (h : Owns w base (⟨e, size, .slice (some ⟨g, 0, none⟩) n cap, n, xs⟩ :: L)) (j : Nat) (u : Value) :
    Owns (w.setCell ⟨g, j, none⟩ u) base (⟨e, size, .slice (some ⟨g, 0, none⟩) n cap, n, xs.set j u⟩ :: L) := by
  obtain ⟨h1, h2⟩ := List.pairwise_cons.1 h.2
  refine ⟨fun s hs => ?_, List.pairwise_cons.2 ⟨fun s hs k hk => h1 s hs k hk, h2⟩⟩
  rcases List.mem_cons.1 hs with rfl | hs
  · exact (h.1 _ (List.mem_cons_self)).stored j u |>.1
  · exact ownsRow_setCell_other (h.1 s (List.mem_cons_of_mem _ hs)) (fun hk => h1 s hs g rfl hk) u

/-- How the entries lie in the blocks. -/
structure Lay (es c0 : List Ent) (cs : List (List Ent)) : Prop where
  first : c0 = es.take 1024
  len : cs.length = (es.length - 1) / 1024
  nth : ∀ (j : Nat) (c : List Ent), cs[j]? = some c → c = (es.drop (1024 * (j + 1))).take 1024

def chunks (vs : List Value) (cs : List (List Ent)) : List Rec := List.zipWith (fun v c => ⟨70, 4, v, c.length, flat c⟩) vs cs

/-- What the world holds of the list es: the three cells of the header in block b (at 4, 5, 6), the first block, the list of the others, each of these; beside them the rows X. -/
structure Rep (w : World) (base b : Nat) (es : List Ent) (X : List Rec) (c0 : List Ent) (cs : List (List Ent)) (v1 vr : Value) (vs : List Value) : Prop where
  first : w.cell? ⟨b, 4, none⟩ = some v1
  rest : w.cell? ⟨b, 5, none⟩ = some vr
  cnt : w.cell? ⟨b, 6, none⟩ = some (.int .i64 es.length)
  fz4 : w.frozen? ⟨b, 4, none⟩ = false
  fz5 : w.frozen? ⟨b, 5, none⟩ = false
  fz6 : w.frozen? ⟨b, 6, none⟩ = false
  lay : Lay es c0 cs
  len : vs.length = cs.length
  owns : Owns w base (⟨70, 4, v1, c0.length, flat c0⟩ :: ⟨53, 1, vr, vs.length, vs⟩ :: (chunks vs cs ++ X))

def Inv (w : World) (base b : Nat) (es : List Ent) (X : List Rec) : Prop := ∃ c0 cs v1 vr vs, Rep w base b es X c0 cs v1 vr vs

/-- What a push may turn below 'base': the header's three cells. -/
structure Kept (w w' : World) (base b : Nat) : Prop where
  os : w'.os = w.os
  tape : w'.tape = w.tape
  output : w'.output = w.output
  size : w.heap.size ≤ w'.heap.size
  block : ∀ k, k < base → k ≠ b → w'.heap[k]? = w.heap[k]?
  cell : ∀ j, j < 4 ∨ 7 ≤ j → w'.cell? ⟨b, j, none⟩ = w.cell? ⟨b, j, none⟩
  frozen : ∀ j, w'.frozen? ⟨b, j, none⟩ = w.frozen? ⟨b, j, none⟩

theorem list_last {α : Type} (l : List α) (k : Nat) (h : l.length = k + 1) : ∃ a x, l = a ++ [x] ∧ a.length = k := by
  rcases List.eq_nil_or_concat l with rfl | ⟨a, x, rfl⟩
  · simp at h
  · exact ⟨a, x, by simp, by simpa using h⟩

theorem chunk_same (es : List Ent) (e : Ent) (j : Nat) (h : 1024 * (j + 2) ≤ es.length) : ((es ++ [e]).drop (1024 * (j + 1))).take 1024 = (es.drop (1024 * (j + 1))).take 1024 := by
  rw [List.drop_append_of_le_length (by omega), List.take_append_of_le_length (by simp; omega)]

theorem lay_a {es c0 : List Ent} {cs : List (List Ent)} (h : Lay es c0 cs) (e : Ent) (hn : es.length < 1024) : c0 = es ∧ cs = [] ∧ Lay (es ++ [e]) (c0 ++ [e]) cs := by
  have h0 : c0 = es := by rw [h.first]; exact List.take_of_length_le (by omega)
  have h1 : cs = [] := List.eq_nil_of_length_eq_zero (by rw [h.len]; omega)
  subst h0
  subst h1
  exact ⟨rfl, rfl, ⟨(List.take_of_length_le (by simp; omega)).symm, by simp; omega, by simp⟩⟩

theorem lay_b {es c0 : List Ent} {cs : List (List Ent)} (h : Lay es c0 cs) (e : Ent) (hn : es.length = 1024 * (cs.length + 1)) : Lay (es ++ [e]) c0 (cs ++ [[e]]) := by
  refine ⟨?_, by simp; omega, fun j c hc => ?_⟩
  · rw [h.first, List.take_append_of_le_length (by omega)]
  · by_cases hj : j < cs.length
    · rw [List.getElem?_append_left hj] at hc
      rw [chunk_same es e j (by omega)]
      exact h.nth j c hc
    · rw [List.getElem?_append_right (by omega)] at hc
      have hj' : j = cs.length := by
        rcases Nat.lt_or_ge (j - cs.length) 1 with h1 | h1
        · omega
        · rw [List.getElem?_eq_none (by simp; omega)] at hc; cases hc
      subst hj'
      simp at hc
      subst hc
      rw [List.drop_append, List.drop_of_length_le (by omega)]
      simp [hn]

theorem lay_c {es c0 : List Ent} {cs : List (List Ent)} {c : List Ent} (h : Lay es c0 (cs ++ [c])) (e : Ent) (hn : es.length / 1024 = cs.length + 1) :
    c.length = es.length - 1024 * (cs.length + 1) ∧ Lay (es ++ [e]) c0 (cs ++ [c ++ [e]]) := by
  have hc := h.nth cs.length c (by simp)
  have hl : c.length = es.length - 1024 * (cs.length + 1) := by rw [hc]; simp; omega
  refine ⟨hl, ?_, by simp; omega, fun j c' hc' => ?_⟩
  · rw [h.first, List.take_append_of_le_length (by omega)]
  · by_cases hj : j < cs.length
    · rw [List.getElem?_append_left hj] at hc'
      rw [chunk_same es e j (by omega)]
      exact h.nth j c' (by rw [List.getElem?_append_left hj]; exact hc')
    · rw [List.getElem?_append_right (by omega)] at hc'
      have hj' : j = cs.length := by
        rcases Nat.lt_or_ge (j - cs.length) 1 with h1 | h1
        · omega
        · rw [List.getElem?_eq_none (by simp; omega)] at hc'; cases hc'
      subst hj'
      simp at hc'
      subst hc'
      rw [List.drop_append_of_le_length (by omega), List.take_of_length_le (by simp; omega)]
      rw [hc, List.take_of_length_le (by simp; omega)]

end Go.Proofs.Ybulkdtxo.C
