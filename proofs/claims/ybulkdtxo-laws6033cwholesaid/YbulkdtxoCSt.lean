/-
  The state that the two loops hand on: the tables below, x's own cells, the undo log, and the law's own log beside it (no Go text is walked here).
-/
import Derived.Test.YbulkdtxoCTabs
namespace Go.Proofs.Ybulkdtxo.C
open Go.RowKit

def urec (g : Nat) (e : Ent) : Rec := ⟨70, 4, .slice (some ⟨g, 0, none⟩) 1 1, 1, e.cells⟩
def lrec (v : Value) (es : List Ent) : Rec := ⟨70, 4, v, es.length, flat es⟩

structure St (wo wr : World) (b : Nat) (tb : Nat → Nat) (es : List Ent) (vlog : Value) (xc : Nat → Value) : Prop where
  below : Below b wo wr
  size : b + 1 ≤ wr.heap.size
  xs : ∀ j, (j < 4 ∨ 7 ≤ j) → j < 15 → wr.cell? ⟨b, j, none⟩ = some (xc j) ∧ wr.frozen? ⟨b, j, none⟩ = false
  inv : Inv wr (b + 1) b es [lrec vlog es]
  good : ∀ e ∈ es, e.ok ∧ ∃ j, j < 3 ∧ e.t = some ⟨tb j, 0, none⟩

theorem inv_u {wr W : World} {base b gu : Nat} {es : List Ent} {X : List Rec} (e : Ent) (h : Inv wr base b es X) (hbl : b < wr.heap.size) (hbase : base ≤ wr.heap.size) (hB : Below wr.heap.size wr W)
    (hu : W.heap[gu]? = some (.cells e.cells.toArray 70 (0, 0))) (hgu : wr.heap.size ≤ gu) : Inv W base b es (urec gu e :: X) := by
  obtain ⟨c0, cs, v1, vr, vs, R⟩ := h
  have c := fun o => hB.cell (p := ⟨b, o, none⟩) hbl
  have f := fun o => hB.frozen (p := ⟨b, o, none⟩) hbl
  refine ⟨c0, cs, v1, vr, vs, (c 4).trans R.first, (c 5).trans R.rest, (c 6).trans R.cnt, (f 4).trans R.fz4, (f 5).trans R.fz5, (f 6).trans R.fz6, R.lay, R.len, ?_⟩
  have hO := (R.owns.below hB).add (r := urec gu e) ⟨rfl, .inr ⟨gu, 1, e.cells.toArray, rfl, by omega, hu, Nat.le_refl 1, by unfold maxLen; omega, rfl, rfl⟩⟩ (by
    intro s hs k hk hsk
    obtain rfl : gu = k := by simpa [urec, Value.ownBlock] using hk
    have := (World.ownsRow.lt (R.owns.1 s hs) _ hsk).2
    omega)
  refine hO.perm ?_
  refine (List.Perm.swap _ _ _).trans (List.Perm.cons _ ?_)
  refine (List.Perm.swap _ _ _).trans (List.Perm.cons _ ?_)
  exact List.perm_middle.symm

theorem inv_log {w2 W2 w3 : World} {base b g : Nat} {es : List Ent} {r r' : Rec} {X : List Rec} (h : Inv w2 base b es (X ++ [r])) (hb : b < base) (hbl : b < w2.heap.size) (hB : Below w2.heap.size w2 W2) (hg : W2.grownBy w3 r.v.ownBlock)
    (hr : r'.holds w3 base) (hv : r'.v.ownBlock = some g) (hat : r.v.ownBlock = some g ∨ w2.heap.size ≤ g) : Inv w3 base b es [r'] := by
  obtain ⟨c0, cs, v1, vr, vs, R⟩ := h
  have hown : r.holds w2 base := R.owns.1 r (by simp)
  have A := fun o => after_append hB hg ⟨b, o, none⟩ hbl (below_block (b := b) hown hb)
  refine ⟨c0, cs, v1, vr, vs, (A 4).1.trans R.first, (A 5).1.trans R.rest, (A 6).1.trans R.cnt, (A 4).2.trans R.fz4, (A 5).2.trans R.fz5, (A 6).2.trans R.fz6, R.lay, R.len, ?_⟩
  have hO := (R.owns.perm (L' := r :: (⟨70, 4, v1, c0.length, flat c0⟩ :: ⟨53, 1, vr, vs.length, vs⟩ :: (chunks vs cs ++ X))) (by
    rw [← List.append_assoc]
    exact (List.perm_append_singleton r (⟨70, 4, v1, c0.length, flat c0⟩ :: ⟨53, 1, vr, vs.length, vs⟩ :: (chunks vs cs ++ X))))).grown hB hg hr hv hat
  have hO2 : Owns w3 base (r' :: (⟨70, 4, v1, c0.length, flat c0⟩ :: ⟨53, 1, vr, vs.length, vs⟩ :: chunks vs cs)) :=
    ⟨fun s hs => hO.1 s (by
        rcases List.mem_cons.1 hs with rfl | hs
        · exact List.mem_cons_self
        · refine List.mem_cons_of_mem _ ?_
          rcases List.mem_cons.1 hs with rfl | hs
          · exact List.mem_cons_self
          · refine List.mem_cons_of_mem _ ?_
            rcases List.mem_cons.1 hs with rfl | hs
            · exact List.mem_cons_self
            · exact List.mem_cons_of_mem _ (List.mem_append_left _ hs)),
      hO.2.sublist (List.Sublist.cons_cons _ (List.Sublist.cons_cons _ (List.Sublist.cons_cons _ (List.sublist_append_left _ _))))⟩
  refine hO2.perm ?_
  exact (List.perm_append_singleton r' (⟨70, 4, v1, c0.length, flat c0⟩ :: ⟨53, 1, vr, vs.length, vs⟩ :: chunks vs cs)).symm

theorem St.next {wo wr W w2 W2 w3 : World} {b g gu cap n : Nat} {tb : Nat → Nat} {es : List Ent} {vlog : Value} {xc : Nat → Value} {e : Ent} (h : St wo wr b tb es vlog xc) (hB : Below wr.heap.size wr W)
    (hi : Inv w2 (b + 1) b (es ++ [e]) [urec gu e, lrec vlog es]) (hk : Kept W w2 (b + 1) b) (hB2 : Below w2.heap.size w2 W2) (hg : W2.grownBy w3 vlog.ownBlock) (hn : n = es.length + 1)
    (hown : w3.ownsRow (b + 1) 70 4 (.slice (some ⟨g, 0, none⟩) n cap) n (flat es ++ e.cells)) (hat : vlog.ownBlock = some g ∨ w2.heap.size ≤ g)
    (he : e.ok ∧ ∃ j, j < 3 ∧ e.t = some ⟨tb j, 0, none⟩) : St wo w3 b tb (es ++ [e]) (.slice (some ⟨g, 0, none⟩) n cap) xc := by
  have hs := h.size
  have hsW := hB.size
  have hs2 := hk.size
  have hlo : ∀ k, vlog.ownBlock = some k → b + 1 ≤ k := fun k hk' => (World.ownsRow.lt (h.inv.rows.1 _ (List.mem_singleton_self _)) k hk').1
  have K : Kept wr w3 (b + 1) b := ((kept_below hB hs (by omega)).trans hk).trans ((kept_below hB2 (by omega) (by omega)).trans (kept_grown hg (by have := hB2.size; omega) hlo (by omega)))
  refine ⟨?_, ?_, ?_, ?_, ?_⟩
  · exact h.below.trans ⟨K.os, K.tape, K.output, K.size, fun k hk' => K.block k (by omega) (by omega)⟩
  · have := K.size; omega
  · intro j hj hj15
    rw [K.cell j hj, K.frozen j]
    exact h.xs j hj hj15
  · refine inv_log (X := [urec gu e]) (r := lrec vlog es) (r' := lrec (.slice (some ⟨g, 0, none⟩) n cap) (es ++ [e])) hi (by omega) (by omega) hB2 hg ?_ rfl hat
    unfold Rec.holds lrec
    rw [flat_append, flat_one, show (es ++ [e]).length = n by simp [hn]]
    exact hown
  · intro x hx
    rcases List.mem_append.1 hx with hx | hx
    · exact h.good x hx
    · rw [List.mem_singleton.1 hx]; exact he

theorem push_u {wo wr W : World} {b gu : Nat} {tb : Nat → Nat} {es : List Ent} {vlog : Value} {xc : Nat → Value} (S : St wo wr b tb es vlog xc) (hn : es.length ≤ 100000) (hB : Below wr.heap.size wr W)
    (t : Option Addr) (pos : Int) (ra : Option Addr) (rl rc : Nat) (cl : Option Addr) (hu : W.heap[gu]? = some (.cells #[.pointer t, .int .i64 pos, .slice ra rl rc, .pointer cl] 70 (0, 0))) (hgu : wr.heap.size ≤ gu) :
    Calls Yba.prog 10 #[.pointer (some ⟨b, 4, none⟩), .agg #[.pointer t, .int .i64 pos, .slice ra rl rc, .pointer cl]] W.drew fun r w2 => r = .returned (.tuple #[]) ∧
      Inv w2 (b + 1) b (es ++ [⟨t, pos, ra, rl, rc, cl⟩]) [urec gu ⟨t, pos, ra, rl, rc, cl⟩, lrec vlog es] ∧ Kept W w2 (b + 1) b ∧
      w2.cell? ⟨gu, 0, none⟩ = some (.pointer t) ∧ w2.cell? ⟨gu, 1, none⟩ = some (.int .i64 pos) ∧ w2.cell? ⟨gu, 2, none⟩ = some (.slice ra rl rc) ∧ w2.cell? ⟨gu, 3, none⟩ = some (.pointer cl) ∧
      w2.ownsRow (b + 1) 70 4 vlog es.length (flat es) ∧ gu < w2.heap.size ∧ b + 1 ≤ w2.heap.size := by
  have hs := S.size
  have hI : Inv W.drew (b + 1) b es (urec gu ⟨t, pos, ra, rl, rc, cl⟩ :: [lrec vlog es]) := inv_u ⟨t, pos, ra, rl, rc, cl⟩ S.inv (by omega) (by omega) hB.drew hu hgu
  refine (push_any W.drew (b + 1) b es _ ⟨t, pos, ra, rl, rc, cl⟩ hI (by omega) (Nat.le_trans hs hB.size) hn).mono ?_
  rintro r w2 ⟨rfl, hi, hk⟩
  have hr := hi.rows.1
  have hU : w2.ownsRow (b + 1) 70 4 (.slice (some ⟨gu, 0, none⟩) 1 1) 1 (Ent.cells ⟨t, pos, ra, rl, rc, cl⟩) := hr (urec gu ⟨t, pos, ra, rl, rc, cl⟩) (by simp)
  have C := fun j hj => hU.cellAt j hj
  refine ⟨rfl, hi, ⟨hk.os, hk.tape, hk.output, hk.size, hk.block, hk.cell, hk.frozen⟩, C 0 (by omega), C 1 (by omega), C 2 (by omega), C 3 (by omega), hr (lrec vlog es) (by simp), (hU.lt gu rfl).2, ?_⟩
  have := hk.size
  exact Nat.le_trans (Nat.le_trans hs hB.size) this

def upd (xc : Nat → Value) (j : Nat) (u : Value) : Nat → Value := fun i => if i = j then u else xc i

/-- A store into one of x's own cells beside the header. -/
theorem St.setx {wo wr : World} {b : Nat} {tb : Nat → Nat} {es : List Ent} {vlog : Value} {xc : Nat → Value} (h : St wo wr b tb es vlog xc) (j : Nat) (hj : j < 4) (u : Value) : St wo (wr.setCell ⟨b, j, none⟩ u) b tb es vlog (upd xc j u) := by
  have ne : ∀ i, i ≠ j → (⟨b, j, none⟩ : Addr) ≠ ⟨b, i, none⟩ := fun i hi e => hi (congrArg Addr.off e).symm
  refine ⟨h.below.setCell (Nat.le_refl _) _, by have := h.size; simpa [World.setCell] using this, ?_, ?_, h.good⟩
  · intro i hi hi15
    simp only [World.frozen?_setCell]
    refine ⟨?_, (h.xs i hi hi15).2⟩
    unfold upd
    by_cases hij : i = j
    · subst hij
      rw [if_pos rfl]
      exact World.cell?_setCell_same _ _ _ (h.xs i hi hi15).1
    · rw [if_neg hij, World.cell?_setCell_other _ _ _ _ (ne i hij)]
      exact (h.xs i hi hi15).1
  · obtain ⟨c0, cs, v1, vr, vs, R⟩ := h.inv
    refine ⟨c0, cs, v1, vr, vs, ?_, ?_, ?_, ?_, ?_, ?_, R.lay, R.len, R.owns.setCell _ (by show b < b + 1; omega) _⟩
    · rw [World.cell?_setCell_other _ _ _ _ (ne 4 (by omega))]; exact R.first
    · rw [World.cell?_setCell_other _ _ _ _ (ne 5 (by omega))]; exact R.rest
    · rw [World.cell?_setCell_other _ _ _ _ (ne 6 (by omega))]; exact R.cnt
    · simp only [World.frozen?_setCell]; exact R.fz4
    · simp only [World.frozen?_setCell]; exact R.fz5
    · simp only [World.frozen?_setCell]; exact R.fz6

theorem St.more {wo wr w1 : World} {b : Nat} {tb : Nat → Nat} {es : List Ent} {vlog : Value} {xc : Nat → Value} (h : St wo wr b tb es vlog xc) (hB : Below wr.heap.size wr w1) : St wo w1 b tb es vlog xc := by
  have hs := h.size
  have hs1 := hB.size
  refine ⟨h.below.trans (hB.mono (by omega)), by omega, ?_, h.inv.below hB (by omega), h.good⟩
  intro j hj hj15
  rw [hB.cell (p := ⟨b, j, none⟩) (by show b < wr.heap.size; omega), hB.frozen (p := ⟨b, j, none⟩) (by show b < wr.heap.size; omega)]
  exact h.xs j hj hj15

theorem St.log {wo wr : World} {b : Nat} {tb : Nat → Nat} {es : List Ent} {vlog : Value} {xc : Nat → Value} (h : St wo wr b tb es vlog xc) : wr.ownsRow (b + 1) 70 4 vlog es.length (flat es) :=
  h.inv.rows.1 (lrec vlog es) (List.mem_singleton_self _)

/-- What the law itself reckons: is the latest entry one that drops rows of the same table? -/
def skips (alone : Bool) (oz : Nat) (es : List Ent) (t : Nat) : Bool :=
  alone && decide (oz < es.length) && match es.getLast? with
    | some l => decide (l.t = some ⟨t, 0, none⟩) && l.ra.isNone && l.cl.isNone
    | none => false

theorem skips_no (alone : Bool) (oz : Nat) (es : List Ent) (t : Nat) (h : (alone && decide (oz < es.length)) = false) : skips alone oz es t = false := by
  unfold skips; rw [h]; rfl

theorem skips_yes (oz : Nat) (es : List Ent) (l : Ent) (t : Nat) (h : oz < (es ++ [l]).length) : skips true oz (es ++ [l]) t = (decide (l.t = some ⟨t, 0, none⟩) && l.ra.isNone && l.cl.isNone) := by
  unfold skips
  rw [decide_eq_true h]
  simp

end Go.Proofs.Ybulkdtxo.C
