/-
  What 'zzs6034agen' (f7) keeps: the row 'cur' in block gc, the list of sets 'out', each set a block of its own above gc.
-/
import Derived.Test.YbulkdtycFmtPas
import Derived.OwnWalk
namespace Go.Proofs.YbulkdtycFmt.S
open Go.RowKit

abbrev iv (x : Nat) : Value := .int .i64 (x : Int)
abbrev sl (size g : Nat) : Value := .slice (some ⟨g, 0, none⟩) size size

structure Outs (w : World) (gc size : Nat) (vo : Value) (gs : List Nat) (L : List (List Nat)) : Prop where
  own : w.ownsRow (gc + 1) 27 1 vo L.length (gs.map (sl size))
  len : gs.length = L.length
  each : ∀ (i g : Nat) (l : List Nat), gs[i]? = some g → L[i]? = some l → gc < g ∧ w.heap[g]? = some (.cells (l.map iv).toArray 3 (0, 0))

structure Gen (w : World) (gc size k : Nat) (cur : List Nat) (vo : Value) (L : List (List Nat)) : Prop where
  cur : w.ownsRow gc 3 1 (.slice (some ⟨gc, 0, none⟩) k size) k (cur.map iv)
  out : ∃ gs, Outs w gc size vo gs L

theorem own_keep {w w' : World} {B : Nat} {e : TypeId} {v : Value} {n : Nat} {xs : List Value} (h : w.ownsRow B e 1 v n xs) (hk : ∀ b, B ≤ b → b < w.heap.size → v.ownBlock = some b → w'.heap[b]? = w.heap[b]?) : w'.ownsRow B e 1 v n xs := by
  obtain ⟨h1, h2 | ⟨g, cap, cur, rfl, hB, hg, hr⟩⟩ := h
  · exact ⟨h1, .inl h2⟩
  · exact ⟨h1, .inr ⟨g, cap, cur, rfl, hB, (hk g hB (lt_of_heap hg) rfl).trans hg, hr⟩⟩

theorem own_block {w : World} {B : Nat} {e : TypeId} {v : Value} {n : Nat} {xs : List Value} (h : w.ownsRow B e 1 v n xs) {b : Nat} (hb : v.ownBlock = some b) : B ≤ b ∧ ∃ c, w.heap[b]? = some (.cells c e (0, 0)) := by
  obtain ⟨h1, ⟨rfl, h2⟩ | ⟨g, cap, cur, rfl, hB, hg, hr⟩⟩ := h
  · cases hb
  · simp only [Value.ownBlock, Option.some.injEq] at hb
    subst hb
    exact ⟨hB, cur, hg⟩

/-- The first k of k + 1. -/
theorem own_less {w : World} {B g cap k : Nat} {e : TypeId} {xs : List Value} {x : Value} (h : w.ownsRow B e 1 (.slice (some ⟨g, 0, none⟩) (k + 1) cap) (k + 1) (xs ++ [x])) : w.ownsRow B e 1 (.slice (some ⟨g, 0, none⟩) k cap) k xs := by
  obtain ⟨h1, ⟨h2, _⟩ | ⟨g', cap', cur, hv, hB, hg, hc, hm, hs, ht⟩⟩ := h
  · cases h2
  · injection hv with h3 h4 h5
    injection h3 with h3
    injection h3 with h3
    subst h3 h5
    simp at h1
    refine ⟨by simpa using h1, .inr ⟨g, cap, cur, rfl, hB, hg, by omega, hm, hs, ?_⟩⟩
    have h6 := congrArg (List.take k) ht
    rw [List.take_take, Nat.min_eq_left (by omega)] at h6
    simpa [h1] using h6

theorem Outs.keep {w w' : World} {gc size : Nat} {vo : Value} {gs : List Nat} {L : List (List Nat)} (h : Outs w gc size vo gs L) (hk : ∀ b, gc < b → b < w.heap.size → w'.heap[b]? = w.heap[b]?) : Outs w' gc size vo gs L := by
  obtain ⟨h1, h2, h3⟩ := h
  refine ⟨own_keep h1 fun b hb hl _ => hk b (by omega) hl, h2, fun i g l hg hl => ?_⟩
  obtain ⟨h4, h5⟩ := h3 i g l hg hl
  exact ⟨h4, (hk g h4 (lt_of_heap h5)).trans h5⟩

/-- A party more in 'cur'. -/
theorem Gen.push {w w' : World} {gc size k q : Nat} {cur : List Nat} {vo : Value} {L : List (List Nat)} (h : Gen w gc size k cur vo L) (o : Obj) (hg : (w.alloc o).grownBy w' (some gc)) (hown : w'.ownsRow gc 3 1 (.slice (some ⟨gc, 0, none⟩) (k + 1) size) (k + 1) (cur.map iv ++ [iv q])) :
    Gen w' gc size (k + 1) (cur ++ [q]) vo L := by
  obtain ⟨h1, gs, h2⟩ := h
  refine ⟨by simpa using hown, gs, h2.keep fun b hb hl => ?_⟩
  rw [hg.block b (by simp; omega) (by simp; omega), Below.heap_alloc _ _ _ hl]

/-- A party less. -/
theorem Gen.pop {w : World} {gc size k q : Nat} {cur : List Nat} {vo : Value} {L : List (List Nat)} (h : Gen w gc size (k + 1) (cur ++ [q]) vo L) : Gen w gc size k cur vo L := by
  obtain ⟨h1, h2⟩ := h
  simp only [List.map_append, List.map_cons, List.map_nil] at h1
  exact ⟨own_less h1, h2⟩

/-- A set more in 'out': made (block w.heap.size), filled, then appended. -/
theorem Gen.add {w w2 w3 w4 : World} {gc size k gset : Nat} {cur : List Nat} {vo vo' : Value} {L : List (List Nat)} {o : Obj} (h : Gen w gc size k cur vo L) (hgs : gset = w.heap.size) (hb : Below w.heap.size w w2) (hset : w2.heap[gset]? = some (.cells (cur.map iv).toArray 3 (0, 0)))
    (h3 : w3 = w2.alloc o) (hg : w3.grownBy w4 vo.ownBlock) (gs : List Nat) (O : Outs w gc size vo gs L) (hown : w4.ownsRow (gc + 1) 27 1 vo' (L.length + 1) (gs.map (sl size) ++ [sl size gset])) :
    Gen w4 gc size k cur vo' (L ++ [cur]) ∧ Below gc w w4 := by
  obtain ⟨h1, -⟩ := h
  obtain ⟨h2, h5, h6⟩ := O
  subst h3 hgs
  have hcl : gc < w.heap.size := by
    obtain ⟨-, ⟨hh, -⟩ | ⟨g, cap, c, hv, hB, hgg, -⟩⟩ := h1
    · cases hh
    · injection hv with hv
      injection hv with hv
      injection hv with hv
      subst hv
      exact lt_of_heap hgg
  have hkeep : ∀ b, b < w.heap.size → some b ≠ vo.ownBlock → w4.heap[b]? = w.heap[b]? := fun b hl hne => by
    have s1 := hb.size
    rw [hg.block b (by simp; omega) hne, Below.heap_alloc _ _ _ (by omega), hb.block b hl]
  have hnew : w4.heap[w.heap.size]? = some (.cells (cur.map iv).toArray 3 (0, 0)) := by
    have s1 := lt_of_heap hset
    rw [hg.block _ (by simp; omega), Below.heap_alloc _ _ _ s1, hset]
    intro hh
    obtain ⟨-, c, hc⟩ := own_block h2 hh.symm
    exact absurd (lt_of_heap hc) (by omega)
  have hgc : some gc ≠ vo.ownBlock := fun hh => by
    have := (own_block h2 hh.symm).1
    omega
  refine ⟨⟨own_keep h1 fun b hB hl hv => ?_, gs ++ [w.heap.size], ?_, ?_, ?_⟩, ?_⟩
  · simp only [Value.ownBlock, Option.some.injEq] at hv
    subst hv
    exact hkeep gc hl hgc
  · simpa using hown
  · simp [h5]
  · intro i g l hgi hli
    rcases Nat.lt_trichotomy i L.length with hi | hi | hi
    · rw [List.getElem?_append_left (by omega)] at hgi hli
      obtain ⟨h7, h8⟩ := h6 i g l hgi hli
      refine ⟨h7, (hkeep g (lt_of_heap h8) fun hh => ?_).trans h8⟩
      obtain ⟨-, c, hc⟩ := own_block h2 hh.symm
      rw [h8] at hc
      injection hc with hc
      injection hc with _ hc _
      cases hc
    · subst hi
      rw [List.getElem?_append_right (Nat.le_refl _)] at hli
      rw [List.getElem?_append_right (by omega), h5] at hgi
      simp at hli hgi
      subst hli hgi
      exact ⟨hcl, hnew⟩
    · rw [List.getElem?_append_right (by omega), List.getElem?_eq_none (by simp; omega)] at hli
      cases hli
  · refine ⟨hg.os.trans hb.os, hg.tape.trans hb.tape, hg.output.trans hb.output, ?_, fun b hl => hkeep b (by omega) fun hh => ?_⟩
    · have s1 := hb.size
      have s2 := hg.size
      simp at s2
      omega
    · have := (own_block h2 hh.symm).1
      omega

end Go.Proofs.YbulkdtycFmt.S
