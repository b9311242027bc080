/-
  What stands behind 'startHeader' in the law: the receiver's cells, the template's cells, the twelve bytes; and what keeps it.
-/
import Derived.Test.YbulkdtzsStart
namespace Go.Proofs.Ybulkdtzs.S
open Go.RowKit

def body (id fl rc : Nat) : List Value := body12 fl rc [Value.int .u8 ((id : Int) / 256), Value.int .u8 ((id : Int) % 256)]

structure Ready (W : World) (rb tb g : Nat) (v : Value) (tc rc11 : Array Value) (bs : List Value) : Prop where
  rbc : W.heap[rb]? = some (.cells (rc11.setIfInBounds 1 v) 29 (0, 0))
  tbc : W.heap[tb]? = some (.cells tc 26 (0, 0))
  row : ∃ cur : Array Value, W.heap[g]? = some (.cells cur 5 (0, 0)) ∧ cur.toList.take 12 = bs

theorem heap_setCell_in {w : World} {b : Nat} {c : Array Value} {t : TypeId} (h : w.heap[b]? = some (.cells c t (0, 0))) (i : Nat) (v : Value) : (w.setCell ⟨b, i, none⟩ v).heap[b]? = some (.cells (c.setIfInBounds i v) t (0, 0)) := by
  simp [World.setCell, Array.getElem?_modify, h]

theorem ready_made {w w4 : World} {B rb tb g cap : Nat} {tc rc11 : Array Value} {bs : List Value} (own : w4.ownsRow B 5 1 (.slice (some ⟨g, 0, none⟩) 12 cap) 12 bs) (k : KeepT w w4) (hr : w.heap[rb]? = some (.cells rc11 29 (0, 0))) (ht : w.heap[tb]? = some (.cells tc 26 (0, 0))) (v : Value) :
    Ready (w4.setCell ⟨rb, 1, none⟩ v) rb tb g v tc rc11 bs := by
  have hr4 := k rb _ 29 (by decide) hr
  have ht4 := k tb _ 26 (by decide) ht
  obtain ⟨-, ⟨h, -⟩ | ⟨gg, cp, cur, h, -, hg, -, -, -, htk⟩⟩ := own
  · cases h
  · injection h with h _ _
    injection h with h
    injection h with h
    subst h
    have n1 : tb ≠ rb := by rintro rfl; rw [hr4] at ht4; cases ht4
    have n2 : g ≠ rb := by rintro rfl; rw [hr4] at hg; cases hg
    exact ⟨heap_setCell_in hr4 1 v, (Below.heap_setCell _ _ _ _ n1).trans ht4, cur, (Below.heap_setCell _ _ _ _ n2).trans hg, by simpa using htk⟩

theorem Ready.below {W W' : World} {rb tb g : Nat} {v : Value} {tc rc11 : Array Value} {bs : List Value} (h : Ready W rb tb g v tc rc11 bs) (hb : Below W.heap.size W W') : Ready W' rb tb g v tc rc11 bs := by
  obtain ⟨h1, h2, cur, h3, h4⟩ := h
  exact ⟨(hb.block _ (lt_of_heap h1)).trans h1, (hb.block _ (lt_of_heap h2)).trans h2, cur, (hb.block _ (lt_of_heap h3)).trans h3, h4⟩

theorem Ready.byte {W : World} {rb tb g : Nat} {v : Value} {tc rc11 : Array Value} {bs : List Value} (h : Ready W rb tb g v tc rc11 bs) (j : Nat) (hj : j < 12) (x : Value) (hx : bs[j]? = some x) : W.cell? ⟨g, j, none⟩ = some x := by
  obtain ⟨-, -, cur, h3, h4⟩ := h
  have : cur[j]? = some x := by
    rw [← h4, List.getElem?_take, if_pos hj] at hx
    simpa using hx
  simp [World.cell?, h3, this]

end Go.Proofs.Ybulkdtzs.S
