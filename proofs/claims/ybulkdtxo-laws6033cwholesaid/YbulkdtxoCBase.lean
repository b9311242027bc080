/-
  The undo log 'blocks[undo]' of LawS6033CWhole: its entries, and what the world holds of it (no Go text is walked here).
-/
import Derived.WalkKit
import Derived.Deep.AppendLies
import Derived.Deep.Quiet
namespace Go.Proofs.Ybulkdtxo.C
open Go.RowKit

/-- One entry of the log, as its four cells read. -/
structure Ent where
  t : Option Addr
  pos : Int
  ra : Option Addr
  rl : Nat
  rc : Nat
  cl : Option Addr

def Ent.cells (e : Ent) : List Value := [.pointer e.t, .int .i64 e.pos, .slice e.ra e.rl e.rc, .pointer e.cl]
def flat (es : List Ent) : List Value := es.flatMap Ent.cells

theorem cells_length (e : Ent) : e.cells.length = 4 := rfl
theorem flat_length (es : List Ent) : (flat es).length = es.length * 4 := by
  induction es with
  | nil => rfl
  | cons e es ih => simp only [flat, List.flatMap_cons, List.length_append, List.length_cons, cells_length] at ih ⊢; omega
theorem flat_append (a b : List Ent) : flat (a ++ b) = flat a ++ flat b := by simp [flat]
theorem flat_one (e : Ent) : flat [e] = e.cells := by simp [flat]
theorem flat_get (es : List Ent) (i : Nat) (e : Ent) (h : es[i]? = some e) (j : Nat) (hj : j < 4) : (flat es)[i * 4 + j]? = e.cells[j]? := by
  induction es generalizing i with
  | nil => simp at h
  | cons x es ih =>
    simp only [flat, List.flatMap_cons]
    cases i with
    | zero =>
      simp at h; subst h
      rw [List.getElem?_append_left (by rw [cells_length]; omega)]; simp
    | succ i =>
      rw [List.getElem?_append_right (by rw [cells_length]; omega), cells_length]
      have := ih i (by simpa using h)
      rw [show (i + 1) * 4 + j - 4 = i * 4 + j by omega]
      exact this

theorem below_drewN {B : Nat} {a w : World} (h : Below B a w) (n : Nat) : Below B a (w.drewN n) := h.trans ⟨rfl, rfl, rfl, Nat.le_refl _, fun _ _ => rfl⟩

end Go.Proofs.Ybulkdtxo.C
