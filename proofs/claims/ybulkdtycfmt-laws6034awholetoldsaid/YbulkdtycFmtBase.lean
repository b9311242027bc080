/-
  Rows of cells in memory, by a function of the place.
-/
import Derived.Test.YbulkdtycFmtBin
import Derived.Laws.MakeOwn
import Derived.Laws.OwnMore
import Derived.Laws.CopyOwn
import Derived.Laws.Cover3
import Derived.Deep.QuietTactic
import Derived.BigQuiet
namespace Go.Proofs.YbulkdtycFmt.S
open Go.RowKit

def firstReg : Code → Option Nat
  | .region n _ _ => some n
  | .seq a _ => firstReg a
  | _ => none

/-- The rest of a body from the piece on that begins with region n. -/
def tailAt (n : Nat) : Code → Code
  | .seq a b => if firstReg a = some n then .seq a b else tailAt n b
  | c => c

theorem lt_of_heap {w : World} {k : Nat} {o : Obj} (h : w.heap[k]? = some o) : k < w.heap.size := by
  rcases Nat.lt_or_ge k w.heap.size with h1 | h1
  · exact h1
  · rw [Array.getElem?_eq_none h1] at h; cases h

theorem below_drewN {B : Nat} {a w : World} (h : Below B a w) (n : Nat) : Below B a (w.drewN n) := h.trans ⟨rfl, rfl, rfl, Nat.le_refl _, fun _ _ => rfl⟩

/-- Block g holds len cells of type e, the t-th is f t. -/
def Row (w : World) (g : Nat) (e : TypeId) (len : Nat) (f : Nat → Value) : Prop :=
  ∃ c : Array Value, w.heap[g]? = some (.cells c e (0, 0)) ∧ c.size = len ∧ ∀ t, t < len → c[t]? = some (f t)

namespace Row
variable {w w' : World} {g : Nat} {e : TypeId} {len : Nat} {f f' : Nat → Value}

theorem cell (h : Row w g e len f) (t : Nat) (ht : t < len) : w.cell? ⟨g, t, none⟩ = some (f t) := by
  obtain ⟨c, h1, _, h3⟩ := h
  simp [World.cell?, h1, h3 t ht]

theorem frozen (h : Row w g e len f) (t : Nat) : w.frozen? ⟨g, t, none⟩ = false := by
  obtain ⟨c, h1, _, h3⟩ := h
  simp [World.frozen?, h1]

theorem lt (h : Row w g e len f) : g < w.heap.size := by
  obtain ⟨c, h1, _⟩ := h
  exact lt_of_heap h1

theorem congr (h : Row w g e len f) (hf : ∀ t, t < len → f t = f' t) : Row w g e len f' := by
  obtain ⟨c, h1, h2, h3⟩ := h
  exact ⟨c, h1, h2, fun t ht => by rw [h3 t ht, hf t ht]⟩

theorem keep (h : Row w g e len f) (hk : w'.heap[g]? = w.heap[g]?) : Row w' g e len f := by
  obtain ⟨c, h1, h2, h3⟩ := h
  exact ⟨c, hk.trans h1, h2, h3⟩

theorem below {B : Nat} (h : Row w g e len f) (hb : Below B w w') (hg : g < B) : Row w' g e len f := h.keep (hb.block g hg)

theorem drewN (h : Row w g e len f) (n : Nat) : Row (w.drewN n) g e len f := h.keep rfl

theorem alloc (h : Row w g e len f) (o : Obj) : Row (w.alloc o) g e len f := h.keep (Below.heap_alloc _ _ _ h.lt)

theorem other {b i : Nat} (h : Row w g e len f) (v : Value) (hb : g ≠ b) : Row (w.setCell ⟨b, i, none⟩ v) g e len f := h.keep (Below.heap_setCell _ _ _ _ hb)

theorem set (h : Row w g e len f) (j : Nat) (v : Value) : Row (w.setCell ⟨g, j, none⟩ v) g e len (fun t => if t = j then v else f t) := by
  obtain ⟨c, h1, h2, h3⟩ := h
  refine ⟨c.setIfInBounds j v, ?_, by simpa using h2, fun t ht => ?_⟩
  · simp [World.setCell, Array.getElem?_modify, h1]
  · by_cases hj : t = j
    · subst hj
      simp [h2, ht]
    · show _ = some (if t = j then v else f t)
      rw [if_neg hj, Array.getElem?_setIfInBounds_ne (by omega), h3 t ht]

theorem new (w : World) (e : TypeId) (c : Array Value) (f : Nat → Value) (hf : ∀ t, t < c.size → c[t]? = some (f t)) : Row (w.alloc (.cells c e)) w.heap.size e c.size f :=
  ⟨c, heap_alloc_new w _, rfl, hf⟩
end Row

theorem below_set {B : Nat} {a w : World} (h : Below B a w) (g j : Nat) (v : Value) (hg : B ≤ g) : Below B a (w.setCell ⟨g, j, none⟩ v) := h.setCell hg v

theorem info3 : (Ybaf.prog.info? 3).map (fun i => (i.zero, i.size, i.bytes)) = some (some (.int .i64 0), 1, 8) := by kernel_rfl
theorem info27 : (Ybaf.prog.info? 27).map (fun i => (i.zero, i.size, i.bytes)) = some (some (.slice none 0 0), 1, 24) := by kernel_rfl

theorem made_get (z : Value) (n t : Nat) (ht : t < n) : (madeCells #[z] n)[t]? = some z := by
  have h := toList_madeCells_one z n
  have h2 : (madeCells #[z] n).toList[t]? = some z := by rw [h]; simp [ht]
  simpa using h2

/-- make of a row of ints. -/
theorem run_make3 (w : World) (l n : Nat) (hl : l ≤ n) (hn : n ≤ 16777216) : (Instr.makeSlice 27 (.int .i64 (l : Int)) (.int .i64 (n : Int))).run Ybaf.prog w = .ok (.slice (some ⟨w.heap.size, 0, none⟩) l n) (w.alloc (.cells (madeCells #[.int .i64 0] n) 3)) := by
  obtain ⟨i0, hi, hz0, hz1, hz2⟩ := info_parts info3
  have h := run_make (P := Ybaf.prog) w 27 3 i0 (.int .i64 0) Ybaf.underlying27 hi hz0 .i64 .i64 l n (by omega) (by omega) (by rw [hz2]; omega) (by omega)
  simpa [Int.toNat_natCast, hz1, Value.cells] using h

/-- make of a row of slices. -/
theorem run_make27 (w : World) (n : Nat) (hn : n ≤ 16777216) : (Instr.makeSlice 22 (.int .i64 (n : Int)) (.int .i64 (n : Int))).run Ybaf.prog w = .ok (.slice (some ⟨w.heap.size, 0, none⟩) n n) (w.alloc (.cells (madeCells #[.slice none 0 0] n) 27)) := by
  obtain ⟨i0, hi, hz0, hz1, hz2⟩ := info_parts info27
  have h := run_make (P := Ybaf.prog) w 22 27 i0 (.slice none 0 0) Ybaf.underlying22 hi hz0 .i64 .i64 n n (by omega) (by omega) (by rw [hz2]; omega) (by omega)
  simpa [Int.toNat_natCast, hz1, Value.cells] using h

end Go.Proofs.YbulkdtycFmt.S
