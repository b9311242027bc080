/-
  The law (f3) where the size is larger than n: one set.
-/
import Derived.Test.YbulkdtycFmtLaw1
namespace Go.Proofs.YbulkdtycFmt.S
open Go.RowKit Go.Extern.Stop Go.Stop Go.Extern

def one (size : Nat) (_ t : Nat) : Nat := if t < size then t + 1 else 0

theorem table_one (n size : Nat) (hs : size ≤ 4096) : Table n size 1 (one size) := by
  refine ⟨fun t ht => by simp [one, ht], fun i hi => by omega, fun i t => ?_, fun h => by omega⟩
  unfold one
  split <;> omega

theorem Sub.both {w w1 w2 : World} {size cnt gw : Nat} {T : Nat → Nat → Nat} (S : Sub w w1 size cnt cnt T) (hb : Below w1.heap.size w1 w2)
    (two : ∀ i, i < cnt → ∃ g, g < w2.heap.size ∧ w2.cell? ⟨gw, i, none⟩ = some (.slice (some ⟨g, 0, none⟩) size size) ∧ ∀ t, t < size → w2.cell? ⟨g, t, none⟩ = some (.int .i64 (T i t : Nat))) (gwl : gw < w2.heap.size) :
    Both w2 (w.heap.size + 1) gw size cnt T := by
  obtain ⟨⟨f, hr, hf⟩, ⟨f2, hr2, hf2⟩, hbel⟩ := S
  have l1 := hr.lt
  have l2 := hr2.lt
  have l3 := hb.size
  refine ⟨fun i hi => ⟨w.heap.size, i * size, by omega, ?_, fun t ht => ?_⟩, two, by omega, gwl⟩
  · rw [hb.cell (p := ⟨w.heap.size + 1, i, none⟩) l2, hr2.cell i hi, hf2 i hi]
  · rw [hb.cell (p := ⟨w.heap.size, i * size + t, none⟩) l1, hr.cell _ (idx_lt hi ht), hf i t hi ht]

set_option maxRecDepth 1000000 in
set_option maxHeartbeats 4000000 in
theorem law_over (n size : Nat) (w : World) (hs : size ≤ 4096) (hns : n < size) :
    Calls Ybaf.prog 3 #[.int .i64 n, .int .i64 size] w fun e w' => e = .returned (.bool true) ∧ Below w.heap.size w w' := by
  have hsub := subs_ok n size 1 (one size) w (by omega) hs (Nat.le_refl _) (by decide) (by omega) (table_one n size hs) (bin_over n size hns hs w)
  have hlt : (n : Int) < size := by omega
  have k1 : (n : Int) ≤ 4096 := by omega
  have k2 : (size : Int) ≤ 4096 := by omega
  go_enter Ybaf.func3, Ybaf.ntmps3
  have hmk := fun w1 => run_make3 w1 size size (Nat.le_refl _) (by omega)
  go_wp2_with (go_at_call 4; refine hsub.mono ?_; rintro e w1 ⟨rfl, S1⟩)
  have hr0 := Row.new w1 3 (madeCells #[.int .i64 0] size) (fun _ => .int .i64 0) (fun t ht => made_get _ _ _ (by simpa [size_madeCells] using ht))
  have e1 : (madeCells #[Value.int .i64 0] size).size = size := by simp [size_madeCells]
  rw [e1] at hr0
  have hb0 : Below w1.heap.size w1 (w1.alloc (.cells (madeCells #[.int .i64 0] size) 3)) := (Below.refl _ w1).alloc (Nat.le_refl _) _
  clear hmk e1
  generalize w1.alloc (.cells (madeCells #[.int .i64 0] size) 3) = w2 at hr0 hb0 ⊢
  go_loopg [9] size (fun g j wr => ∃ J : Nat, J + g = size ∧ j = .int .i64 J ∧ Below w1.heap.size w1 wr ∧ ∃ f, Row wr w1.heap.size 3 size f ∧ ∀ t, t < J → f t = .int .i64 ((t : Int) + 1))
  case atStart => exact ⟨0, by omega, rfl, hb0, _, hr0, fun t ht => absurd ht (by omega)⟩
  case round =>
    obtain ⟨j, hj, rfl, hb, f, hr, hf⟩ := hrel
    clear hr0 hb0
    by_cases hjs : j < size
    · have hji : (j : Int) < size := by omega
      have HJ : Hid (j + gk = size) := hj
      clear hj
      have c1 := hr.cell j hjs
      have c2 := hr.frozen j
      have c3 : ∃ v, (World.cell? wr ⟨w1.heap.size, j, none⟩) = some v := ⟨_, c1⟩
      clear c1
      obtain ⟨v, c1⟩ := c3
      go_wp2
      have hg := HJ.out
      go_roundg (size - (j + 1))
      case rel => exact ⟨j + 1, by omega, by go_num, below_set hb _ _ _ (Nat.le_refl _), _, hr.set j _, fun t ht => by
        by_cases e : t = j
        · subst e; simp
        · rw [if_neg e]; exact hf t (by omega)⟩
      case measure => omega
    · have hji : ¬ (j : Int) < size := by omega
      have hjs' : j = size := by omega
      rw [hjs'] at hf
      have hB := S1.both (w2 := World.alloc wr (.cells #[.slice (some ⟨w1.heap.size, 0, none⟩) size size] 27)) (gw := World.heap wr |>.size) (hb.alloc hb.size _) (fun i hi => ⟨w1.heap.size, by have := hr.lt; simp; omega, ?_, fun t ht => ?_⟩) (by simp)
      · iterate 32 go_step
        apply cmp_tail (w0 := w) (T := one size)
        · exact (S1.below.trans (hb.mono S1.below.size)).alloc (Nat.le_trans S1.below.size hb.size) _
        · exact hs
        · decide
        · exact hB
      · obtain rfl : i = 0 := by omega
        have h := heap_alloc_new wr (.cells #[.slice (some ⟨w1.heap.size, 0, none⟩) size size] 27)
        rw [World.cell?]
        simp only [h]
        rfl
      · rw [((Below.refl _ wr).alloc (Nat.le_refl _) _).cell (p := ⟨w1.heap.size, t, none⟩) hr.lt, hr.cell t ht, hf t ht, one, if_pos ht]
        rfl
end Go.Proofs.YbulkdtycFmt.S
