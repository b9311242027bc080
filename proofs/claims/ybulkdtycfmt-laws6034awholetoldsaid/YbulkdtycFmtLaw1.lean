/-
  The law (f3): out of range; and where 'subsets' refuses.
-/
import Derived.Test.YbulkdtycFmtCmp
import Derived.Test.YbulkdtycFmtIs
namespace Go.Proofs.YbulkdtycFmt.S
open Go.RowKit Go.Extern.Stop Go.Stop Go.Extern

set_option maxRecDepth 100000 in
set_option maxHeartbeats 2000000 in
theorem law_out (n size : Int) (w : World) (h : n < 0 ∨ 4096 < n ∨ size < 0 ∨ 4096 < size) :
    Calls Ybaf.prog 3 #[.int .i64 n, .int .i64 size] w fun e w' => e = .returned (.bool true) ∧ Below w.heap.size w w' := by
  by_cases h1 : n < 0
  · go_enter Ybaf.func3, Ybaf.ntmps3
    go_wp2
    go_ret
    exact ⟨rfl, Below.refl _ _⟩
  by_cases h2 : 4096 < n
  · go_enter Ybaf.func3, Ybaf.ntmps3
    go_wp2
    go_ret
    exact ⟨rfl, Below.refl _ _⟩
  by_cases h3 : size < 0
  · clear h
    go_enter Ybaf.func3, Ybaf.ntmps3
    go_wp2
    go_ret
    exact ⟨rfl, Below.refl _ _⟩
  by_cases h4 : 4096 < size
  · clear h
    go_enter Ybaf.func3, Ybaf.ntmps3
    go_wp2
    go_ret
    exact ⟨rfl, Below.refl _ _⟩
  omega

theorem eql_nil22 (p : Option Addr) (l c : Nat) (w : World) : (binOp .eql 22 (.slice p l c) (.slice none 0 0)).run Ybaf.prog w = .ok (.bool p.isNone) w := by
  simp only [binOp]
  simp [run_equal_slice_nil w 22 27 p l c Ybaf.underlying22]

set_option maxRecDepth 100000 in
set_option maxHeartbeats 2000000 in
theorem law_no (n size c : Nat) (a : Addr) (w : World) (hn : n ≤ 4096) (hs : size ≤ n) (hg : w.cell? ⟨0, 0, none⟩ = some (.iface 55 (.pointer (some a)))) (hg0 : 0 < w.heap.size)
    (hsub : Calls Ybaf.prog 4 #[.int .i64 n, .int .i64 size] w fun r w' => ∃ v, r = .returned (.tuple #[.slice none 0 0, v]) ∧ Refused a w v w')
    (hpas : ∀ w1, Calls Ybaf.prog 5 #[.int .i64 n, .int .i64 size] w1 fun e w' => e = .returned (.int .i64 c) ∧ Below w1.heap.size w1 w') (hc : c ≤ 1048577)
    (hbad : 1048576 < c ∨ (c ≤ 1048576 ∧ 16777216 < c * size)) :
    Calls Ybaf.prog 3 #[.int .i64 n, .int .i64 size] w fun e w' => e = .returned (.bool true) ∧ Below w.heap.size w w' := by
  have hle : ¬ (n : Int) < size := by omega
  obtain ⟨C, hC⟩ : ∃ C, C = c * size := ⟨_, rfl⟩
  have hm : (c : Int) * (size : Int) = (C : Int) := by rw [hC]; exact (Int.natCast_mul _ _).symm
  have hCle : C ≤ 1048577 * 4096 := by rw [hC]; exact Nat.mul_le_mul hc (by omega)
  rw [← hC] at hbad
  clear hC
  have e22 := eql_nil22
  go_enter Ybaf.func3, Ybaf.ntmps3
  go_wp2_with (go_at_call 4; refine hsub.mono ?_; rintro e w1 ⟨v, rfl, pb, rfl, hpb, hcell, hb1⟩)
  have hp := hpas w1
  have hg1 := (hb1.cell (p := ⟨0, 0, none⟩) hg0).trans hg
  have hpl : pb < w1.heap.size := World.block_lt_of_cell? _ _ hcell
  refine hp.mono ?_
  rintro e w2 ⟨rfl, hb2⟩
  have hg2 := (hb2.cell (p := ⟨0, 0, none⟩) (by show 0 < w1.heap.size; omega)).trans hg1
  have hc2 := (hb2.cell (p := ⟨pb, 1, none⟩) hpl).trans hcell
  have hbb := hb1.trans (hb2.mono hb1.size)
  have his := is_wrap_same pb 0 a w2 hc2
  clear hg1 hg hcell hp hpas hsub
  simp only []
  go_at_K
  rcases hbad with h1 | ⟨h1, h2⟩
  · have h1' : (1048576 : Int) < c := by omega
    go_wp2_with (go_at_call 6; refine his.mono ?_; rintro e w3 ⟨rfl, rfl⟩)
    go_ret
    exact ⟨rfl, hbb⟩
  · have h1' : ¬ (1048576 : Int) < c := by omega
    have h2' : (16777216 : Int) < C := by omega
    go_wp2_with (go_at_call 6; refine his.mono ?_; rintro e w3 ⟨rfl, rfl⟩)
    go_ret
    exact ⟨rfl, hbb⟩
end Go.Proofs.YbulkdtycFmt.S
