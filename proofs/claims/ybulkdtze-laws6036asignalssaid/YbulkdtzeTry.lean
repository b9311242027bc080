/-
  '(*sync.Mutex).TryLock' on a free lock; the stand-in context's 'Done'.
-/
import Derived.Test.YbulkdtzeRows
import Derived.Test.YbulkdtzeLocks
import Derived.Conc.MuLone
import Derived.WalkKit
namespace Go.Proofs.Ybulkdtze.S
open Go.RowKit

theorem size48 : (Yba.prog.info? 48).map (fun i => decide (i.size = 0)) = some false := by kernel_rfl

theorem conv_same {a : Addr} {v : Value} {w : World} (hc : w.cell? a = some v) : (convert 86 90 (.pointer (some a))).run Yba.prog w = .ok (.pointer (some a)) w := by
  obtain ⟨e, n, hsh, hlt, hsp⟩ := World.shape?_of_cell? hc
  obtain ⟨i, hi, hz0⟩ := Option.map_eq_some_iff.1 size48
  have hz : i.size ≠ 0 := by simpa using hz0
  have hge : ¬ (n ≤ a.off) := by omega
  simp [convert, run_underlying Yba.underlying86, run_underlying Yba.underlying90]
  conv => lhs; arg 2; whnf
  simp [Sem.run, Sem.run_bind', run_underlying Yba.underlying90, Yba.underlying86, Conv.seenAt, viewAt, cellsIn, sizeOf, typeInfo, hi, hz, hsh, hge, Result.andThen]
set_option maxRecDepth 100000 in
set_option maxHeartbeats 800000 in
theorem itry_free (b o : Nat) (w : World) (hc : w.cell? ⟨b, o, none⟩ = some (.int .i32 0)) (hz : w.frozen? ⟨b, o, none⟩ = false) :
    Calls Yba.prog 11 #[.pointer (some ⟨b, o, none⟩)] w fun e w' => e = .returned (.bool true) ∧ w' = w.setCell ⟨b, o, none⟩ (.int .i32 1) := by
  have hd := MuLone.disable Yba.muLib
  have he := MuLone.enable Yba.muLib
  have ha := MuLone.acquire Yba.muLib
  have hcas := run_call_cas_hit (P := Yba.prog) (f := 16) Yba.func16 (by kernel_rfl) (by kernel_rfl) (by kernel_rfl) .i32 (by kernel_rfl) (y := 1) hc hz
  have hcv := conv_same (World.cell?_setCell_same w ⟨b, o, none⟩ (.int .i32 1) hc)
  go_enter Yba.func11, Yba.ntmps11
  go_wp2
  go_ret
  exact ⟨rfl, rfl⟩

set_option maxRecDepth 100000 in
set_option maxHeartbeats 800000 in
theorem try_free (b o : Nat) (w : World) (hc : w.cell? ⟨b, o, none⟩ = some (.int .i32 0)) (hz : w.frozen? ⟨b, o, none⟩ = false) :
    Calls Yba.prog 8 #[.pointer (some ⟨b, o, none⟩)] w fun e w' => e = .returned (.bool true) ∧ w' = w.setCell ⟨b, o, none⟩ (.int .i32 1) := by
  go_enter Yba.func8, Yba.ntmps8
  go_wp2_with (go_at_call 11; refine (itry_free b o _ hc hz).mono ?_; rintro e w' ⟨rfl, rfl⟩)
  go_ret
  exact ⟨rfl, rfl⟩

set_option maxRecDepth 100000 in
set_option maxHeartbeats 800000 in
theorem done_any (c : Nat) (n : Nat) (d : Option Nat) (w : World) (hn : n ≤ 1000) (h0 : w.cell? ⟨c, 0, none⟩ = some (.chan d)) (h1 : w.cell? ⟨c, 1, none⟩ = some (.int .i64 n)) (z1 : w.frozen? ⟨c, 1, none⟩ = false) :
    Calls Yba.prog 55 #[.pointer (some ⟨c, 0, none⟩)] w fun e w' => e = .returned (.chan d) ∧ w' = w.setCell ⟨c, 1, none⟩ (.int .i64 ((n : Int) + 1)) := by
  have hni : (n : Int) ≤ 1000 := by omega
  go_enter Yba.func55, Yba.ntmps55
  go_wp2
  go_ret
  exact ⟨rfl, rfl⟩

end Go.Proofs.Ybulkdtze.S
