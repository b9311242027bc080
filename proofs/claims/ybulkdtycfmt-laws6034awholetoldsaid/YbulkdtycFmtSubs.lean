/-
  'subsets' (f4) where it does not refuse.
-/
import Derived.Test.YbulkdtycFmtSubsT
namespace Go.Proofs.YbulkdtycFmt.S
open Go.RowKit

set_option maxRecDepth 100000 in
set_option maxHeartbeats 2000000 in
theorem chk_ok (c e : Nat) (hc : c ≤ 1048576) (he : e ≤ 16777216) (w : World) :
    Calls Ybaf.prog 10 #[.int .i64 c, .int .i64 e] w fun r w' => r = .returned .nilIface ∧ w' = w := by
  have h1 : ¬ (1048576 : Int) < c := by omega
  have h2 : ¬ (16777216 : Int) < e := by omega
  go_enter Ybaf.func10, Ybaf.ntmps10
  go_wp2
  go_ret
  exact ⟨rfl, rfl⟩

theorem sub_new (w : World) (size cnt C : Nat) (T : Nat → Nat → Nat) (r : Nat → Nat) (hC : C = cnt * size) (hc : 1 ≤ cnt) :
    Mid w ((w.alloc (.cells (madeCells #[.int .i64 0] C) 3)).alloc (.cells ((madeCells #[.slice none 0 0] cnt).setIfInBounds 0 (.slice (some ⟨w.heap.size, 0, none⟩) size size)) 27)) size cnt 0 T r 0 ∧
    ((w.alloc (.cells (madeCells #[.int .i64 0] C) 3)).alloc (.cells ((madeCells #[.slice none 0 0] cnt).setIfInBounds 0 (.slice (some ⟨w.heap.size, 0, none⟩) size size)) 27)).cell? ⟨w.heap.size + 1, 0, none⟩ = some (.slice (some ⟨w.heap.size, 0, none⟩) size size) := by
  have h1 := Row.new w 3 (madeCells #[.int .i64 0] C) (fun _ => .int .i64 0) (fun t ht => made_get _ _ _ (by simpa [size_madeCells] using ht))
  have e1 : (madeCells #[Value.int .i64 0] C).size = cnt * size := by simp [size_madeCells, hC]
  rw [e1] at h1
  have h2 := Row.new (w.alloc (.cells (madeCells #[.int .i64 0] C) 3)) 27 ((madeCells #[.slice none 0 0] cnt).setIfInBounds 0 (.slice (some ⟨w.heap.size, 0, none⟩) size size)) (fun t => if t = 0 then .slice (some ⟨w.heap.size, 0, none⟩) size size else .slice none 0 0) (fun t ht => by
    simp only [Array.size_setIfInBounds] at ht
    have hsz : (madeCells #[Value.slice none 0 0] cnt).size = cnt := by simp [size_madeCells]
    show _ = some (if t = 0 then _ else _)
    by_cases e : t = 0
    · subst e
      simp [hsz, show 0 < cnt by omega]
    · rw [if_neg e, Array.getElem?_setIfInBounds_ne (by omega), made_get _ _ _ (by omega)])
  have e2 : ((madeCells #[Value.slice none 0 0] cnt).setIfInBounds 0 (.slice (some ⟨w.heap.size, 0, none⟩) size size)).size = cnt := by simp [size_madeCells]
  rw [e2, World.size_alloc] at h2
  refine ⟨⟨⟨_, h1.alloc _, fun i' t hi => absurd hi (by omega), fun t ht => absurd ht (by omega)⟩, ⟨_, h2, fun i' hi => absurd hi (by omega)⟩, ((Below.refl _ w).alloc (Nat.le_refl _) _).alloc (by simp) _⟩, ?_⟩
  rw [h2.cell 0 (by omega)]
  rfl

theorem Mid.first {w wr : World} {size cnt : Nat} {T : Nat → Nat → Nat} {r : Nat → Nat} (h : Mid w wr size cnt 0 T r size) (hT : ∀ t, t < size → r t = T 0 t) (hc : 1 ≤ cnt) (hz : wr.cell? ⟨w.heap.size + 1, 0, none⟩ = some (.slice (some ⟨w.heap.size, 0, none⟩) size size)) : Sub w wr size cnt 1 T := by
  obtain ⟨⟨f, hr, hf, hg⟩, ⟨f2, hr2, hf2⟩, hb⟩ := h
  refine ⟨⟨f, hr, fun i' t hi ht => ?_⟩, ⟨f2, hr2, fun i' hi => ?_⟩, hb⟩
  · obtain rfl : i' = 0 := by omega
    rw [hg t ht, hT t ht]
  · obtain rfl : i' = 0 := by omega
    rw [hr2.cell 0 (by omega)] at hz
    injection hz with hz
    rw [hz, cut, Nat.zero_mul]

set_option maxRecDepth 100000 in
set_option maxHeartbeats 4000000 in
theorem subs_ok (n size cnt : Nat) (T : Nat → Nat → Nat) (w : World) (hn : n ≤ 4096) (hs : size ≤ 4096) (hc1 : 1 ≤ cnt) (hc : cnt ≤ 1048576) (he : cnt * size ≤ 16777216) (HT : Table n size cnt T)
    (hbin : Calls Ybaf.prog 8 #[.int .i64 n, .int .i64 size, .int .i64 1048576] w fun e w' => e = .returned (.tuple #[.int .i64 cnt, .bool true]) ∧ w' = w) :
    Calls Ybaf.prog 4 #[.int .i64 n, .int .i64 size] w fun e w' => e = .returned (.tuple #[.slice (some ⟨w.heap.size + 1, 0, none⟩) cnt cnt, .nilIface]) ∧ Sub w w' size cnt cnt T := by
  obtain ⟨C, hC⟩ : ∃ C, C = cnt * size := ⟨_, rfl⟩
  have hm : (cnt : Int) * (size : Int) = (C : Int) := by rw [hC]; exact (Int.natCast_mul _ _).symm
  have hsC : size ≤ C := by rw [hC]; exact Nat.le_mul_of_pos_left _ hc1
  have hCle : C ≤ 16777216 := by omega
  have HC : Hid (C = cnt * size) := hC
  clear hC he
  have hmk := run_make3 w C C (Nat.le_refl _) hCle
  have hmk2 := fun o => run_make27 (w.alloc o) cnt (by omega)
  have hchk := chk_ok cnt C hc hCle w
  have hc0 : ((w.alloc (.cells (madeCells #[.int .i64 0] C) 3)).alloc (.cells (madeCells #[.slice none 0 0] cnt) 27)).cell? ⟨w.heap.size + 1, 0, none⟩ = some (.slice none 0 0) := by
    rw [World.cell?]
    have h := heap_alloc_new (w.alloc (.cells (madeCells #[.int .i64 0] C) 3)) (.cells (madeCells #[.slice none 0 0] cnt) 27)
    simp only [World.size_alloc] at h
    rw [h]
    simpa using made_get (Value.slice none 0 0) cnt 0 (by omega)
  go_enter Ybaf.func4, Ybaf.ntmps4
  go_wp2_with (first | (go_at_call 8; refine hbin.mono ?_; rintro e w' ⟨rfl, rfl⟩) | (go_at_call 10; refine hchk.mono ?_; rintro e w' ⟨rfl, rfl⟩))
  clear hmk hmk2 hchk hbin hc0
  obtain ⟨M0, z0⟩ := sub_new w' size cnt C T (fun t => t + 1) HC.out hc1
  generalize (w'.alloc (.cells (madeCells #[.int .i64 0] C) 3)).alloc (.cells ((madeCells #[.slice none 0 0] cnt).setIfInBounds 0 (.slice (some ⟨w'.heap.size, 0, none⟩) size size)) 27) = w1 at M0 z0 ⊢
  have hc1i : (0 : Int) < cnt := by omega
  go_loopg [11, 48] size (fun g y j wr => ∃ J : Nat, J + g = size ∧ j = .int .i64 J ∧ Mid w' wr size cnt 0 T (fun t => t + 1) J ∧ wr.cell? ⟨w'.heap.size + 1, 0, none⟩ = some (.slice (some ⟨w'.heap.size, 0, none⟩) size size))
  case atStart => exact ⟨0, by omega, rfl, M0, z0⟩
  case round =>
    obtain ⟨j, hj, rfl, M, hz⟩ := hrel
    clear M0 z0
    by_cases hjs : j < size
    · have hji : (j : Int) < size := by omega
      obtain ⟨v0, hv0⟩ := M.any_cell j hjs (by omega)
      rw [Nat.zero_mul, Nat.zero_add] at hv0
      have hf0 := M.frozen j
      have M2 := M.put (r' := fun t => t + 1) j (Nat.le_refl _) (fun _ _ => rfl)
      rw [Nat.zero_mul, Nat.zero_add] at M2
      have z2 : (World.setCell _ ⟨w'.heap.size, j, none⟩ (.int .i64 ((j : Int) + 1))).cell? ⟨w'.heap.size + 1, 0, none⟩ = some (.slice (some ⟨w'.heap.size, 0, none⟩) size size) := (World.cell?_of_block (Below.heap_setCell _ _ _ _ (by simp))).trans hz
      go_wp2
      go_roundg (size - (j + 1))
      case rel => exact ⟨j + 1, by omega, by go_num, M2, z2⟩
      case measure => omega
    · have hji : ¬ (j : Int) < size := by omega
      have hjs' : j = size := by omega
      rw [hjs'] at M
      have S1 := M.first (fun t ht => (HT.zero t ht).symm) hc1 hz
      clear M hz hji
      iterate 13 go_step
      apply subs_tail (w := w')
      · exact hn
      · exact hs
      · exact hc1
      · exact hc
      · exact HC
      · exact hCle
      · exact HT
      · exact S1
end Go.Proofs.YbulkdtycFmt.S
