import Derived.Test.YbulkdtxoCPush
import Derived.Deep.RegionHeld
namespace Go.Proofs.Ybulkdtxo.C
open Go.RowKit

theorem mk1024 : ∃ Z : Array Value, Z.size = 1024 * 4 ∧ ∀ W : World, (Instr.makeSlice 53 (.int .i64 0) (.int .i64 1024)).run Yba.prog W = .ok (.slice (some ⟨W.heap.size, 0, none⟩) 0 1024) (W.alloc (.cells Z 70)) := by
  obtain ⟨i0, hi, hz0, hz1, hz2⟩ := info_parts info70
  refine ⟨_, ?_, fun W => run_make W 53 70 i0 _ Yba.underlying53 hi hz0 .i64 .i64 0 1024 (by omega) (by omega) (by rw [hz2]; omega) (by omega)⟩
  rw [hz1]
  simp [madeCells]

theorem heap3 (w : World) (o1 o2 o3 : Obj) : (((w.alloc o1).alloc o2).alloc o3).drew.heap[w.heap.size + 2]? = some o3 := by
  have h1 : ((w.alloc o1).alloc o2).heap.size = w.heap.size + 2 := by simp
  rw [← h1]
  exact heap_alloc_new _ o3

theorem below3 (w : World) (o1 o2 o3 : Obj) : Below w.heap.size w (((w.alloc o1).alloc o2).alloc o3).drew :=
  ((((Below.refl w.heap.size w).alloc (Nat.le_refl _) _).alloc (by simp) _).alloc (by simp; omega) _).drew

theorem heap1s (w : World) (a : Addr) (v : Value) (o : Obj) : ((w.setCell a v).alloc o).drew.heap[w.heap.size]? = some o := by
  have h1 : (w.setCell a v).heap.size = w.heap.size := by simp [World.setCell]
  rw [← h1]
  exact heap_alloc_new _ o

theorem below1s (w : World) (a : Addr) (v : Value) (o : Obj) : Below w.heap.size (w.setCell a v) ((w.setCell a v).alloc o).drew :=
  ((Below.refl w.heap.size (w.setCell a v)).alloc (by simp [World.setCell]) _).drew

theorem after_append2 {w W w2 : World} {row : Option Nat} {N : Nat} (hb : Below N w W) (hN : N ≤ W.heap.size) (hg : W.grownBy w2 row) (a : Addr) (ha : a.block < N) (hne : some a.block ≠ row) : w2.cell? a = w.cell? a ∧ w2.frozen? a = w.frozen? a :=
  ⟨(hg.cell_far a (Nat.lt_of_lt_of_le ha hN) hne).trans (hb.cell ha), (hg.frozen_far a (Nat.lt_of_lt_of_le ha hN) hne).trans (hb.frozen ha)⟩

theorem far_of {w : World} {base : Nat} {e : TypeId} {size : Nat} {v : Value} {n : Nat} {xs : List Value} {g : Nat} (h : w.ownsRow base e size v n xs) (hat : v.ownBlock = some g ∨ g = w.heap.size + 3) : ¬ g = w.heap.size + 1 := by
  rcases hat with hh | hh
  · have := (h.lt g hh).2; omega
  · omega

theorem b_pack {w w1 : World} {o3 : Obj} {c0 c1 c2 c3 : Value} {Z : Array Value} {base m capr : Nat} {ar : Option Addr} {vs : List Value} (hZ : Z.size = 1024 * 4)
    (own : w.ownsRow base 53 1 (.slice ar m capr) m vs) (hbase : base ≤ w.heap.size)
    (hgrow : (((w.alloc (.cells #[c0, c1, c2, c3] 70)).alloc (.cells Z 70)).alloc o3).drew.grownBy w1 (Value.ownBlock (.slice ar m capr))) :
    w1.ownsRow base 70 4 (.slice (some ⟨w.heap.size + 1, 0, none⟩) 0 1024) 0 [] ∧ w1.cell? ⟨w.heap.size, 0, none⟩ = some c0 ∧ w1.cell? ⟨w.heap.size, 1, none⟩ = some c1 ∧
      w1.cell? ⟨w.heap.size, 2, none⟩ = some c2 ∧ w1.cell? ⟨w.heap.size, 3, none⟩ = some c3 ∧ w.heap.size + 3 ≤ w1.heap.size := by
  have h1 : (w.alloc (.cells #[c0, c1, c2, c3] 70)).heap.size = w.heap.size + 1 := by simp
  have hr : ∀ k, w.heap.size ≤ k → some k ≠ (Value.ownBlock (.slice ar m capr)) := fun k hk h => by have := (own.lt k h.symm).2; omega
  have C : ∀ j v, (w.alloc (.cells #[c0, c1, c2, c3] 70)).cell? ⟨w.heap.size, j, none⟩ = some v → w1.cell? ⟨w.heap.size, j, none⟩ = some v := by
    intro j v h
    rw [hgrow.cell_far ⟨w.heap.size, j, none⟩ (by simp; omega) (hr _ (Nat.le_refl _))]
    show (((w.alloc (.cells #[c0, c1, c2, c3] 70)).alloc (.cells Z 70)).alloc o3).cell? ⟨w.heap.size, j, none⟩ = some v
    rw [World.cell?_alloc_past _ _ _ (by simp; omega), World.cell?_alloc_past _ _ _ (by simp)]
    exact h
  have hsz := hgrow.size
  refine ⟨?_, C 0 c0 ?_, C 1 c1 ?_, C 2 c2 ?_, C 3 c3 ?_, by simpa using hsz⟩
  · have hm := World.ownsRow_made (base := base) (e := 70) (size := 4) (w.alloc (.cells #[c0, c1, c2, c3] 70)) Z 1024 (by omega) (by unfold maxLen; omega) hZ
    rw [h1] at hm
    exact ((hm.alloc o3).drew).kept hgrow (.inr (hr (w.heap.size + 1) (by omega)))
  all_goals (rw [World.cell?_alloc_at _ _ _ _ rfl]; rfl)

set_option maxRecDepth 100000 in
set_option maxHeartbeats 2000000 in
theorem push_b (base b n m capr : Nat) (ar : Option Addr) (vs : List Value) (e : Ent) (w : World) (hn : n / 1024 = m + 1) (hnb : n ≤ 100000) (hvs : vs.length = m)
    (h5 : w.cell? ⟨b, 5, none⟩ = some (.slice ar m capr)) (h6 : w.cell? ⟨b, 6, none⟩ = some (.int .i64 n))
    (z5 : w.frozen? ⟨b, 5, none⟩ = false) (z6 : w.frozen? ⟨b, 6, none⟩ = false)
    (own : w.ownsRow base 53 1 (.slice ar m capr) m vs) (hbb : b < base) (hbase : base ≤ w.heap.size) :
    Calls Yba.prog 10 #[.pointer (some ⟨b, 4, none⟩), .agg e.cells.toArray] w fun r w' => r = .returned (.tuple #[]) ∧ ∃ g cap g2 cap2 w1 w2 w3 w4, Below w.heap.size w w1 ∧ w1.grownBy w2 (Value.ownBlock (.slice ar m capr)) ∧
      w2.ownsRow base 53 1 (.slice (some ⟨g, 0, none⟩) (m + 1) cap) (m + 1) (vs ++ [.slice (some ⟨w.heap.size + 1, 0, none⟩) 0 1024]) ∧ (Value.ownBlock (.slice ar m capr) = some g ∨ w.heap.size + 3 ≤ g) ∧
      Below w2.heap.size (w2.setCell ⟨b, 5, none⟩ (.slice (some ⟨g, 0, none⟩) (m + 1) cap)) w3 ∧ w3.grownBy w4 (Value.ownBlock (.slice (some ⟨w.heap.size + 1, 0, none⟩) 0 1024)) ∧
      w4.ownsRow base 70 4 (.slice (some ⟨g2, 0, none⟩) (0 + 1) cap2) (0 + 1) ([] ++ e.cells) ∧ (Value.ownBlock (.slice (some ⟨w.heap.size + 1, 0, none⟩) 0 1024) = some g2 ∨ w2.heap.size ≤ g2) ∧
      w.heap.size + 3 ≤ w2.heap.size ∧ (w2.setCell ⟨b, 5, none⟩ (.slice (some ⟨g, 0, none⟩) (m + 1) cap)).ownsRow base 70 4 (.slice (some ⟨w.heap.size + 1, 0, none⟩) 0 1024) 0 [] ∧ w' = (w4.setCell ⟨g, m, none⟩ (.slice (some ⟨g2, 0, none⟩) (0 + 1) cap2)).setCell ⟨b, 6, none⟩ (.int .i64 ((n : Int) + 1)) := by
  have hb := lt_of h5
  have hne := below_block own hbb
  have hb1 : b < w.heap.size + 1 := by omega
  have hb2 : b < w.heap.size + 1 + 1 := by omega
  obtain ⟨i0, hi, hz0, hz1, hz2⟩ := info_parts info70
  obtain ⟨j0, gi, gz0, gz1, gz2⟩ := info_parts info53
  obtain ⟨Z, hZ, hmk⟩ := mk1024
  have HZ : Hid (Z.size = 1024 * 4) := hZ
  clear hZ
  have hq : (n : Int) / 1024 = (m : Int) + 1 := by omega
  have hn' : (n : Int) ≤ 100000 := by omega
  have hk : m < 1000 := by omega
  clear hn
  simp only [Ent.cells]
  go_enter Yba.func10, Yba.ntmps10
  go_wp2_with fail
  go_region_law ((refine step_append_lies _ (by rfl) _ _ _ (by rfl) base 53 j0 (.slice none 0 0) 1 24 Yba.underlying54 gi gz0 gz1 gz2 (by rfl) (by decide) (.slice ar m capr) m vs (by rfl) (by exact (((own.alloc _).alloc _).alloc _).drew) ⟨w.heap.size + 2, 0, none⟩ 1 1 [.slice (some ⟨w.heap.size + 1, 0, none⟩) 0 1024] (by rfl) (by rfl) (by exact World.news_of_block (heap3 _ _ _ _)) (by intro u hu; simp at hu; subst hu; rfl) (by decide) (by unfold maxLen; omega) (by omega) (by simp; omega) (w.heap.size + 3) (by simp) ?_; intro g cap w1 hown hgrow hat hlt; have A := fun o => after_append (w := w) (below3 w _ _ _) hgrow ⟨b, o, none⟩ hb hne; have q5 := (A 5).1.trans h5; have f5 := (A 5).2.trans z5; have q6 := (A 6).1.trans h6; have f6 := (A 6).2.trans z6; clear A; obtain ⟨OW, E0, E1, E2, E3, hs1⟩ := b_pack HZ.out own hbase hgrow; have hgb : base ≤ g := ((hown.lt g rfl).1); have hgn : ¬ g = w.heap.size + 1 := far_of own hat; have hat' := at_le (N := w.heap.size + 3) hat (Nat.le_refl _); clear hat; have hgb1 : ¬ g = b := (by omega); have hgb2 : ¬ b = g := (by omega); have H5 : Hid ((w1.setCell ⟨b, 5, none⟩ (.slice (some ⟨g, 0, none⟩) (m + 1) cap)).cell? ⟨b, 5, none⟩ = some (.slice (some ⟨g, 0, none⟩) (m + 1) cap)) := World.cell?_setCell_same _ _ _ q5; have OW3 : Hid ((w1.setCell ⟨b, 5, none⟩ (.slice (some ⟨g, 0, none⟩) (m + 1) cap)).ownsRow base 70 4 (.slice (some ⟨w.heap.size + 1, 0, none⟩) 0 1024) 0 []) := ownsRow_setCell_below OW hbb _; clear OW; have HC : Hid (w1.ownsRow base 53 1 (.slice (some ⟨g, 0, none⟩) (m + 1) cap) (m + 1) (vs ++ [.slice (some ⟨w.heap.size + 1, 0, none⟩) 0 1024])) := hown; have gc : w1.cell? ⟨g, m, none⟩ = some (.slice (some ⟨w.heap.size + 1, 0, none⟩) 0 1024) := (by rw [hown.cellAt m (by omega)]; simp [← hvs]); have gf : w1.frozen? ⟨g, m, none⟩ = false := hown.frozenAt m; clear hown))
  all_goals (have hbw : ¬ b = w.heap.size := by omega)
  all_goals (have hbw' : ¬ w.heap.size = b := by omega)
  all_goals go_wp2_with (go_at_call 14; refine (block_succ b m g (m + 1) cap _ H5.out (by omega) (by omega)).mono ?_; rintro r w' ⟨rfl, rfl⟩)
  all_goals go_region_law ((refine step_append_lies _ (by rfl) _ _ _ (by rfl) base 70 i0 (.agg #[.pointer none, .int .i64 0, .slice none 0 0, .pointer none]) 4 48 Yba.underlying53 hi hz0 hz1 hz2 (by rfl) (by decide) (.slice (some ⟨w.heap.size + 1, 0, none⟩) 0 1024) 0 [] (by rfl) (by exact ((OW3.out.alloc _).drew)) ⟨w1.heap.size, 0, none⟩ 1 1 e.cells (by rfl) (by rfl) (by exact World.news_of_block (heap1s _ _ _ _)) (oneCells e) (by decide) (by unfold maxLen; omega) (by omega) (by simp; omega) (w1.heap.size + 1) (by simp) ?_; intro g2 cap2 w4 hown2 hgrow2 hat2 hlt2; have A := fun o => after_append2 (below1s w1 _ _ _) (by simp) hgrow2 ⟨b, o, none⟩ (by simp; omega) (by simp [Value.ownBlock]; omega); have A' := after_append2 (below1s w1 _ _ _) (by simp) hgrow2 ⟨g, m, none⟩ (by simp; omega) (by simp [Value.ownBlock]; omega); have r4 : w4.cell? ⟨g, m, none⟩ = some (.slice (some ⟨w.heap.size + 1, 0, none⟩) 0 1024) := (by rw [A'.1, World.cell?_setCell_far _ _ _ _ (by simp; omega)]; exact gc); have s4 : w4.frozen? ⟨g, m, none⟩ = false := (by rw [A'.2]; simp [gf]); have r6 : w4.cell? ⟨b, 6, none⟩ = some (.int .i64 n) := (by rw [(A 6).1, World.cell?_setCell_other _ _ _ _ (by simp)]; exact q6); have s6 : w4.frozen? ⟨b, 6, none⟩ = false := (by rw [(A 6).2]; simp [f6]); clear A A'))
  all_goals (have hat2' := at_le (N := w1.heap.size) hat2 (by omega); clear hat2)
  all_goals go_wp2
  all_goals go_end0
  all_goals exact ⟨rfl, g, cap, g2, cap2, _, w1, _, w4, below3 w _ _ _, hgrow, HC.out, hat', below1s w1 _ _ _, hgrow2, hown2, hat2', hs1, OW3.out, rfl⟩

end Go.Proofs.Ybulkdtxo.C
