import Derived.Test.YbulkdtxoCSmall
import Derived.Deep.RegionLaw
namespace Go.Proofs.Ybulkdtxo.C
open Go.RowKit

theorem info70 : (Yba.prog.info? 70).map (fun i => (i.zero, i.size, i.bytes)) = some (some (.agg #[.pointer none, .int .i64 0, .slice none 0 0, .pointer none]), 4, 48) := by kernel_rfl
theorem info53 : (Yba.prog.info? 53).map (fun i => (i.zero, i.size, i.bytes)) = some (some (.slice none 0 0), 1, 24) := by kernel_rfl

theorem oneCells (e : Ent) : ∀ u ∈ e.cells, u.oneCell' = true := by
  intro u hu
  simp only [Ent.cells, List.mem_cons, List.not_mem_nil, or_false] at hu
  rcases hu with rfl | rfl | rfl | rfl <;> rfl

theorem heap2 (w : World) (o1 o2 : Obj) : ((w.alloc o1).alloc o2).drew.heap[w.heap.size + 1]? = some o2 := by
  have h1 : (w.alloc o1).heap.size = w.heap.size + 1 := by simp
  rw [← h1]
  exact heap_alloc_new (w.alloc o1) o2

theorem after_append {w W w2 : World} {row : Option Nat} (hb : Below w.heap.size w W) (hg : W.grownBy w2 row) (a : Addr) (ha : a.block < w.heap.size) (hne : some a.block ≠ row) : w2.cell? a = w.cell? a ∧ w2.frozen? a = w.frozen? a :=
  ⟨(hg.cell_far a (Nat.lt_of_lt_of_le ha hb.size) hne).trans (hb.cell ha), (hg.frozen_far a (Nat.lt_of_lt_of_le ha hb.size) hne).trans (hb.frozen ha)⟩

theorem at_le {o : Option Nat} {g H N : Nat} (h : o = some g ∨ g = H) (hl : N ≤ H) : o = some g ∨ N ≤ g := h.elim Or.inl (fun e => Or.inr (by omega))

theorem below_block {w : World} {base b : Nat} {e : TypeId} {size : Nat} {v : Value} {n : Nat} {xs : List Value} (h : w.ownsRow base e size v n xs) (hb : b < base) : some b ≠ v.ownBlock := by
  intro hh
  have := (h.lt b hh.symm).1
  omega

set_option maxRecDepth 100000 in
set_option maxHeartbeats 1000000 in
theorem push_a (base b n mr capr : Nat) (ar : Option Addr) (v1 : Value) (c0 : List Ent) (e : Ent) (w : World) (hn : n < 1024) (hc : c0.length = n) (hmr : mr = 0)
    (h4 : w.cell? ⟨b, 4, none⟩ = some v1) (h5 : w.cell? ⟨b, 5, none⟩ = some (.slice ar mr capr)) (h6 : w.cell? ⟨b, 6, none⟩ = some (.int .i64 n))
    (z4 : w.frozen? ⟨b, 4, none⟩ = false) (z6 : w.frozen? ⟨b, 6, none⟩ = false) (own1 : w.ownsRow base 70 4 v1 n (flat c0)) (hbb : b < base) (hbase : base ≤ w.heap.size) :
    Calls Yba.prog 10 #[.pointer (some ⟨b, 4, none⟩), .agg e.cells.toArray] w fun r w' => r = .returned (.tuple #[]) ∧
      ∃ g cap w1 w2, w2.ownsRow base 70 4 (.slice (some ⟨g, 0, none⟩) (n + 1) cap) (n + 1) (flat c0 ++ e.cells) ∧ Below w.heap.size w w1 ∧ w1.grownBy w2 v1.ownBlock ∧ (v1.ownBlock = some g ∨ w.heap.size ≤ g) ∧
        w' = (w2.setCell ⟨b, 4, none⟩ (.slice (some ⟨g, 0, none⟩) (n + 1) cap)).setCell ⟨b, 6, none⟩ (.int .i64 ((n : Int) + 1)) := by
  subst hmr
  have hb := lt_of h4
  have hne := below_block own1 hbb
  obtain ⟨i0, hi, hz0, hz1, hz2⟩ := info_parts info70
  have hq : (n : Int) / 1024 = 0 := by omega
  have hn' : (n : Int) < 1024 := by omega
  have HC : Hid (c0.length = n) := hc
  clear hc
  simp only [Ent.cells]
  go_enter Yba.func10, Yba.ntmps10
  go_wp2_with (go_at_call 14; refine (block_zero _ _).mono ?_; rintro r w' ⟨rfl, rfl⟩)
  go_region_law ((refine step_append_lies _ (by rfl) _ _ _ (by rfl) base 70 i0 (.agg #[.pointer none, .int .i64 0, .slice none 0 0, .pointer none]) 4 48 Yba.underlying53 hi hz0 hz1 hz2 (by rfl) (by decide) v1 n (flat c0) (by rfl) (by exact ((own1.alloc _).drew).alloc _) ⟨w.heap.size + 1, 0, none⟩ 1 1 e.cells (by rfl) (by rfl) (by exact World.news_of_block (heap2 _ _ _)) (oneCells e) (by decide) (by unfold maxLen; omega) (by omega) (by simp; omega) (w.heap.size + 2) (by simp) ?_; intro g cap w1 hown hgrow hat hlt; have A := fun o => after_append (w := w) ((((Below.refl w.heap.size w).alloc (Nat.le_refl _) _).alloc (by simp) _).drew) hgrow ⟨b, o, none⟩ hb hne; have q4 := (A 4).1.trans h4; have f4 := (A 4).2.trans z4; have q6 := (A 6).1.trans h6; have f6 := (A 6).2.trans z6; clear A))
  all_goals (have hat' := at_le (N := w.heap.size) hat (by omega); clear hat)
  all_goals go_wp2
  all_goals go_end0
  all_goals exact ⟨rfl, _, _, _, _, hown, ((((Below.refl w.heap.size w).alloc (Nat.le_refl _) _).alloc (by simp) _).drew), hgrow, hat', rfl⟩

set_option maxRecDepth 100000 in
set_option maxHeartbeats 1000000 in
theorem push_c (base b n k gr capr : Nat) (v : Value) (c : List Ent) (e : Ent) (w : World) (hn : n / 1024 = k + 1) (hnb : n ≤ 100000) (hc : c.length ≤ 1024)
    (h5 : w.cell? ⟨b, 5, none⟩ = some (.slice (some ⟨gr, 0, none⟩) (k + 1) capr)) (h6 : w.cell? ⟨b, 6, none⟩ = some (.int .i64 n))
    (z6 : w.frozen? ⟨b, 6, none⟩ = false) (hv : w.cell? ⟨gr, k, none⟩ = some v) (zv : w.frozen? ⟨gr, k, none⟩ = false)
    (own : w.ownsRow base 70 4 v c.length (flat c)) (hbb : b < base) (hgr : base ≤ gr) (hgv : some gr ≠ v.ownBlock) (hbase : base ≤ w.heap.size) :
    Calls Yba.prog 10 #[.pointer (some ⟨b, 4, none⟩), .agg e.cells.toArray] w fun r w' => r = .returned (.tuple #[]) ∧
      ∃ g cap w1 w2, w2.ownsRow base 70 4 (.slice (some ⟨g, 0, none⟩) (c.length + 1) cap) (c.length + 1) (flat c ++ e.cells) ∧ Below w.heap.size w w1 ∧ w1.grownBy w2 v.ownBlock ∧ (v.ownBlock = some g ∨ w.heap.size ≤ g) ∧
        w' = (w2.setCell ⟨gr, k, none⟩ (.slice (some ⟨g, 0, none⟩) (c.length + 1) cap)).setCell ⟨b, 6, none⟩ (.int .i64 ((n : Int) + 1)) := by
  have hb := lt_of h5
  have hgl := lt_of hv
  have hne := below_block own hbb
  have hbg : ¬ gr = b := by omega
  have hbg' : ¬ b = gr := by omega
  obtain ⟨i0, hi, hz0, hz1, hz2⟩ := info_parts info70
  have hq : (n : Int) / 1024 = (k : Int) + 1 := by omega
  have hn' : (n : Int) ≤ 100000 := by omega
  have hk : k < 1000 := by omega
  have H : Hid (∀ o, (w.alloc o).cell? ⟨b, 5, none⟩ = some (.slice (some ⟨gr, 0, none⟩) (k + 1) capr)) := fun o => (World.cell?_alloc_past o b 5 hb).trans h5
  clear hn
  simp only [Ent.cells]
  go_enter Yba.func10, Yba.ntmps10
  go_wp2_with (go_at_call 14; refine (block_succ b k gr (k + 1) capr _ (H.out _) (by omega) (by omega)).mono ?_; rintro r w' ⟨rfl, rfl⟩)
  go_region_law ((refine step_append_lies _ (by rfl) _ _ _ (by rfl) base 70 i0 (.agg #[.pointer none, .int .i64 0, .slice none 0 0, .pointer none]) 4 48 Yba.underlying53 hi hz0 hz1 hz2 (by rfl) (by decide) v c.length (flat c) (by rfl) (by exact ((own.alloc _).drew).alloc _) ⟨w.heap.size + 1, 0, none⟩ 1 1 e.cells (by rfl) (by rfl) (by exact World.news_of_block (heap2 _ _ _)) (oneCells e) (by decide) (by unfold maxLen; omega) (by omega) (by simp; omega) (w.heap.size + 2) (by simp) ?_; intro g cap w1 hown hgrow hat hlt; have A := fun o => after_append (w := w) ((((Below.refl w.heap.size w).alloc (Nat.le_refl _) _).alloc (by simp) _).drew) hgrow ⟨b, o, none⟩ hb hne; have A' := after_append (w := w) ((((Below.refl w.heap.size w).alloc (Nat.le_refl _) _).alloc (by simp) _).drew) hgrow ⟨gr, k, none⟩ hgl hgv; have q4 := A'.1.trans hv; have f4 := A'.2.trans zv; have q6 := (A 6).1.trans h6; have f6 := (A 6).2.trans z6; clear A A'))
  all_goals (have hat' := at_le (N := w.heap.size) hat (by omega); clear hat)
  all_goals go_wp2
  all_goals go_end0
  all_goals exact ⟨rfl, _, _, _, _, hown, ((((Below.refl w.heap.size w).alloc (Nat.le_refl _) _).alloc (by simp) _).drew), hgrow, hat', rfl⟩

end Go.Proofs.Ybulkdtxo.C
