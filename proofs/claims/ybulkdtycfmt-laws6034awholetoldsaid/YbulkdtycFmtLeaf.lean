/-
  'zzs6034agen' (f7) where 'cur' is full: one set more.
-/
import Derived.Test.YbulkdtycFmtGen
namespace Go.Proofs.YbulkdtycFmt.S
open Go.RowKit

theorem own_cell {w : World} {B g n cap : Nat} {e : TypeId} {xs : List Value} (h : w.ownsRow B e 1 (.slice (some ⟨g, 0, none⟩) n cap) n xs) (j : Nat) (u : Value) (hj : xs[j]? = some u) : w.cell? ⟨g, j, none⟩ = some u := by
  obtain ⟨h1, ⟨hh, -⟩ | ⟨g', cap', cur, hv, hB, hg, hc, hm, hs, ht⟩⟩ := h
  · cases hh
  · injection hv with hv
    injection hv with hv
    injection hv with hv
    subst hv
    have h2 : j < n := by
      rcases Nat.lt_or_ge j n with h | h
      · exact h
      · rw [List.getElem?_eq_none (by omega)] at hj; cases hj
    have : cur[j]? = some u := by
      rw [← ht, List.getElem?_take, if_pos (by omega)] at hj
      simpa using hj
    simp [World.cell?, hg, this]

theorem own_lt {w : World} {B g n cap : Nat} {e : TypeId} {xs : List Value} (h : w.ownsRow B e 1 (.slice (some ⟨g, 0, none⟩) n cap) n xs) : g < w.heap.size := by
  obtain ⟨-, ⟨hh, -⟩ | ⟨g', cap, c, hv, hB, hgg, -⟩⟩ := h
  · cases hh
  · injection hv with hv
    injection hv with hv
    injection hv with hv
    subst hv
    exact lt_of_heap hgg

theorem splice_full {α : Type} (Z cs : List α) (h : Z.length = cs.length) : splice Z 0 cs = cs := by
  simp [splice, ← h]

set_option maxRecDepth 100000 in
set_option maxHeartbeats 2000000 in
theorem gen_leaf (n size gc start : Nat) (cur : List Nat) (vo : Value) (L : List (List Nat)) (w : World) (hs : size ≤ 4096) (hl : cur.length = size) (hL : L.length + 1 ≤ 1048576) (G : Gen w gc size size cur vo L) :
    Calls Ybaf.prog 7 #[.int .i64 n, .int .i64 size, .int .i64 start, .slice (some ⟨gc, 0, none⟩) size size, vo] w fun e w' => ∃ vo', e = .returned vo' ∧ Gen w' gc size size cur vo' (L ++ [cur]) ∧ Below gc w w' := by
  have hmk := run_make3 w size size (Nat.le_refl _) (by omega)
  have hgc := own_lt G.cur
  obtain ⟨i0, hi, hz0, hz1, hz2⟩ := info_parts info3
  obtain ⟨i1, hi1, hy0, hy1, hy2⟩ := info_parts info27
  have hsz : (Ybaf.prog.info? 3).map (·.size) = some 1 := by rw [hi]; simp [hz1]
  go_enter Ybaf.func7, Ybaf.ntmps7
  iterate 50 go_step
  refine wpList_copy_splice rfl _ _ 27 27 rfl 3 Ybaf.underlying27 hsz _ _ _ _ _ _ rfl rfl w.heap.size 0 (madeCells #[Value.int .i64 0] size).toList 3 ?g1 (cur.map iv) ?g2 ?g3 ?g4 ?g5 w.heap.size w ?g6 ?g7 ?g8
  case g1 => simpa using heap_alloc_new w (.cells (madeCells #[Value.int .i64 0] size) 3)
  case g2 => simp [hl]
  case g3 =>
    intro _
    refine ⟨rfl, _, rfl, fun j v hj => ?_⟩
    rw [Go.WideShapes.add_plain, Nat.zero_add]
    exact (((Below.refl _ w).alloc (Nat.le_refl _) _).cell (p := ⟨gc, j, none⟩) hgc).trans (own_cell G.cur j v hj)
  case g4 => simp [size_madeCells, hl]
  case g5 =>
    intro v hv
    simp at hv
    obtain ⟨x, _, rfl⟩ := hv
    rfl
  case g6 => exact (Below.refl _ w).alloc (Nat.le_refl _) _
  case g7 => exact Nat.le_refl _
  case g8 =>
    intro w2 hg2 hb2
    have hset : w2.heap[w.heap.size]? = some (.cells (cur.map iv).toArray 3 (0, 0)) := by
      have h := hg2.out
      rwa [splice_full _ _ (by simp [size_madeCells, hl])] at h
    generalize goInt _ = gv
    clear hmk hg2
    simp only [go_sem]
    obtain ⟨gs, O⟩ := G.out
    have hown2 : ∀ o, (w2.alloc o).ownsRow (gc + 1) 27 1 vo L.length (gs.map (sl size)) := fun o => own_keep O.own fun b _ hlt _ => by
      have := hb2.size
      rw [Below.heap_alloc _ _ _ (by omega), hb2.block b hlt]
    go_wp2_with (at_builtin; refine wpList_append_own _ rfl _ _ 22 rfl (gc + 1) 27 i1 (.slice none 0 0) 1 24 Ybaf.underlying22 hi1 hy0 hy1 hy2 rfl (by decide) _ _ _ rfl (hown2 _) _ 1 1 [sl size w.heap.size] rfl rfl ?c1 ?c2 ?c3 ?c4 ?c5 ?_)
    case c1 =>
      intro j u hj
      match j, hj with
      | 0, hj => simp at hj; subst hj; simp [Addr.add]
    case c2 => intro u hu; simp at hu; subst hu; rfl
    case c3 => unfold maxLen; omega
    case c4 => omega
    case c5 => have := hb2.size; simp; omega
    intro v' w4 hown4 hgrow _
    have hfin := Gen.add (vo' := v') G rfl hb2 hset rfl hgrow gs O hown4
    go_wp2
    go_ret
    exact ⟨v', rfl, hfin.1, hfin.2⟩
end Go.Proofs.YbulkdtycFmt.S
