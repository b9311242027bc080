/-
  What the world holds of the three tables, their lengths and the three counts (no Go text is walked here).
-/
import Derived.Test.YbulkdtxoCApp
namespace Go.Proofs.Ybulkdtxo.C
open Go.RowKit

def isTab (w : World) (t : Nat) : Prop := ∃ ca, w.heap[t]? = some (.cells ca 48 (0, 0))

theorem isTab.setCell {w : World} {t : Nat} (h : isTab w t) (a : Addr) (v : Value) : isTab (w.setCell a v) t := by
  obtain ⟨ca, h⟩ := h
  unfold isTab
  simp only [World.setCell, Array.getElem?_modify]
  split
  · rw [h]; exact ⟨_, rfl⟩
  · exact ⟨ca, h⟩
theorem isTab.of {w w' : World} {t : Nat} (h : isTab w t) (he : w'.heap[t]? = w.heap[t]?) : isTab w' t := by obtain ⟨ca, h⟩ := h; exact ⟨ca, he.trans h⟩
theorem isTab.lt {w : World} {t : Nat} (h : isTab w t) : t < w.heap.size := by obtain ⟨ca, h⟩ := h; exact (Array.getElem?_eq_some_iff.1 h).1

/-- Table j: its pointer, its length, its rows. -/
structure Tab (w : World) (B : Nat) (tb ln : Nat → Nat) (j : Nat) : Prop where
  ptr : w.cell? ⟨B + 1, j, none⟩ = some (.pointer (some ⟨tb j, 0, none⟩))
  len : w.cell? ⟨B + 1 + 1, j, none⟩ = some (.int .i64 (ln j))
  rows : ∃ a cap, w.cell? ⟨tb j, 2, none⟩ = some (.slice a (ln j) cap)
  tab : isTab w (tb j)
  lo : B + 3 ≤ tb j
  small : ln j ≤ 7

/-- The first k tables have been made. -/
structure Tabs (w wr : World) (B : Nat) (cn : Nat → Int) (tb ln : Nat → Nat) (k : Nat) : Prop where
  below : Below B w wr
  size : B + 3 ≤ wr.heap.size
  cnt : ∀ j, j < 3 → wr.cell? ⟨B, j, none⟩ = some (.int .u8 (cn j))
  tabs : ∀ j, j < 3 → (∃ v, wr.cell? ⟨B + 1, j, none⟩ = some v) ∧ wr.frozen? ⟨B + 1, j, none⟩ = false
  lens : ∀ j, j < 3 → (∃ v, wr.cell? ⟨B + 1 + 1, j, none⟩ = some v) ∧ wr.frozen? ⟨B + 1 + 1, j, none⟩ = false
  done : ∀ j, j < k → Tab wr B tb ln j

theorem tabs_start (w : World) (r0 r1 r2 : Int) (cn : Nat → Int) (h0 : cn 0 = r0) (h1 : cn 1 = r1) (h2 : cn 2 = r2) (tb ln : Nat → Nat) :
    Tabs w (((w.alloc (.cells #[.int .u8 r0, .int .u8 r1, .int .u8 r2] 36)).alloc (.cells #[.pointer none, .pointer none, .pointer none] 38)).alloc (.cells #[.int .i64 0, .int .i64 0, .int .i64 0] 39)) w.heap.size cn tb ln 0 := by
  refine ⟨((((Below.refl w.heap.size w).alloc (Nat.le_refl _) _).alloc (by simp) _).alloc (by simp; omega) _), by simp, ?_, ?_, ?_, fun j hj => by omega⟩
  · intro j hj
    rw [World.cell?_alloc_past _ _ _ (by simp; omega), World.cell?_alloc_past _ _ _ (by simp), World.cell?_alloc_at _ _ _ _ rfl]
    match j, hj with
    | 0, _ => simp [h0]
    | 1, _ => simp [h1]
    | 2, _ => simp [h2]
  · intro j hj
    rw [World.cell?_alloc_past _ _ _ (by simp), World.cell?_alloc_at _ _ _ _ (by simp), World.frozen?_alloc_past _ _ _ (by simp), World.frozen?_alloc_at _ _ _ _ (by simp)]
    match j, hj with
    | 0, _ => exact ⟨⟨_, rfl⟩, rfl⟩
    | 1, _ => exact ⟨⟨_, rfl⟩, rfl⟩
    | 2, _ => exact ⟨⟨_, rfl⟩, rfl⟩
  · intro j hj
    rw [World.cell?_alloc_at _ _ _ _ (by simp), World.frozen?_alloc_at _ _ _ _ (by simp)]
    match j, hj with
    | 0, _ => exact ⟨⟨_, rfl⟩, rfl⟩
    | 1, _ => exact ⟨⟨_, rfl⟩, rfl⟩
    | 2, _ => exact ⟨⟨_, rfl⟩, rfl⟩

/-- One table more: its block t, its rows at w's end; behind the two stores. -/
theorem tabs_step {w wr w' : World} {B k t kk : Nat} {cn : Nat → Int} {tb ln : Nat → Nat} (h : Tabs w wr B cn tb ln k) (hk : k < 3) (ht : t = wr.heap.size) (hb : Below t wr w') (hB : t < w'.heap.size) {a : Option Addr} {cap : Nat}
    (hrows : w'.cell? ⟨t, 2, none⟩ = some (.slice a kk cap)) (htab : isTab w' t) (hkk : kk ≤ 7) :
    ∃ tb' ln', Tabs w ((w'.setCell ⟨B + 1, k, none⟩ (.pointer (some ⟨t, 0, none⟩))).setCell ⟨B + 1 + 1, k, none⟩ (.int .i64 kk)) B cn tb' ln' (k + 1) := by
  have hs := h.size
  have hc : ∀ b o, b < t → w'.cell? ⟨b, o, none⟩ = wr.cell? ⟨b, o, none⟩ := fun b o hb' => hb.cell (p := ⟨b, o, none⟩) hb'
  have hf : ∀ b o, b < t → w'.frozen? ⟨b, o, none⟩ = wr.frozen? ⟨b, o, none⟩ := fun b o hb' => hb.frozen (p := ⟨b, o, none⟩) hb'
  have ne1 : ∀ o b o', b ≠ B + 1 → (⟨B + 1, o, none⟩ : Addr) ≠ ⟨b, o', none⟩ := fun o b o' hn he => hn (congrArg Addr.block he).symm
  have ne2 : ∀ o b o', b ≠ B + 1 + 1 → (⟨B + 1 + 1, o, none⟩ : Addr) ≠ ⟨b, o', none⟩ := fun o b o' hn he => hn (congrArg Addr.block he).symm
  have ne3 : ∀ b o o', o ≠ o' → (⟨b, o, none⟩ : Addr) ≠ ⟨b, o', none⟩ := fun b o o' hn he => hn (congrArg Addr.off he)
  have far : ∀ b o, b ≠ B + 1 → b ≠ B + 1 + 1 → ((w'.setCell ⟨B + 1, k, none⟩ (.pointer (some ⟨t, 0, none⟩))).setCell ⟨B + 1 + 1, k, none⟩ (.int .i64 kk)).cell? ⟨b, o, none⟩ = w'.cell? ⟨b, o, none⟩ := fun b o h1 h2 => by
    rw [World.cell?_setCell_other _ _ _ _ (ne2 _ _ _ h2), World.cell?_setCell_other _ _ _ _ (ne1 _ _ _ h1)]
  have p1 : ∀ j, j ≠ k → ((w'.setCell ⟨B + 1, k, none⟩ (.pointer (some ⟨t, 0, none⟩))).setCell ⟨B + 1 + 1, k, none⟩ (.int .i64 kk)).cell? ⟨B + 1, j, none⟩ = wr.cell? ⟨B + 1, j, none⟩ := fun j hj => by
    rw [World.cell?_setCell_other _ _ _ _ (ne2 _ _ _ (by omega)), World.cell?_setCell_other _ _ _ _ (ne3 _ _ _ (Ne.symm hj)), hc _ _ (by omega)]
  have p1k : ((w'.setCell ⟨B + 1, k, none⟩ (.pointer (some ⟨t, 0, none⟩))).setCell ⟨B + 1 + 1, k, none⟩ (.int .i64 kk)).cell? ⟨B + 1, k, none⟩ = some (.pointer (some ⟨t, 0, none⟩)) := by
    obtain ⟨v, hv⟩ := (h.tabs k hk).1
    rw [World.cell?_setCell_other _ _ _ _ (ne2 _ _ _ (by omega))]
    exact World.cell?_setCell_same _ _ _ ((hc _ _ (by omega)).trans hv)
  have p2 : ∀ j, j ≠ k → ((w'.setCell ⟨B + 1, k, none⟩ (.pointer (some ⟨t, 0, none⟩))).setCell ⟨B + 1 + 1, k, none⟩ (.int .i64 kk)).cell? ⟨B + 1 + 1, j, none⟩ = wr.cell? ⟨B + 1 + 1, j, none⟩ := fun j hj => by
    rw [World.cell?_setCell_other _ _ _ _ (ne3 _ _ _ (Ne.symm hj)), World.cell?_setCell_other _ _ _ _ (ne1 _ _ _ (by omega)), hc _ _ (by omega)]
  have p2k : ((w'.setCell ⟨B + 1, k, none⟩ (.pointer (some ⟨t, 0, none⟩))).setCell ⟨B + 1 + 1, k, none⟩ (.int .i64 kk)).cell? ⟨B + 1 + 1, k, none⟩ = some (.int .i64 kk) := by
    obtain ⟨v, hv⟩ := (h.lens k hk).1
    exact World.cell?_setCell_same (u := v) _ _ _ (by rw [World.cell?_setCell_other _ _ _ _ (ne1 _ _ _ (by omega)), hc _ _ (by omega)]; exact hv)
  refine ⟨fun j => if j = k then t else tb j, fun j => if j = k then kk else ln j, ?_⟩
  refine ⟨?_, ?_, ?_, ?_, ?_, ?_⟩
  · exact (h.below.trans ((hb.mono (by omega)).trans (((Below.refl B _).setCell (by show B ≤ B + 1; omega) _)))).setCell (by show B ≤ B + 1 + 1; omega) _
  · have := hb.size; simp [World.setCell]; omega
  · intro j hj; rw [far _ _ (by omega) (by omega), hc _ _ (by omega)]; exact h.cnt j hj
  · intro j hj
    simp only [World.frozen?_setCell]
    refine ⟨?_, (hf _ _ (by omega)).trans (h.tabs j hj).2⟩
    by_cases hjk : j = k
    · subst hjk; exact ⟨_, p1k⟩
    · rw [p1 j hjk]; exact (h.tabs j hj).1
  · intro j hj
    simp only [World.frozen?_setCell]
    refine ⟨?_, (hf _ _ (by omega)).trans (h.lens j hj).2⟩
    by_cases hjk : j = k
    · subst hjk; exact ⟨_, p2k⟩
    · rw [p2 j hjk]; exact (h.lens j hj).1
  · intro j hj
    by_cases hjk : j = k
    · subst hjk
      refine ⟨?_, ?_, ?_, ?_, ?_, ?_⟩
      · simpa using p1k
      · simpa using p2k
      · refine ⟨a, cap, ?_⟩
        simp only [if_true]
        rw [far _ _ (by omega) (by omega)]
        exact hrows
      · simp only [if_true]; exact (htab.setCell _ _).setCell _ _
      · simp only [if_true]; omega
      · simp only [if_true]; exact hkk
    · have D := h.done j (by omega)
      have hlt := D.tab.lt
      have hlo := D.lo
      refine ⟨?_, ?_, ?_, ?_, ?_, ?_⟩
      · simp only [hjk, if_false]; rw [p1 j hjk]; exact D.ptr
      · simp only [hjk, if_false]; rw [p2 j hjk]; exact D.len
      · simp only [hjk, if_false]
        obtain ⟨a', cap', hr⟩ := D.rows
        exact ⟨a', cap', by rw [far _ _ (by omega) (by omega), hc _ _ (by omega)]; exact hr⟩
      · simp only [hjk, if_false]; exact ((D.tab.of (hb.block _ (by omega))).setCell _ _).setCell _ _
      · simp only [hjk, if_false]; exact D.lo
      · simp only [hjk, if_false]; exact D.small

end Go.Proofs.Ybulkdtxo.C
