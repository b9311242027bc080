import Derived.Test.YbulkdtxoCPushInv
namespace Go.Proofs.Ybulkdtxo.C
open Go.RowKit

theorem Inv.below {w w1 : World} {base b : Nat} {es : List Ent} {X : List Rec} (h : Inv w base b es X) (hb : Below w.heap.size w w1) (hbl : b < w.heap.size) : Inv w1 base b es X := by
  obtain ⟨c0, cs, v1, vr, vs, R⟩ := h
  have c := fun o => hb.cell (p := ⟨b, o, none⟩) hbl
  have f := fun o => hb.frozen (p := ⟨b, o, none⟩) hbl
  exact ⟨c0, cs, v1, vr, vs, (c 4).trans R.first, (c 5).trans R.rest, (c 6).trans R.cnt, (f 4).trans R.fz4, (f 5).trans R.fz5, (f 6).trans R.fz6, R.lay, R.len, R.owns.below hb⟩

theorem Inv.cnt {w : World} {base b : Nat} {es : List Ent} {X : List Rec} (h : Inv w base b es X) : w.cell? ⟨b, 6, none⟩ = some (.int .i64 es.length) := by
  obtain ⟨c0, cs, v1, vr, vs, R⟩ := h
  exact R.cnt

theorem Inv.rows {w : World} {base b : Nat} {es : List Ent} {X : List Rec} (h : Inv w base b es X) : Owns w base X := by
  obtain ⟨c0, cs, v1, vr, vs, R⟩ := h
  have := R.owns.tail.tail
  exact ⟨fun r hr => this.1 r (List.mem_append_right _ hr), (List.pairwise_append.1 this.2).2.1⟩

/-- Where entry j of a row of entries lies. -/
theorem row_cells {w : World} {base n : Nat} {v : Value} {c : List Ent} {e : Ent} {j : Nat} (h : w.ownsRow base 70 4 v c.length (flat c)) (hj : c[j]? = some e) (hn : c.length = n) :
    ∃ g cap, v = .slice (some ⟨g, 0, none⟩) n cap ∧ j < n ∧ w.cell? ⟨g, j * 4, none⟩ = some (.pointer e.t) ∧ w.cell? ⟨g, j * 4 + 1, none⟩ = some (.int .i64 e.pos) ∧
      w.cell? ⟨g, j * 4 + 2, none⟩ = some (.slice e.ra e.rl e.rc) ∧ w.cell? ⟨g, j * 4 + 3, none⟩ = some (.pointer e.cl) := by
  subst hn
  have hlt : j < c.length := (List.getElem?_eq_some_iff.1 hj).1
  obtain ⟨g, cap, rfl, _, _⟩ := h.form (by omega)
  have C : ∀ i, i < 4 → w.cell? ⟨g, j * 4 + i, none⟩ = e.cells[i]? := fun i hi => by
    rw [h.cellAt (j * 4 + i) (by omega)]
    exact flat_get c j e hj i hi
  exact ⟨g, cap, rfl, hlt, C 0 (by omega), C 1 (by omega), C 2 (by omega), C 3 (by omega)⟩

theorem Inv.find {w : World} {base b : Nat} {es : List Ent} {X : List Rec} (h : Inv w base b es X) {i : Nat} {e : Ent} (hi : es[i]? = some e) (hn : es.length ≤ 100001) :
    (i < 1024 ∧ ∃ g n cap, i < n ∧ w.cell? ⟨b, 4, none⟩ = some (.slice (some ⟨g, 0, none⟩) n cap) ∧ w.cell? ⟨g, i * 4, none⟩ = some (.pointer e.t) ∧ w.cell? ⟨g, i * 4 + 1, none⟩ = some (.int .i64 e.pos) ∧
      w.cell? ⟨g, i * 4 + 2, none⟩ = some (.slice e.ra e.rl e.rc) ∧ w.cell? ⟨g, i * 4 + 3, none⟩ = some (.pointer e.cl)) ∨
    (∃ k j gr m capr g n cap, i = 1024 * (k + 1) + j ∧ j < 1024 ∧ k < m ∧ m ≤ 100000 ∧ j < n ∧ w.cell? ⟨b, 5, none⟩ = some (.slice (some ⟨gr, 0, none⟩) m capr) ∧ w.cell? ⟨gr, k, none⟩ = some (.slice (some ⟨g, 0, none⟩) n cap) ∧
      w.cell? ⟨g, j * 4, none⟩ = some (.pointer e.t) ∧ w.cell? ⟨g, j * 4 + 1, none⟩ = some (.int .i64 e.pos) ∧
      w.cell? ⟨g, j * 4 + 2, none⟩ = some (.slice e.ra e.rl e.rc) ∧ w.cell? ⟨g, j * 4 + 3, none⟩ = some (.pointer e.cl)) := by
  obtain ⟨c0, cs, v1, vr, vs, R⟩ := h
  have hlt : i < es.length := (List.getElem?_eq_some_iff.1 hi).1
  by_cases h1 : i < 1024
  · left
    refine ⟨h1, ?_⟩
    have own1 : w.ownsRow base 70 4 v1 c0.length (flat c0) := R.owns.1 ⟨70, 4, v1, c0.length, flat c0⟩ (by simp)
    have hc : c0[i]? = some e := by rw [R.lay.first, List.getElem?_take, if_pos h1]; exact hi
    obtain ⟨g, cap, hv, hr⟩ := row_cells own1 hc rfl
    exact ⟨g, c0.length, cap, hr.1, by rw [R.first, hv], hr.2⟩
  · right
    have hk : i / 1024 - 1 < cs.length := by rw [R.lay.len]; omega
    have hkv : i / 1024 - 1 < vs.length := by rw [R.len]; exact hk
    have ownr : w.ownsRow base 53 1 vr vs.length vs := R.owns.1 ⟨53, 1, vr, vs.length, vs⟩ (by simp)
    obtain ⟨gr, capr, hvr, _, _⟩ := ownr.form (by omega)
    have hc := R.lay.nth _ _ (List.getElem?_eq_getElem hk)
    have ownc : w.ownsRow base 70 4 vs[i / 1024 - 1] (cs[i / 1024 - 1]).length (flat cs[i / 1024 - 1]) := by
      refine R.owns.1 ⟨70, 4, vs[i / 1024 - 1], (cs[i / 1024 - 1]).length, flat cs[i / 1024 - 1]⟩ (List.mem_cons_of_mem _ (List.mem_cons_of_mem _ (List.mem_append_left _ ?_)))
      refine List.mem_iff_getElem?.2 ⟨i / 1024 - 1, ?_⟩
      simp [chunks, List.getElem?_zipWith, List.getElem?_eq_getElem hk, List.getElem?_eq_getElem hkv]
    have hce : (cs[i / 1024 - 1])[i % 1024]? = some e := by
      rw [hc, List.getElem?_take, if_pos (by omega), List.getElem?_drop, ← hi]
      congr 1
      omega
    obtain ⟨g, cap, hv, hr⟩ := row_cells ownc hce rfl
    have hlen : vs.length ≤ 100000 := by rw [R.len, R.lay.len]; omega
    refine ⟨i / 1024 - 1, i % 1024, gr, vs.length, capr, g, _, cap, by omega, by omega, hkv, hlen, hr.1, by rw [R.rest, hvr], ?_, hr.2⟩
    subst hvr
    rw [ownr.cellAt _ (by omega), List.getElem?_eq_getElem hkv, hv]

theorem cat_any {w : World} {base b : Nat} {es : List Ent} {X : List Rec} (h : Inv w base b es X) {i : Nat} {e : Ent} (hi : es[i]? = some e) (hn : es.length ≤ 100001) :
    Calls Yba.prog 12 #[.pointer (some ⟨b, 4, none⟩), .int .i64 i] w fun r w' => r = .returned (.tuple #[.agg e.cells.toArray, .bool true]) ∧ Below w.heap.size w w' := by
  rcases h.find hi hn with ⟨h1, g, n, cap, h2, h3, a0, a1, a2, a3⟩ | ⟨k, j, gr, m, capr, g, n, cap, e1, e2, e3, e4, e5, e6, e7, a0, a1, a2, a3⟩
  · exact cat_first b i g n cap e w h1 h2 h3 a0 a1 a2 a3
  · exact cat_rest b i k j gr m capr g n cap e w e1 e2 e3 e4 e5 e6 e7 a0 a1 a2 a3

theorem at_any {w : World} {base b : Nat} {es : List Ent} {X : List Rec} (h : Inv w base b es X) {i : Nat} {e : Ent} (hi : es[i]? = some e) (hn : es.length ≤ 100001) :
    Calls Yba.prog 16 #[.pointer (some ⟨b, 4, none⟩), .int .i64 i] w fun r w' => r = .returned (.agg e.cells.toArray) ∧ Below w.heap.size w w' := by
  rcases h.find hi hn with ⟨h1, g, n, cap, h2, h3, a0, a1, a2, a3⟩ | ⟨k, j, gr, m, capr, g, n, cap, e1, e2, e3, e4, e5, e6, e7, a0, a1, a2, a3⟩
  · exact at_first b i g n cap e w h1 h2 h3 a0 a1 a2 a3
  · exact at_rest b i k j gr m capr g n cap e w e1 e2 e3 e4 e5 e6 e7 a0 a1 a2 a3

end Go.Proofs.Ybulkdtxo.C
