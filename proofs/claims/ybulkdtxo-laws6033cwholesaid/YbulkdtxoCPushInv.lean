import Derived.Test.YbulkdtxoCInv
import Derived.Test.YbulkdtxoCPushB
namespace Go.Proofs.Ybulkdtxo.C
open Go.RowKit

theorem Kept.refl (w : World) (base b : Nat) : Kept w w base b := ⟨rfl, rfl, rfl, Nat.le_refl _, fun _ _ _ => rfl, fun _ _ => rfl, fun _ => rfl⟩
theorem Kept.trans {w w1 w2 : World} {base b : Nat} (h : Kept w w1 base b) (k : Kept w1 w2 base b) : Kept w w2 base b :=
  ⟨k.os.trans h.os, k.tape.trans h.tape, k.output.trans h.output, Nat.le_trans h.size k.size, fun i hi hn => (k.block i hi hn).trans (h.block i hi hn),
    fun j hj => (k.cell j hj).trans (h.cell j hj), fun j => (k.frozen j).trans (h.frozen j)⟩
theorem kept_below {w w1 : World} {base b N : Nat} (h : Below N w w1) (hN : base ≤ N) (hb : b < base) : Kept w w1 base b :=
  ⟨h.os, h.tape, h.output, h.size, fun k hk _ => h.block k (by omega), fun j _ => h.cell (by show b < N; omega), fun j => h.frozen (by show b < N; omega)⟩
theorem kept_grown {w w1 : World} {base b : Nat} {row : Option Nat} (h : w.grownBy w1 row) (hbase : base ≤ w.heap.size) (hr : ∀ k, row = some k → base ≤ k) (hb : b < base) : Kept w w1 base b :=
  kept_below (N := base) ⟨h.os, h.tape, h.output, h.size, fun k hk => h.block k (by omega) (fun e => by have := hr k e.symm; omega)⟩ (Nat.le_refl _) hb
theorem kept_hdr (w : World) (base b j : Nat) (hj : 4 ≤ j ∧ j < 7) (u : Value) : Kept w (w.setCell ⟨b, j, none⟩ u) base b :=
  ⟨rfl, rfl, rfl, by simp [World.setCell], fun k _ hn => Below.heap_setCell _ _ _ _ hn, fun i hi => World.cell?_setCell_other _ _ _ _ (fun h => by have := congrArg Addr.off h; dsimp only at this; omega), fun i => by simp⟩
theorem kept_far (w : World) (base b : Nat) (a : Addr) (ha : base ≤ a.block) (hb : b < base) (u : Value) : Kept w (w.setCell a u) base b :=
  kept_below (N := base) ((Below.refl base w).setCell ha u) (Nat.le_refl _) hb

theorem slice_form {w : World} {base e size n : Nat} {v : Value} {xs : List Value} (h : w.ownsRow base e size v n xs) : ∃ a cap, v = .slice a n cap := by
  rcases h.2 with ⟨rfl, rfl⟩ | ⟨g, cap, cur, rfl, _⟩
  · exact ⟨none, 0, rfl⟩
  · exact ⟨_, _, rfl⟩

theorem push_any (w : World) (base b : Nat) (es : List Ent) (X : List Rec) (e : Ent) (h : Inv w base b es X) (hb : b < base) (hbase : base ≤ w.heap.size) (hn : es.length ≤ 100000) :
    Calls Yba.prog 10 #[.pointer (some ⟨b, 4, none⟩), .agg e.cells.toArray] w fun r w' => r = .returned (.tuple #[]) ∧ Inv w' base b (es ++ [e]) X ∧ Kept w w' base b := by
  obtain ⟨c0, cs, v1, vr, vs, R⟩ := h
  have own1 : w.ownsRow base 70 4 v1 c0.length (flat c0) := R.owns.1 ⟨70, 4, v1, c0.length, flat c0⟩ (by simp)
  have ownr : w.ownsRow base 53 1 vr vs.length vs := R.owns.1 ⟨53, 1, vr, vs.length, vs⟩ (by simp)
  have hbl : b < w.heap.size := by omega
  have hlow : ∀ v k, (∃ e size n xs, w.ownsRow base e size v n xs) → v.ownBlock = some k → base ≤ k := fun v k ⟨_, _, _, _, hv⟩ hk => (hv.lt k hk).1
  obtain ⟨ar, capr, rfl⟩ := slice_form ownr
  by_cases hA : es.length < 1024
  · obtain ⟨h0, h1, L'⟩ := lay_a R.lay e hA
    subst h0
    subst h1
    have hv0 : vs = [] := List.eq_nil_of_length_eq_zero (by rw [R.len]; rfl)
    subst hv0
    refine (push_a base b c0.length 0 capr ar v1 c0 e w hA rfl rfl R.first R.rest R.cnt R.fz4 R.fz6 own1 hb hbase).mono ?_
    rintro r w' ⟨rfl, g, cap, w1, w2, hown, hbel, hgrow, hat, rfl⟩
    have A := fun o => after_append hbel hgrow ⟨b, o, none⟩ hbl (below_block own1 hb)
    have hO := (R.owns.grown (r' := ⟨70, 4, .slice (some ⟨g, 0, none⟩) (c0.length + 1) cap, c0.length + 1, flat c0 ++ e.cells⟩) hbel hgrow hown rfl hat)
    refine ⟨rfl, ⟨c0 ++ [e], [], .slice (some ⟨g, 0, none⟩) (c0.length + 1) cap, .slice ar 0 capr, [], ?_⟩, ?_⟩
    · refine ⟨?_, ?_, ?_, ?_, ?_, ?_, L', rfl, ?_⟩
      · rw [World.cell?_setCell_other _ _ _ _ (by simp)]
        exact World.cell?_setCell_same _ _ _ ((A 4).1.trans R.first)
      · rw [World.cell?_setCell_other _ _ _ _ (by simp), World.cell?_setCell_other _ _ _ _ (by simp)]
        exact (A 5).1.trans R.rest
      · rw [World.cell?_setCell_same (u := .int .i64 c0.length) _ _ _ (by rw [World.cell?_setCell_other _ _ _ _ (by simp)]; exact (A 6).1.trans R.cnt)]
        simp
      · simp only [World.frozen?_setCell]; exact (A 4).2.trans R.fz4
      · simp only [World.frozen?_setCell]; exact (A 5).2.trans R.fz5
      · simp only [World.frozen?_setCell]; exact (A 6).2.trans R.fz6
      · have := (hO.setCell ⟨b, 4, none⟩ hb (.slice (some ⟨g, 0, none⟩) (c0.length + 1) cap)).setCell ⟨b, 6, none⟩ hb (.int .i64 ((c0.length : Int) + 1))
        rw [show (c0 ++ [e]).length = c0.length + 1 by simp, show flat (c0 ++ [e]) = flat c0 ++ e.cells by rw [flat_append, flat_one]]
        exact this
    · exact (((kept_below hbel hbase hb).trans (kept_grown hgrow (Nat.le_trans hbase hbel.size) (fun k hk => hlow v1 k ⟨_, _, _, _, own1⟩ hk) hb)).trans (kept_hdr _ _ _ 4 (by omega) _)).trans (kept_hdr _ _ _ 6 (by omega) _)
  · by_cases hC : es.length / 1024 = cs.length
    · -- the last of the other blocks has room
      obtain ⟨k, hk⟩ : ∃ k, cs.length = k + 1 := ⟨cs.length - 1, by omega⟩
      obtain ⟨vs', v, rfl, hvl⟩ := list_last vs k (by rw [R.len]; exact hk)
      obtain ⟨cs', c, rfl, hcl⟩ := list_last cs k hk
      obtain ⟨hc, L'⟩ := lay_c R.lay e (by rw [hC]; simp)
      have hch : chunks (vs' ++ [v]) (cs' ++ [c]) = chunks vs' cs' ++ [⟨70, 4, v, c.length, flat c⟩] := by
        unfold chunks
        rw [List.zipWith_append (by rw [hvl, hcl])]
        rfl
      have hch' : ∀ v2, chunks (vs' ++ [v2]) (cs' ++ [c ++ [e]]) = chunks vs' cs' ++ [⟨70, 4, v2, (c ++ [e]).length, flat (c ++ [e])⟩] := fun v2 => by
        unfold chunks
        rw [List.zipWith_append (by rw [hvl, hcl])]
        rfl
      have R0 := R.owns
      rw [hch] at R0
      have ownv : w.ownsRow base 70 4 v c.length (flat c) := R0.1 ⟨70, 4, v, c.length, flat c⟩ (by simp)
      simp only [List.length_append, List.length_singleton, hvl] at ownr R0
      obtain ⟨gr, capr', hvr, hgb, hgl⟩ := ownr.form (by omega)
      obtain ⟨har, hcapr⟩ : ar = some ⟨gr, 0, none⟩ ∧ capr = capr' := by
        have := hvr
        simp only [Value.slice.injEq] at this
        exact ⟨this.1, this.2.2⟩
      subst har
      subst hcapr
      have R1 := R0.perm (L' := ⟨70, 4, v, c.length, flat c⟩ :: ⟨53, 1, .slice (some ⟨gr, 0, none⟩) (k + 1) capr, k + 1, vs' ++ [v]⟩ :: ⟨70, 4, v1, c0.length, flat c0⟩ :: (chunks vs' cs' ++ X)) (by
        refine ((List.Perm.cons _ (List.Perm.cons _ (show (chunks vs' cs' ++ [_] ++ X).Perm (⟨70, 4, v, c.length, flat c⟩ :: (chunks vs' cs' ++ X)) from ?_))).trans ?_)
        · simp
        · refine (List.Perm.cons _ (List.Perm.swap _ _ _)).trans ?_
          refine (List.Perm.swap _ _ _).trans ?_
          exact List.Perm.cons _ (List.Perm.swap _ _ _))
      have hgv : some gr ≠ v.ownBlock := fun hh => (List.pairwise_cons.1 R1.2).1 _ (List.mem_cons_self) gr hh.symm rfl
      have hrest := R.rest
      simp only [List.length_append, List.length_singleton, hvl] at hrest
      have hcell : w.cell? ⟨gr, k, none⟩ = some v := by
        rw [ownr.cellAt k (by omega)]
        rw [List.getElem?_append_right (by omega)]
        simp [hvl]
      refine (push_c base b es.length k gr capr v c e w (by rw [hC]; exact hk) hn (by omega) hrest R.cnt R.fz6 hcell (ownr.frozenAt k) ownv hb hgb hgv hbase).mono ?_
      rintro r w' ⟨rfl, g, cap, w1, w2, hown, hbel, hgrow, hat, rfl⟩
      have A := fun o => after_append hbel hgrow ⟨b, o, none⟩ hbl (below_block ownv hb)
      have hO := (R1.grown (r' := ⟨70, 4, .slice (some ⟨g, 0, none⟩) (c.length + 1) cap, c.length + 1, flat c ++ e.cells⟩) hbel hgrow hown rfl hat)
      have hO2 := ((hO.perm (List.Perm.swap _ _ _)).stored k (.slice (some ⟨g, 0, none⟩) (c.length + 1) cap)).setCell ⟨b, 6, none⟩ hb (.int .i64 ((es.length : Int) + 1))
      have hset : (vs' ++ [v]).set k (.slice (some ⟨g, 0, none⟩) (c.length + 1) cap) = vs' ++ [.slice (some ⟨g, 0, none⟩) (c.length + 1) cap] := by
        rw [List.set_append_right _ _ (by omega)]
        simp [hvl]
      rw [hset] at hO2
      refine ⟨rfl, ⟨c0, cs' ++ [c ++ [e]], v1, .slice (some ⟨gr, 0, none⟩) (k + 1) capr, vs' ++ [.slice (some ⟨g, 0, none⟩) (c.length + 1) cap], ?_⟩, ?_⟩
      · have hne : ∀ o : Nat, (⟨gr, k, none⟩ : Addr) ≠ ⟨b, o, none⟩ := fun o hh => by have := congrArg Addr.block hh; dsimp only at this; omega
        refine ⟨?_, ?_, ?_, ?_, ?_, ?_, L', by simp [hvl, hcl], ?_⟩
        · rw [World.cell?_setCell_other _ _ _ _ (by simp), World.cell?_setCell_other _ _ _ _ (hne _)]
          exact (A 4).1.trans R.first
        · rw [World.cell?_setCell_other _ _ _ _ (by simp), World.cell?_setCell_other _ _ _ _ (hne _)]
          exact (A 5).1.trans hrest
        · rw [World.cell?_setCell_same (u := .int .i64 es.length) _ _ _ (by rw [World.cell?_setCell_other _ _ _ _ (hne _)]; exact (A 6).1.trans R.cnt)]
          simp
        · simp only [World.frozen?_setCell]; exact (A 4).2.trans R.fz4
        · simp only [World.frozen?_setCell]; exact (A 5).2.trans R.fz5
        · simp only [World.frozen?_setCell]; exact (A 6).2.trans R.fz6
        · rw [hch']
          simp only [List.length_append, List.length_singleton, hvl, flat_append, flat_one]
          refine hO2.perm ?_
          refine List.Perm.trans ?_ (List.Perm.swap _ _ _)
          refine List.Perm.cons _ ?_
          refine (List.Perm.swap _ _ _).trans (List.Perm.cons _ ?_)
          simpa using List.perm_middle.symm
      · exact (((kept_below hbel hbase hb).trans (kept_grown hgrow (Nat.le_trans hbase hbel.size) (fun k hk => hlow v k ⟨_, _, _, _, ownv⟩ hk) hb)).trans (kept_far _ _ _ ⟨gr, k, none⟩ hgb hb _)).trans (kept_hdr _ _ _ 6 (by omega) _)
    · -- a new block
      have hm : es.length = 1024 * (cs.length + 1) := by have := R.lay.len; omega
      have L' := lay_b R.lay e hm
      have hvl := R.len
      have hch' : ∀ v2, chunks (vs ++ [v2]) (cs ++ [[e]]) = chunks vs cs ++ [⟨70, 4, v2, 1, e.cells⟩] := fun v2 => by
        unfold chunks
        rw [List.zipWith_append hvl]
        simp [flat_one]
      refine (push_b base b es.length vs.length capr ar vs e w (by omega) hn rfl R.rest R.cnt R.fz5 R.fz6 ownr hb hbase).mono ?_
      rintro r w' ⟨rfl, g, cap, g2, cap2, w1, w2, w3, w4, hbel, hgrow, hown, hat, hbel2, hgrow2, hown2, hat2, hs2, hfr, rfl⟩
      have hgb : base ≤ g := (hown.lt g rfl).1
      have hsz : (w2.setCell ⟨b, 5, none⟩ (.slice (some ⟨g, 0, none⟩) (vs.length + 1) cap)).heap.size = w2.heap.size := by simp [World.setCell]
      have A := fun o => after_append hbel hgrow ⟨b, o, none⟩ hbl (below_block ownr hb)
      have A2 := fun o => after_append2 hbel2 (by rw [← hsz]; exact hbel2.size) hgrow2 ⟨b, o, none⟩ (by show b < w2.heap.size; omega) (by simp [Value.ownBlock]; omega)
      have hO1 := ((R.owns.perm (List.Perm.swap _ _ _)).grown (r' := ⟨53, 1, .slice (some ⟨g, 0, none⟩) (vs.length + 1) cap, vs.length + 1, vs ++ [Value.slice (some ⟨w.heap.size + 1, 0, none⟩) 0 1024]⟩) (g := g) hbel hgrow hown rfl
        (hat.elim Or.inl (fun h => Or.inr (by omega)))).setCell ⟨b, 5, none⟩ hb (.slice (some ⟨g, 0, none⟩) (vs.length + 1) cap)
      have hO2 := hO1.add (r := ⟨70, 4, .slice (some ⟨w.heap.size + 1, 0, none⟩) 0 1024, 0, []⟩) hfr (by
        intro s hs k hk hsk
        obtain rfl : w.heap.size + 1 = k := by simpa [Value.ownBlock] using hk
        rcases List.mem_cons.1 hs with rfl | hs
        · simp only [Value.ownBlock, Option.some.injEq] at hsk
          rcases hat with h | h
          · have := (ownr.lt g h).2; omega
          · omega
        · have := (World.ownsRow.lt (R.owns.1 s (by rcases List.mem_cons.1 hs with rfl | hs; · exact List.mem_cons_self
                                                    exact List.mem_cons_of_mem _ (List.mem_cons_of_mem _ hs))) _ hsk).2
          omega)
      have hO3 := hO2.grown (r' := ⟨70, 4, .slice (some ⟨g2, 0, none⟩) 1 cap2, 1, e.cells⟩) (by rw [hsz]; exact hbel2) hgrow2 (show w4.ownsRow base 70 4 (.slice (some ⟨g2, 0, none⟩) 1 cap2) 1 e.cells from by simpa using hown2) rfl (by rw [hsz]; exact hat2)
      have hO4 := ((hO3.perm (List.Perm.swap _ _ _)).stored vs.length (.slice (some ⟨g2, 0, none⟩) 1 cap2)).setCell ⟨b, 6, none⟩ hb (.int .i64 ((es.length : Int) + 1))
      have hset : (vs ++ [Value.slice (some ⟨w.heap.size + 1, 0, none⟩) 0 1024]).set vs.length (.slice (some ⟨g2, 0, none⟩) 1 cap2) = vs ++ [.slice (some ⟨g2, 0, none⟩) 1 cap2] := by
        rw [List.set_append_right _ _ (by omega)]
        simp
      rw [hset] at hO4
      refine ⟨rfl, ⟨c0, cs ++ [[e]], v1, .slice (some ⟨g, 0, none⟩) (vs.length + 1) cap, vs ++ [.slice (some ⟨g2, 0, none⟩) 1 cap2], ?_⟩, ?_⟩
      · have hne : ∀ o : Nat, (⟨g, vs.length, none⟩ : Addr) ≠ ⟨b, o, none⟩ := fun o hh => by have := congrArg Addr.block hh; dsimp only at this; omega
        refine ⟨?_, ?_, ?_, ?_, ?_, ?_, L', by simp [hvl], ?_⟩
        · rw [World.cell?_setCell_other _ _ _ _ (by simp), World.cell?_setCell_other _ _ _ _ (hne _), (A2 4).1, World.cell?_setCell_other _ _ _ _ (by simp)]
          exact (A 4).1.trans R.first
        · rw [World.cell?_setCell_other _ _ _ _ (by simp), World.cell?_setCell_other _ _ _ _ (hne _), (A2 5).1]
          exact World.cell?_setCell_same _ _ _ ((A 5).1.trans R.rest)
        · rw [World.cell?_setCell_same (u := .int .i64 es.length) _ _ _ (by rw [World.cell?_setCell_other _ _ _ _ (hne _), (A2 6).1, World.cell?_setCell_other _ _ _ _ (by simp)]; exact (A 6).1.trans R.cnt)]
          simp
        · simp only [World.frozen?_setCell]; rw [(A2 4).2]; simp only [World.frozen?_setCell]; exact (A 4).2.trans R.fz4
        · simp only [World.frozen?_setCell]; rw [(A2 5).2]; simp only [World.frozen?_setCell]; exact (A 5).2.trans R.fz5
        · simp only [World.frozen?_setCell]; rw [(A2 6).2]; simp only [World.frozen?_setCell]; exact (A 6).2.trans R.fz6
        · rw [hch']
          simp only [List.length_append, List.length_singleton]
          refine hO4.perm ?_
          refine List.Perm.trans ?_ (List.Perm.swap _ _ _)
          refine List.Perm.cons _ ?_
          refine (List.Perm.swap _ _ _).trans (List.Perm.cons _ ?_)
          simpa using List.perm_middle.symm
      · refine (((((kept_below hbel hbase hb).trans (kept_grown hgrow (Nat.le_trans hbase hbel.size) (fun k hk => hlow _ k ⟨_, _, _, _, ownr⟩ hk) hb)).trans (kept_hdr _ _ _ 5 (by omega) _)).trans (kept_below hbel2 (by omega) hb)).trans
          (kept_grown hgrow2 (by have := hbel2.size; rw [hsz] at this; omega) (fun k hk => by simp [Value.ownBlock] at hk; omega) hb)).trans ?_
        exact (kept_far _ _ _ ⟨g, vs.length, none⟩ hgb hb _).trans (kept_hdr _ _ _ 6 (by omega) _)

end Go.Proofs.Ybulkdtxo.C
