/-
  The law (f3) where 'subsets' lists the sets: the listing is the recursive one.
-/
import Derived.Test.YbulkdtycFmtLaw2
namespace Go.Proofs.YbulkdtycFmt.S
open Go.RowKit Go.Extern.Stop Go.Stop Go.Extern

def tab (n size i t : Nat) : Nat := ((comb n n size).getD i []).getD t 0

theorem comb_le (n : Nat) : ∀ (d m : Nat) (l : List Nat), l ∈ comb n d m → ∀ x ∈ l, x ≤ n
  | d, 0, l, h, x, hx => by
    rw [comb_zero] at h
    simp at h
    subst h
    cases hx
  | 0, _ + 1, l, h, x, hx => by cases h
  | d + 1, m + 1, l, h, x, hx => by
    rw [comb_succ, List.mem_append] at h
    rcases h with h | h
    · obtain ⟨l', h1, rfl⟩ := List.mem_map.1 h
      rcases List.mem_cons.1 hx with rfl | h2
      · omega
      · exact comb_le n d m l' h1 x h2
    · exact comb_le n d (m + 1) l h x hx

theorem tab_le (n size i t : Nat) : tab n size i t ≤ n := by
  unfold tab
  rw [List.getD_eq_getElem?_getD, List.getD_eq_getElem?_getD]
  cases h : (comb n n size)[i]? with
  | none => simp
  | some l =>
    simp only [Option.getD_some]
    cases h2 : l[t]? with
    | none => simp
    | some x => exact comb_le n n size l (List.mem_of_getElem? h) x (List.mem_of_getElem? h2)

theorem table_comb (n size : Nat) (hs : size ≤ n) (hn : n ≤ 4096) : Table n size (ch n size) (tab n size) := by
  refine ⟨fun t ht => ?_, fun i hi => ?_, fun i t => Nat.le_trans (tab_le n size i t) (by omega), fun _ => hs⟩
  · have h := comb_head n n size hs (Nat.le_refl _)
    have e : tab n size 0 t = (List.range' (n - n + 1) size).getD t 0 := by simp [tab, h]
    rw [e, List.getD_eq_getElem?_getD, List.getElem?_range' ht]
    simp
    omega
  · have hl := comb_length n n size
    obtain ⟨a, ha⟩ : ∃ a, (comb n n size)[i]? = some a := ⟨_, List.getElem?_eq_getElem (by omega)⟩
    obtain ⟨b, hb⟩ : ∃ b, (comb n n size)[i + 1]? = some b := ⟨_, List.getElem?_eq_getElem (by omega)⟩
    have hal : a.length = size := comb_len n n size a (List.mem_of_getElem? ha)
    obtain ⟨J, hJ, h1, h2, h3⟩ := comb_next n n size i a b (Nat.le_refl _) ha hb
    have ta : ∀ t, tab n size i t = a.getD t 0 := fun t => by simp [tab, ha]
    have tb : ∀ t, tab n size (i + 1) t = b.getD t 0 := fun t => by simp [tab, hb]
    refine ⟨J, hJ, by rw [ta]; exact h1, fun t ht hts => by rw [ta]; exact h2 t ht hts, fun t ht => ?_, fun t ht hts => ?_⟩
    · rw [ta, tb, h3, List.getD_eq_getElem?_getD, List.getElem?_append_left (by simp; omega), List.getElem?_take, if_pos ht, ← List.getD_eq_getElem?_getD]
    · rw [ta, tb, h3, List.getD_eq_getElem?_getD, List.getElem?_append_right (by simp; omega)]
      have e : t - (List.take J a).length = t - J := by simp; omega
      rw [e, List.getElem?_range' (by omega)]
      simp

theorem gen_new (w : World) (size : Nat) (hs : size ≤ 4096) : Gen (w.alloc (.cells (madeCells #[.int .i64 0] size) 3)) w.heap.size size 0 [] (.slice none 0 0) [] := by
  refine ⟨⟨rfl, .inr ⟨_, size, _, rfl, Nat.le_refl _, heap_alloc_new w _, Nat.zero_le _, by unfold maxLen; omega, by simp [size_madeCells], by simp⟩⟩, [], ⟨rfl, .inl ⟨rfl, rfl⟩⟩, rfl, fun i g l h => by simp at h⟩

/-- What the recursive listing leaves. -/
theorem Gen.two {w : World} {gc size k n : Nat} {cur : List Nat} {vo : Value} (G : Gen w gc size k cur vo (comb n n size)) (hpos : 0 < ch n size) :
    ∃ gw cw, vo = .slice (some ⟨gw, 0, none⟩) (ch n size) cw ∧ gw < w.heap.size ∧ ∀ i, i < ch n size → ∃ g, g < w.heap.size ∧ w.cell? ⟨gw, i, none⟩ = some (.slice (some ⟨g, 0, none⟩) size size) ∧ ∀ t, t < size → w.cell? ⟨g, t, none⟩ = some (.int .i64 (tab n size i t : Nat)) := by
  obtain ⟨_, gs, hown, hlen, heach⟩ := G
  have hl := comb_length n n size
  rw [hl] at hown hlen
  obtain ⟨h1, ⟨h2, h3⟩ | ⟨gw, cw, c, rfl, hB, hg, hcap, hmax, hsz, htk⟩⟩ := id hown
  · omega
  · refine ⟨gw, cw, rfl, lt_of_heap hg, fun i hi => ?_⟩
    obtain ⟨g, hgi⟩ : ∃ g, gs[i]? = some g := ⟨_, List.getElem?_eq_getElem (by omega)⟩
    obtain ⟨l, hli⟩ : ∃ l, (comb n n size)[i]? = some l := ⟨_, List.getElem?_eq_getElem (by omega)⟩
    obtain ⟨h5, h6⟩ := heach i g l hgi hli
    have hll : l.length = size := comb_len n n size l (List.mem_of_getElem? hli)
    refine ⟨g, lt_of_heap h6, own_cell hown i _ (by rw [List.getElem?_map, hgi]; rfl), fun t ht => ?_⟩
    rw [World.cell?]
    simp only [h6]
    have ht2 : l[t]? = some l[t] := List.getElem?_eq_getElem (by omega)
    simp [tab, hli, ht2]

theorem added_all (n size : Nat) : ([] : List (List Nat)) ++ added n (n + 1 - 1) size [] = comb n n size := by
  simp [added]

set_option maxRecDepth 1000000 in
set_option maxHeartbeats 4000000 in
theorem law_in (n size : Nat) (w : World) (hn : n ≤ 4096) (hs : size ≤ n) (hc : ch n size ≤ 1048576) (he : ch n size * size ≤ 16777216) :
    Calls Ybaf.prog 3 #[.int .i64 n, .int .i64 size] w fun e w' => e = .returned (.bool true) ∧ Below w.heap.size w w' := by
  have hpos := ch_pos n size hs
  have hbin := (bin_in n size hs hn w).mono (R' := fun e w' => e = .returned (.tuple #[.int .i64 (ch n size : Nat), .bool true]) ∧ w' = w) fun e w' h => ⟨h.1 hc, h.2.2⟩
  have hsub := subs_ok n size (ch n size) (tab n size) w hn (by omega) hpos hc he (table_comb n size hs hn) hbin
  clear hbin
  obtain ⟨c, hcc⟩ : ∃ c, c = ch n size := ⟨_, rfl⟩
  obtain ⟨C, hC⟩ : ∃ C, C = c * size := ⟨_, rfl⟩
  have hm : (c : Int) * (size : Int) = (C : Int) := by rw [hC]; exact (Int.natCast_mul _ _).symm
  have hCle : C ≤ 16777216 := by rw [hC, hcc]; exact he
  have hcle : c ≤ 1048576 := by rw [hcc]; exact hc
  have hpas : ∀ w1, Calls Ybaf.prog 5 #[.int .i64 n, .int .i64 size] w1 fun e w' => e = .returned (.int .i64 c) ∧ Below w1.heap.size w1 w' := fun w1 => by
    have h := pas_any n size hs hn w1
    rwa [sat, Nat.min_eq_left (by omega), ← hcc] at h
  have hgen := fun w1 => gen_any n size (World.heap w1 |>.size) hn hs size 0 1 [] (.slice none 0 0) [] _ (by omega) rfl (by omega) (by rw [List.nil_append, added_length, Nat.add_sub_cancel]; exact hc) (gen_new w1 size (by omega))
  rw [← hcc] at hsub
  have HCC : Hid (c = ch n size) := hcc
  clear hC hcc he hc
  have hle : ¬ (n : Int) < size := by omega
  have k1 : (n : Int) ≤ 4096 := by omega
  have k2 : (size : Int) ≤ 4096 := by omega
  have hmk : ∀ w1, (Instr.makeSlice 27 (.int .i64 0) (.int .i64 (size : Int))).run Ybaf.prog w1 = .ok (.slice (some ⟨w1.heap.size, 0, none⟩) 0 size) (w1.alloc (.cells (madeCells #[.int .i64 0] size) 3)) := fun w1 => run_make3 w1 0 size (Nat.zero_le _) (by omega)
  go_enter Ybaf.func3, Ybaf.ntmps3
  go_wp2_with (first | (go_at_call 4; refine hsub.mono ?_; rintro e w1 ⟨rfl, S1⟩) | (go_at_call 5; refine (hpas _).mono ?_; rintro e w2 ⟨rfl, hb2⟩))
  refine (hgen _).mono ?_
  rintro e w3 ⟨vo, rfl, G3, hb3⟩
  rw [added_all] at G3
  obtain ⟨gw, cw, rfl, gwl, two⟩ := G3.two hpos
  rw [← HCC.out] at two ⊢
  have hb13 : Below w1.heap.size w1 w3 := (hb2.alloc hb2.size _).trans (hb3.mono hb2.size)
  have hB := S1.both hb13 two gwl
  have hbw := S1.below.trans (hb13.mono S1.below.size)
  clear two G3 hb3 hb2 hgen hpas hsub hmk hm
  simp only []
  go_at_K
  iterate 28 go_step
  apply cmp_tail (w0 := w) (T := tab n size)
  · exact hbw
  · omega
  · exact hcle
  · exact hB
end Go.Proofs.YbulkdtycFmt.S
