import Derived.Test.YbulkdtxoCTail1
import Derived.Deep.LoopGhost
import Derived.Deep.RegionWith
import Derived.Deep.RegionHeld
import Derived.Deep.DeepCutAuto
namespace Go.Proofs.Ybulkdtxo.C
open Go.RowKit

set_option maxRecDepth 100000 in
set_option maxHeartbeats 1000000 in
theorem walk_long (r0 r1 r2 pad outer pick : Int) (alone : Bool) (ad : Option Addr) (len cap : Nat) (w : World) (hlen : 65536 < len) (hl : len ≤ maxLen) :
    Calls Yba.prog 5 #[.int .u8 r0, .int .u8 r1, .int .u8 r2, .int .u16 pad, .slice ad len cap, .int .i64 outer, .int .u8 pick, .bool alone] w fun e w' => e = .returned (.bool true) ∧ Below w.heap.size w w' := by
  unfold maxLen at hl
  have h1 : (65536 : Int) < (len : Int) := by omega
  go_enter Yba.func5, Yba.ntmps5
  go_wp2
  go_ret
  exact ⟨rfl, Below.refl _ _⟩

theorem info50 : (Yba.prog.info? 50).map (fun i => (i.zero, i.size, i.bytes)) = some (some (.slice none 0 0), 1, 24) := by kernel_rfl

theorem mkRows (kk : Nat) (h : kk ≤ 7) : ∃ Z : Array Value, Z.size = kk ∧ ∀ W : World, (Instr.makeSlice 41 (.int .i64 kk) (.int .i64 kk)).run Yba.prog W = .ok (.slice (some ⟨W.heap.size, 0, none⟩) kk kk) (W.alloc (.cells Z 50)) := by
  obtain ⟨i0, hi, hz0, hz1, hz2⟩ := info_parts info50
  refine ⟨_, ?_, fun W => run_make W 41 50 i0 _ Yba.underlying41 hi hz0 .i64 .i64 kk kk (by omega) (by omega) (by rw [hz2]; omega) (by omega)⟩
  rw [hz1]
  simp [madeCells]

/-- The inner loop's world: the table's block t, its rows in block t + 1; nothing below t has turned. -/
structure Fill (wr w' : World) (t kk : Nat) : Prop where
  below : Below t wr w'
  size : t + 2 ≤ w'.heap.size
  rows : w'.cell? ⟨t, 2, none⟩ = some (.slice (some ⟨t + 1, 0, none⟩) kk kk)
  tab : isTab w' t
  cells : ∀ j, j < kk → (w'.cell? ⟨t + 1, j, none⟩).isSome = true ∧ w'.frozen? ⟨t + 1, j, none⟩ = false

theorem fill_start (wr : World) (kk : Nat) (Z c : Array Value) (hc : c[2]? = some (.slice (some ⟨wr.heap.size + 1, 0, none⟩) kk kk)) (hZ : Z.size = kk) : Fill wr ((wr.alloc (.cells c 48)).alloc (.cells Z 50)) wr.heap.size kk := by
  refine ⟨((Below.refl wr.heap.size wr).alloc (Nat.le_refl _) _).alloc (by simp) _, by simp, ?_, ?_, ?_⟩
  · rw [World.cell?_alloc_past _ _ _ (by simp), World.cell?_alloc_at _ _ _ _ rfl]; exact hc
  · refine ⟨c, ?_⟩
    rw [Below.heap_alloc _ _ _ (by simp)]
    exact heap_alloc_new _ _
  · intro j hj
    rw [World.cell?_alloc_at _ _ _ _ (by simp), World.frozen?_alloc_at _ _ _ _ (by simp)]
    exact ⟨by rw [Array.getElem?_eq_getElem (by omega)]; rfl, rfl⟩

theorem fill_step {wr w' : World} {t kk : Nat} (h : Fill wr w' t kk) (o : Obj) (j : Nat) (v : Value) : Fill wr ((w'.setCell ⟨t + 1, j, none⟩ v).alloc o) t kk := by
  have hs := h.size
  have hz : (w'.setCell ⟨t + 1, j, none⟩ v).heap.size = w'.heap.size := by simp [World.setCell]
  refine ⟨(h.below.setCell (by show t ≤ t + 1; omega) _).alloc (by omega) _, by simp [World.setCell]; omega, ?_, ?_, ?_⟩
  · rw [World.cell?_alloc_past _ _ _ (by omega), World.cell?_setCell_other _ _ _ _ (fun e => by have := congrArg Addr.block e; dsimp only at this; omega)]; exact h.rows
  · exact (h.tab.setCell _ _).of (Below.heap_alloc _ _ _ (by omega))
  · intro i hi
    have c := h.cells i hi
    rw [World.frozen?_alloc_past _ _ _ (by omega), World.cell?_alloc_past _ _ _ (by omega)]
    simp only [World.frozen?_setCell]
    refine ⟨?_, c.2⟩
    by_cases hij : i = j
    · subst hij
      rw [World.cell?_setCell_same' _ _ _ c.1]; rfl
    · rw [World.cell?_setCell_other _ _ _ _ (fun e => by have := congrArg Addr.off e; dsimp only at this; omega)]; exact c.1

theorem hgu_odd (w : World) (o1 o2 : Obj) : ((w.alloc o1).alloc o2).heap[w.heap.size]? = some o1 := by
  rw [Below.heap_alloc _ _ _ (by simp)]
  exact heap_alloc_new _ _

theorem belowA (w : World) (o1 o2 : Obj) : Below w.heap.size w ((w.alloc o1).alloc o2).drew := (((Below.refl w.heap.size w).alloc (Nat.le_refl _) _).alloc (by simp) _).drew
theorem belowC (w : World) (o1 o2 o3 o4 : Obj) : Below w.heap.size w ((((w.alloc o1).alloc o2).alloc o3).alloc o4).drew :=
  (((((Below.refl w.heap.size w).alloc (Nat.le_refl _) _).alloc (by simp) _).alloc (by simp; omega) _).alloc (by simp; omega) _).drew
theorem heapB (w : World) (o1 o2 o3 : Obj) : (((w.alloc o1).alloc o2).alloc o3).drew.heap[w.heap.size + 1]? = some o2 := by
  show (((w.alloc o1).alloc o2).alloc o3).heap[w.heap.size + 1]? = some o2
  rw [Below.heap_alloc _ _ _ (by simp)]
  exact heap2 w o1 o2
theorem heapC (w : World) (o1 o2 o3 o4 : Obj) : ((((w.alloc o1).alloc o2).alloc o3).alloc o4).drew.heap[w.heap.size + 1]? = some o2 := by
  show ((((w.alloc o1).alloc o2).alloc o3).alloc o4).heap[w.heap.size + 1]? = some o2
  rw [Below.heap_alloc _ _ _ (by simp)]
  exact heapB w o1 o2 o3

theorem st_start (wo : World) (tb : Nat → Nat) : St wo (wo.alloc (.cells #[.pointer none, .int .i64 0, .int .i64 0, .int .i64 0, .slice none 0 0, .slice none 0 0, .int .i64 0, .slice none 0 0, .slice none 0 0, .slice none 0 0, .slice none 0 0, .slice none 0 0, .int .i64 0, .map none, .slice none 0 0] 67)) wo.heap.size tb [] (.slice none 0 0) xc0 := by
  have C : ∀ j, (wo.alloc (.cells #[.pointer none, .int .i64 0, .int .i64 0, .int .i64 0, .slice none 0 0, .slice none 0 0, .int .i64 0, .slice none 0 0, .slice none 0 0, .slice none 0 0, .slice none 0 0, .slice none 0 0, .int .i64 0, .map none, .slice none 0 0] 67)).cell? ⟨wo.heap.size, j, none⟩ = _ := fun j => World.cell?_alloc_at _ _ _ _ rfl
  have F : ∀ j, (wo.alloc (.cells #[.pointer none, .int .i64 0, .int .i64 0, .int .i64 0, .slice none 0 0, .slice none 0 0, .int .i64 0, .slice none 0 0, .slice none 0 0, .slice none 0 0, .slice none 0 0, .slice none 0 0, .int .i64 0, .map none, .slice none 0 0] 67)).frozen? ⟨wo.heap.size, j, none⟩ = false := fun j => World.frozen?_alloc_at _ _ _ _ rfl
  refine ⟨(Below.refl _ _).alloc (Nat.le_refl _) _, by simp, ?_, ?_, fun e he => by cases he⟩
  · intro j _ hj
    refine ⟨?_, F j⟩
    rw [C j]
    unfold xc0
    rw [Array.getD_eq_getD_getElem?, Array.getElem?_eq_getElem (by simpa using hj)]
    rfl
  · refine ⟨[], [], .slice none 0 0, .slice none 0 0, [], (C 4).trans rfl, (C 5).trans rfl, (C 6).trans rfl, F 4, F 5, F 6, ⟨rfl, rfl, by simp⟩, rfl, ?_⟩
    refine ⟨?_, ?_⟩
    · intro r hr
      simp only [chunks, List.zipWith_nil_left, List.nil_append, List.mem_cons, List.not_mem_nil, or_false] at hr
      rcases hr with rfl | rfl | rfl <;> exact World.ownsRow_nil _ _ _ _
    · simp [chunks, Rec.apart, Value.ownBlock, lrec]

set_option maxRecDepth 100000 in
set_option maxHeartbeats 1000000 in
theorem walk_main (r0 r1 r2 pad outer pick : Int) (alone : Bool) (ad : Option Addr) (len cap : Nat) (w : World) (hlen : len ≤ 65536)
    (b0 : 0 ≤ r0 ∧ r0 ≤ 255) (b1 : 0 ≤ r1 ∧ r1 ≤ 255) (b2 : 0 ≤ r2 ∧ r2 ≤ 255) (np : Nat) (bp0 : 0 ≤ pad) (bp1 : pad ≤ 65535) (hnp : pad % 2100 = np) (sT sA sK : Nat → Int) (bq0 : 0 ≤ pick) (bq1 : pick ≤ 255)
    (hs : ∀ k, k < len → ∃ sb so, ad = some ⟨sb, so, none⟩ ∧ sb < w.heap.size ∧ w.cell? ⟨sb, so + k * 3, none⟩ = some (.int .u8 (sT k)) ∧ w.cell? ⟨sb, so + k * 3 + 1, none⟩ = some (.int .i64 (sA k)) ∧
      w.cell? ⟨sb, so + k * 3 + 2, none⟩ = some (.int .u8 (sK k)) ∧ 0 ≤ sT k ∧ sT k ≤ 255 ∧ 0 ≤ sK k ∧ sK k ≤ 255) :
    Calls Yba.prog 5 #[.int .u8 r0, .int .u8 r1, .int .u8 r2, .int .u16 pad, .slice ad len cap, .int .i64 outer, .int .u8 pick, .bool alone] w fun e w' => e = .returned (.bool true) ∧ Below w.heap.size w w' := by
  have h1 : (len : Int) ≤ 65536 := by omega
  obtain ⟨cn, hc0, hc1, hc2, hcn⟩ : ∃ cn : Nat → Int, Hid (cn 0 = r0) ∧ Hid (cn 1 = r1) ∧ Hid (cn 2 = r2) ∧ ∀ j, 0 ≤ cn j ∧ cn j ≤ 255 :=
    ⟨fun j => if j = 0 then r0 else if j = 1 then r1 else r2, rfl, rfl, rfl, fun j => by
      by_cases h0 : j = 0
      · simp [h0]; exact b0
      · by_cases h1 : j = 1
        · simp [h1]; exact b1
        · simp [h0, h1]; exact b2⟩
  go_enter Yba.func5, Yba.ntmps5
  go_wp2
  go_loopg [20] 3 (fun g i wr => ∃ k : Nat, k + g = 3 ∧ i = .int .i64 k ∧ ∃ tb ln, Tabs w wr w.heap.size cn tb ln k)
  case atStart => exact ⟨0, by omega, rfl, id, id, tabs_start w r0 r1 r2 cn hc0.out hc1.out hc2.out _ _⟩
  case round =>
    obtain ⟨wo, hwo⟩ : ∃ wo, wo = wr := ⟨wr, rfl⟩
    subst hwo
    obtain ⟨go, hgo⟩ : ∃ go, go = gk := ⟨gk, rfl⟩
    subst hgo
    obtain ⟨k, hk, rfl, tb, ln, T⟩ := hrel
    by_cases hlt : k < 3
    · have hcell := T.cnt k hlt
      have hb := hcn k
      obtain ⟨kk, hkk⟩ : ∃ kk : Nat, cn k % 8 = (kk : Int) := ⟨(cn k % 8).toNat, by omega⟩
      have hkk7 : kk ≤ 7 := by omega
      obtain ⟨Z, hZ, hmk⟩ := mkRows kk hkk7
      have HZ : Hid (Z.size = kk) := hZ
      clear hZ
      have hBs := T.size
      have hB0 : w.heap.size < wo.heap.size := by omega
      have hB0' : w.heap.size < wo.heap.size + 1 := by omega
      have hB1 : w.heap.size + 1 < wo.heap.size := by omega
      have hB2 : w.heap.size + 1 + 1 < wo.heap.size := by omega
      have hki : (k : Int) < 3 := by omega
      go_wp2
      clear hkk
      go_loopg [23] kk (fun g jv w' => ∃ j : Nat, j + g = kk ∧ jv = .int .i64 j ∧ Fill wo w' wo.heap.size kk)
      case atStart => exact ⟨0, by omega, rfl, fill_start wo kk Z _ rfl HZ.out⟩
      case round =>
        obtain ⟨j, hj, rfl, F⟩ := hrel
        have hFs := F.size
        have hFr := F.rows
        have hF0 : wo.heap.size < wr.heap.size := by omega
        have hF1 : wo.heap.size + 1 < wr.heap.size := by omega
        by_cases hjl : j < kk
        · have hFc := F.cells j hjl
          obtain ⟨hFc1, hFc2⟩ := hFc
          obtain ⟨fv, hfv⟩ := Option.isSome_iff_exists.1 hFc1
          clear hFc1
          have hji : (j : Int) < (kk : Int) := by omega
          go_wp2
          go_roundg (kk - (j + 1))
          case rel => exact ⟨j + 1, by omega, by go_num, fill_step F _ _ _⟩
          case measure => omega
        · have hji : ¬ (j : Int) < (kk : Int) := by omega
          obtain ⟨⟨t1, ht1⟩, ft1⟩ := T.tabs k hlt
          obtain ⟨⟨l1, hl1⟩, fl1⟩ := T.lens k hlt
          have Ft1 := (F.below.cell (p := ⟨w.heap.size + 1, k, none⟩) hB1).trans ht1
          have Fl1 := (F.below.cell (p := ⟨w.heap.size + 1 + 1, k, none⟩) hB2).trans hl1
          have Ff1 := (F.below.frozen (p := ⟨w.heap.size + 1, k, none⟩) hB1).trans ft1
          have Fg1 := (F.below.frozen (p := ⟨w.heap.size + 1 + 1, k, none⟩) hB2).trans fl1
          clear ht1 hl1 ft1 fl1
          go_wp2
          go_roundg (3 - (k + 1))
          case rel =>
            obtain ⟨tb', ln', T'⟩ := tabs_step T hlt rfl F.below (by omega) F.rows F.tab hkk7
            exact ⟨k + 1, by omega, by go_num, tb', ln', T'⟩
          case measure => omega
    · have hki : ¬ (k : Int) < 3 := by omega
      obtain rfl : k = 3 := by omega
      go_wp2
      have hnpb : np < 2100 := by omega
      clear hnp
      have hBs := T.size
      have hB1 : w.heap.size + 1 < wo.heap.size := by omega
      have hB2 : w.heap.size + 1 + 1 < wo.heap.size := by omega
      obtain ⟨i0, hi70, hz0, hz1, hz2⟩ := info_parts info70
      go_loopg [25, 27] np (fun g vlog i wr => ∃ k : Nat, k + g = np ∧ i = .int .i64 k ∧ ∃ es, es.length = k ∧ St wo wr wo.heap.size tb es vlog xc0)
      case atStart => exact ⟨0, by omega, rfl, [], rfl, st_start wo tb⟩
      case round =>
        obtain ⟨k, hk, rfl, es, hes, S⟩ := hrel
        have hSs := S.size
        have hP := fun j (hj : j < 3) => (S.below.cell (p := ⟨w.heap.size + 1, j, none⟩) hB1).trans (T.done j hj).ptr
        have hpB : w.heap.size + 1 < wr.heap.size := by omega
        by_cases hkl : k < np
        · have hki : (k : Int) < (np : Int) := by omega
          obtain ⟨m3, hm3, hm3'⟩ : ∃ m3 : Nat, (k : Int) % 3 = (m3 : Int) ∧ m3 < 3 := ⟨k % 3, by omega, by omega⟩
          have hp := hP m3 hm3'
          have HES : Hid (es.length = k) := hes
          have hesb : es.length ≤ 2100 := by omega
          clear hes hP
          by_cases hodd : (k : Int) % 2 = 1
          · have hodd' : ((k : Int) % 2 == 1) = true := by simp [hodd]
            go_wp2
            go_region_with (go_at_call 10; refine (push_u S (by omega) (((Below.refl wr.heap.size wr).alloc (Nat.le_refl _) _).alloc (by simp) _) _ _ _ _ _ _ (hgu_odd wr _ _) (Nat.le_refl _)).mono ?_; rintro r w2 ⟨rfl, hi, hk', u0, u1, u2, u3, ho, hgl, hbl2⟩)
            all_goals go_wp2_with (at_builtin; refine wpList_append_lies _ rfl _ _ _ rfl (wo.heap.size + 1) 70 i0 (.agg #[.pointer none, .int .i64 0, .slice none 0 0, .pointer none]) 4 48 Yba.underlying53 hi70 hz0 hz1 hz2 rfl (by decide) _ es.length (flat es) rfl (ho.alloc _) ⟨w2.heap.size, 0, none⟩ 1 1 [_, _, _, _] rfl rfl (World.news_of_block (heap_alloc_new w2 _)) (oneCells ⟨_, _, _, _, _, _⟩) (by decide) (by unfold maxLen; omega) (by omega) (by simp; omega) (w2.heap.size + 1) (by simp) ?_; intro g cap w3 hown hgrow hat hlt)
            go_roundg (np - (k + 1))
            case rel => exact ⟨k + 1, by omega, by go_num, _, by simp [HES.out], S.next (((Below.refl wr.heap.size wr).alloc (Nat.le_refl _) _).alloc (by simp) _) hi hk' ((Below.refl _ _).alloc (Nat.le_refl _) _) hgrow rfl hown (at_le hat (by omega)) ⟨.inr ⟨_, rfl, rfl, rfl⟩, m3, hm3', rfl⟩⟩
            case measure => omega
          · have hodd' : ((k : Int) % 2 == 1) = false := by simp [hodd]
            go_wp2
            go_region_with (go_at_call 10; refine (push_u S (by omega) ((Below.refl wr.heap.size wr).alloc (Nat.le_refl _) _) _ _ _ _ _ _ (heap_alloc_new wr _) (Nat.le_refl _)).mono ?_; rintro r w2 ⟨rfl, hi, hk', u0, u1, u2, u3, ho, hgl, hbl2⟩)
            all_goals go_wp2_with (at_builtin; refine wpList_append_lies _ rfl _ _ _ rfl (wo.heap.size + 1) 70 i0 (.agg #[.pointer none, .int .i64 0, .slice none 0 0, .pointer none]) 4 48 Yba.underlying53 hi70 hz0 hz1 hz2 rfl (by decide) _ es.length (flat es) rfl (ho.alloc _) ⟨w2.heap.size, 0, none⟩ 1 1 [_, _, _, _] rfl rfl (World.news_of_block (heap_alloc_new w2 _)) (oneCells ⟨_, _, _, _, _, _⟩) (by decide) (by unfold maxLen; omega) (by omega) (by simp; omega) (w2.heap.size + 1) (by simp) ?_; intro g cap w3 hown hgrow hat hlt)
            go_roundg (np - (k + 1))
            case rel => exact ⟨k + 1, by omega, by go_num, _, by simp [HES.out], S.next ((Below.refl wr.heap.size wr).alloc (Nat.le_refl _) _) hi hk' ((Below.refl _ _).alloc (Nat.le_refl _) _) hgrow rfl hown (at_le hat (by omega)) ⟨.inl ⟨rfl, rfl, rfl⟩, m3, hm3', rfl⟩⟩
            case measure => omega
        · have hki : ¬ (k : Int) < (np : Int) := by omega
          have hkn : es.length = np := by omega
          clear hes hP
          have S0 := S
          clear S
          go_wp2
          go_loopg [25, 116] len (fun g vlog i wr => ∃ k : Nat, k + g = len ∧ i = .int .i64 k ∧ ∃ es, es.length = np + k ∧ St wo wr wo.heap.size tb es vlog xc0)
          case atStart => exact ⟨0, by omega, rfl, es, by omega, S0⟩
          case round =>
            clear S0 hkn
            obtain ⟨q, hq, rfl, es, hes, S⟩ := hrel
            have hSs := S.size
            have hpB : w.heap.size + 1 < wr.heap.size := by omega
            by_cases hkl : q < len
            · have hki : (q : Int) < (len : Int) := by omega
              obtain ⟨sb, so, rfl, hsb, s0, s1, s2, bT0, bT1, bK0, bK1⟩ := hs q hkl
              have hsb' : sb < wr.heap.size := by omega
              have s0' := (S.below.cell (p := ⟨sb, so + q * 3, none⟩) (by show sb < wo.heap.size; omega)).trans ((T.below.cell (p := ⟨sb, so + q * 3, none⟩) hsb).trans s0)
              have s1' := (S.below.cell (p := ⟨sb, so + q * 3 + 1, none⟩) (by show sb < wo.heap.size; omega)).trans ((T.below.cell (p := ⟨sb, so + q * 3 + 1, none⟩) hsb).trans s1)
              have s2' := (S.below.cell (p := ⟨sb, so + q * 3 + 2, none⟩) (by show sb < wo.heap.size; omega)).trans ((T.below.cell (p := ⟨sb, so + q * 3 + 2, none⟩) hsb).trans s2)
              obtain ⟨m3, hm3, hm3'⟩ : ∃ m3 : Nat, sT q % 3 = (m3 : Int) ∧ m3 < 3 := ⟨(sT q % 3).toNat, by omega, by omega⟩
              have hp := (S.below.cell (p := ⟨w.heap.size + 1, m3, none⟩) hB1).trans (T.done m3 hm3').ptr
              have HES : Hid (es.length = np + q) := hes
              have hesb : es.length ≤ 70000 := by omega
              have hm3i : (m3 : Int) < 3 := by omega
              have hm3z : (0 : Int) ≤ (m3 : Int) := by omega
              have hm3t : (sT q).tmod 3 = (m3 : Int) := by rw [Int.tmod_eq_emod_of_nonneg bT0]; exact hm3
              have hm3w : IntKind.i64.wrap (m3 : Int) = (m3 : Int) := by rw [IntKind.wrap_i64]; omega
              clear hes s0 s1 s2
              go_wp2
              go_region_held (fun w' => w'.cell? ⟨wr.heap.size, 0, none⟩ = some (.int .u8 (sT q)) ∧ w'.cell? ⟨wr.heap.size, 1, none⟩ = some (.int .i64 (sA q)) ∧ w'.cell? ⟨w.heap.size + 1, m3, none⟩ = some (.pointer (some ⟨tb m3, 0, none⟩))) (go_keep) (fail)
              clear hm3t hm3w
              rcases (show sK q % 3 = 0 ∨ sK q % 3 = 1 ∨ sK q % 3 = 2 by omega) with hK | hK | hK
              · have hK1 : (sK q % 3 == 1) = false := by rw [hK]; rfl
                have hK2 : (sK q % 3 == 2) = false := by rw [hK]; rfl
                clear hK
                go_wp2
                go_region_with (go_at_call 10; refine (push_u S (by omega) (belowA wr _ _) _ _ _ _ _ _ (heap2 wr _ _) (Nat.le_succ _)).mono ?_; rintro r w2 ⟨rfl, hi, hk', u0, u1, u2, u3, ho, hgl, hbl2⟩)
                all_goals go_wp2_with (at_builtin; refine wpList_append_lies _ rfl _ _ _ rfl (wo.heap.size + 1) 70 i0 (.agg #[.pointer none, .int .i64 0, .slice none 0 0, .pointer none]) 4 48 Yba.underlying53 hi70 hz0 hz1 hz2 rfl (by decide) _ es.length (flat es) rfl (ho.alloc _) ⟨w2.heap.size, 0, none⟩ 1 1 [_, _, _, _] rfl rfl (World.news_of_block (heap_alloc_new w2 _)) (oneCells ⟨_, _, _, _, _, _⟩) (by decide) (by unfold maxLen; omega) (by omega) (by simp; omega) (w2.heap.size + 1) (by simp) ?_; intro g cap w3 hown hgrow hat hlt)
                go_roundg (len - (q + 1))
                case rel => exact ⟨q + 1, by omega, by go_num, _, by simp [HES.out]; omega, S.next (belowA wr _ _) hi hk' ((Below.refl _ _).alloc (Nat.le_refl _) _) hgrow rfl hown (at_le hat (by omega)) ⟨.inl ⟨rfl, rfl, rfl⟩, m3, hm3', rfl⟩⟩
                case measure => omega
              · have hK1 : (sK q % 3 == 1) = true := by rw [hK]; rfl
                clear hK
                go_wp2
                go_region_with (go_at_call 10; refine (push_u S (by omega) (below3 wr _ _ _) _ _ _ _ _ _ (heapB wr _ _ _) (Nat.le_succ _)).mono ?_; rintro r w2 ⟨rfl, hi, hk', u0, u1, u2, u3, ho, hgl, hbl2⟩)
                all_goals go_wp2_with (at_builtin; refine wpList_append_lies _ rfl _ _ _ rfl (wo.heap.size + 1) 70 i0 (.agg #[.pointer none, .int .i64 0, .slice none 0 0, .pointer none]) 4 48 Yba.underlying53 hi70 hz0 hz1 hz2 rfl (by decide) _ es.length (flat es) rfl (ho.alloc _) ⟨w2.heap.size, 0, none⟩ 1 1 [_, _, _, _] rfl rfl (World.news_of_block (heap_alloc_new w2 _)) (oneCells ⟨_, _, _, _, _, _⟩) (by decide) (by unfold maxLen; omega) (by omega) (by simp; omega) (w2.heap.size + 1) (by simp) ?_; intro g cap w3 hown hgrow hat hlt)
                go_roundg (len - (q + 1))
                case rel => exact ⟨q + 1, by omega, by go_num, _, by simp [HES.out]; omega, S.next (below3 wr _ _ _) hi hk' ((Below.refl _ _).alloc (Nat.le_refl _) _) hgrow rfl hown (at_le hat (by omega)) ⟨.inr ⟨_, rfl, rfl, rfl⟩, m3, hm3', rfl⟩⟩
                case measure => omega
              · have hK1 : (sK q % 3 == 1) = false := by rw [hK]; rfl
                have hK2 : (sK q % 3 == 2) = true := by rw [hK]; rfl
                clear hK
                go_wp2
                go_region_with (go_at_call 10; refine (push_u S (by omega) (belowC wr _ _ _ _) _ _ _ _ _ _ (heapC wr _ _ _ _) (Nat.le_succ _)).mono ?_; rintro r w2 ⟨rfl, hi, hk', u0, u1, u2, u3, ho, hgl, hbl2⟩)
                all_goals go_wp2_with (at_builtin; refine wpList_append_lies _ rfl _ _ _ rfl (wo.heap.size + 1) 70 i0 (.agg #[.pointer none, .int .i64 0, .slice none 0 0, .pointer none]) 4 48 Yba.underlying53 hi70 hz0 hz1 hz2 rfl (by decide) _ es.length (flat es) rfl (ho.alloc _) ⟨w2.heap.size, 0, none⟩ 1 1 [_, _, _, _] rfl rfl (World.news_of_block (heap_alloc_new w2 _)) (oneCells ⟨_, _, _, _, _, _⟩) (by decide) (by unfold maxLen; omega) (by omega) (by simp; omega) (w2.heap.size + 1) (by simp) ?_; intro g cap w3 hown hgrow hat hlt)
                go_roundg (len - (q + 1))
                case rel => exact ⟨q + 1, by omega, by go_num, _, by simp [HES.out]; omega, S.next (belowC wr _ _ _ _) hi hk' ((Below.refl _ _).alloc (Nat.le_refl _) _) hgrow rfl hown (at_le hat (by omega)) ⟨.inl ⟨rfl, rfl, rfl⟩, m3, hm3', rfl⟩⟩
                case measure => omega
            · have hki : ¬ (q : Int) < (len : Int) := by omega
              have hnb : es.length ≤ 70000 := by omega
              clear hes
              obtain ⟨la, lcap, rfl⟩ := slice_form S.log
              go_upto_if 117 with fail
              go_step
              go_step
              go_step
              go_step
              exact tail1 _ _ _ _ _ _ _ _ _ _ _ _ _ _ _ _ _ _ _ _ _ _ _ _ _ _ _ _ _ _ _ _ _ _ _ _ _ _ _ _ _ _ _ _ _ _ _ _ _ _ _ _ _ _ _ _ _ _ _ _ _ _ _ _ _ _ _ _ _ _ _ _ _ _ _ _ _ _ _ _ _ _ _ _ _ _ _ _ _ _ _ _ _ _ _ _ _ _ _ _ _ _ _ _ _ _ _ _ _ _ _ _ _ _ _ _ _ _ _ _ _ _ _ _ _ _ _ _ _ _ _ _ _ _ _ _ _ _ _ _ _ _ _ _ _ _ _ _ _ _ _ _ _ _ _ _ _ _ _ _ _ _ _ _ _ _ _ _ _ _ _ _ _ _ _ _ _ _ _ _ _ _ _ _ _ _ _ _ _ _ _ _ _ _ _ _ _ _ _ _ _ _ _ _ _ _ _ _ _ _ _ _ _ _ _ _ _ _ _ _ _ _ _ _ _ _ _ _ _ _ _ _ _ _ _ _ _ _ _ _ _ _ _ _ _ _ _ _ _ _ _ _ _ _ _ _ _ _ _ _ _ _ _ _ _ _ _ _ _ _ _ _ _ _ _ _ _ _ _ _ _ _ _ _ _ _ _ _ _ _ _ _ _ _ _ _ _ _ _ _ _ _ _ _ _ _ _ _ _ _ _ _ _ _ _ _ _ _ _ w.heap.size wo.heap.size lcap outer pick alone la es w wo wr cn tb ln S T rfl hnb bq0 bq1

end Go.Proofs.Ybulkdtxo.C
