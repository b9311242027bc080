/-
  'LawS6036AWhole' (f3) returns true, and turns nothing that was there.
-/
import Derived.Test.YbulkdtzeMade
namespace Go.Proofs.Ybulkdtze.S
open Go.RowKit Go.Conc Go.Maps

set_option maxRecDepth 100000 in
set_option maxHeartbeats 2000000 in
theorem whole_any (a : Option Addr) (len cap : Nat) (z : Nat → Int) (id pick : Int) (via : Bool) (w : World) (hs : IsKeys w a len z) (hlen : len ≤ 1048576) (wid : (Lit.int .u64 id).wf = true) (b0 : 0 ≤ pick) (b1 : pick ≤ 255) :
    Calls Yba.prog 3 #[.slice a len cap, .int .u64 id, .int .u8 pick, .bool via] w fun e w' => e = .returned (.bool true) ∧ Below w.heap.size w w' := by
  have hli : (len : Int) ≤ 1048576 := by omega
  have h5 := build_any a len cap z id pick w hs hlen wid b0 b1
  have hk0 := mk0
  have hk1 := mk1
  have hc1 := close_stop
  have hc2 := close_ctx
  cases via
  · go_enter Yba.func3, Yba.ntmps3
    go_wp2_with (go_at_call 5; refine h5.mono ?_; rintro e w1 ⟨id', D, rfl, wid', hown, hH, hbel⟩; have hln := World.ownsMap.len hown Yba.underlying24 3)
    have hAP := stop_made hown
    have hsz := hbel.size
    have hbX := below_stop hbel hsz w.heap.size
    have hlX : w.heap.size ≤ (stopW w1 w.heap.size).heap.size := hbX.size
    clear hln hc1 hc2 hk0 hk1 h5 hown
    generalize stopW w1 w.heap.size = X at hAP hbX hlX ⊢
    have hA0 := hAP.signals 1
    have hbS : Below w.heap.size w (X.alloc (.chan 1 #[] false 0 0 false)) := hbX.alloc hlX _
    clear hAP hbX
    generalize X.alloc (.chan 1 #[] false 0 0 false) = Y at hA0 hbS ⊢
    refine (await_any w.heap.size _ _ _ _ _ _ _ _ 0 0 id' wid' Y hA0 ⟨by omega, by omega, hlX⟩ (by omega)).mono ?_
    rintro e w2 ⟨rfl, c2, m2, hA, hle, hno, hyes, hb2⟩
    have hm0 : m2 = 0 := by omega
    subst hm0
    have hb := hbS.trans hb2
    clear hb2 hbS hA0 hbel
    have hcc := hA.cc
    have hcar := hA.car
    obtain ⟨cap2, buf, sn, rn, hsg, hbz⟩ := hA.sig
    have hlc := run_len_chan (P := Yba.prog) 28 3 Yba.underlying28 hsg
    rw [hbz] at hlc
    have hs2 := hs.below hb
    have h7 := ck_any a len cap z w.heap.size len D w2 hs2 hlen hA.own hH
    have hnb := lt_of_cell hA.mu
    cases hp : Maps.has D (.int .u64 id')
    · obtain ⟨rfl, -⟩ := hno hp
      simp only []
      go_at_K
      go_wp2_with (go_at_call 7; refine h7.mono ?_; rintro e w3 ⟨rfl, hb3⟩; have hmu := (hb3.cell (p := ⟨w1.heap.size + 1, 18, none⟩) hnb).trans hA.mu; have hmz := (hb3.frozen (p := ⟨w1.heap.size + 1, 18, none⟩) hnb).trans hA.muz)
      have hb4 := hb.trans (hb3.mono hb.size)
      refine (try_free _ 18 w3 hmu hmz).mono ?_
      rintro e w4 ⟨rfl, rfl⟩
      simp only []
      go_at_K
      go_wp2_with (go_at_call 9; refine (MuLone.unlock_held Yba.muLib ⟨w1.heap.size + 1, 18, none⟩ _ (World.cell?_setCell_same _ _ _ hmu) ((World.frozen?_setCell _ _ _ _).trans hmz)).mono ?_; rintro e w5 ⟨rfl, rfl⟩)
      go_ret
      exact ⟨rfl, (hb4.setCell (by show w.heap.size ≤ w1.heap.size + 1; omega) _).setCell (by show w.heap.size ≤ w1.heap.size + 1; omega) _⟩
    · have hc1 : c2 = 1 := by have := hyes hp; omega
      subst hc1
      simp only []
      go_at_K
      go_wp2_with (go_at_call 7; refine h7.mono ?_; rintro e w3 ⟨rfl, hb3⟩; have hmu := (hb3.cell (p := ⟨w1.heap.size + 1, 18, none⟩) hnb).trans hA.mu; have hmz := (hb3.frozen (p := ⟨w1.heap.size + 1, 18, none⟩) hnb).trans hA.muz)
      have hb4 := hb.trans (hb3.mono hb.size)
      refine (try_free _ 18 w3 hmu hmz).mono ?_
      rintro e w4 ⟨rfl, rfl⟩
      simp only []
      go_at_K
      go_wp2_with (go_at_call 9; refine (MuLone.unlock_held Yba.muLib ⟨w1.heap.size + 1, 18, none⟩ _ (World.cell?_setCell_same _ _ _ hmu) ((World.frozen?_setCell _ _ _ _).trans hmz)).mono ?_; rintro e w5 ⟨rfl, rfl⟩)
      go_ret
      exact ⟨rfl, (hb4.setCell (by show w.heap.size ≤ w1.heap.size + 1; omega) _).setCell (by show w.heap.size ≤ w1.heap.size + 1; omega) _⟩
  · go_enter Yba.func3, Yba.ntmps3
    go_wp2_with (go_at_call 5; refine h5.mono ?_; rintro e w1 ⟨id', D, rfl, wid', hown, hH, hbel⟩; have hln := World.ownsMap.len hown Yba.underlying24 3)
    have hAP := ctx_made hown
    have hsz := hbel.size
    have hbX := below_ctx hbel hsz w.heap.size
    have hlX : w.heap.size ≤ (ctxW w1 w.heap.size).heap.size := hbX.size
    clear hln hc1 hc2 hk0 hk1 h5 hown
    generalize ctxW w1 w.heap.size = X at hAP hbX hlX ⊢
    have hA0 := hAP.signals 1
    have hbS : Below w.heap.size w (X.alloc (.chan 1 #[] false 0 0 false)) := hbX.alloc hlX _
    clear hAP hbX
    generalize X.alloc (.chan 1 #[] false 0 0 false) = Y at hA0 hbS ⊢
    refine (await_any w.heap.size _ _ _ _ _ _ _ _ 0 0 id' wid' Y hA0 ⟨by omega, by omega, hlX⟩ (by omega)).mono ?_
    rintro e w2 ⟨rfl, c2, m2, hA, hle, hno, hyes, hb2⟩
    have hm0 : m2 = 0 := by omega
    subst hm0
    have hb := hbS.trans hb2
    clear hb2 hbS hA0 hbel
    have hcc := hA.cc
    have hcar := hA.car
    obtain ⟨cap2, buf, sn, rn, hsg, hbz⟩ := hA.sig
    have hlc := run_len_chan (P := Yba.prog) 28 3 Yba.underlying28 hsg
    rw [hbz] at hlc
    have hs2 := hs.below hb
    have h7 := ck_any a len cap z w.heap.size len D w2 hs2 hlen hA.own hH
    have hnb := lt_of_cell hA.mu
    cases hp : Maps.has D (.int .u64 id')
    · obtain ⟨rfl, -⟩ := hno hp
      simp only []
      go_at_K
      go_wp2_with (go_at_call 7; refine h7.mono ?_; rintro e w3 ⟨rfl, hb3⟩; have hmu := (hb3.cell (p := ⟨w1.heap.size + 1, 18, none⟩) hnb).trans hA.mu; have hmz := (hb3.frozen (p := ⟨w1.heap.size + 1, 18, none⟩) hnb).trans hA.muz)
      have hb4 := hb.trans (hb3.mono hb.size)
      refine (try_free _ 18 w3 hmu hmz).mono ?_
      rintro e w4 ⟨rfl, rfl⟩
      simp only []
      go_at_K
      go_wp2_with (go_at_call 9; refine (MuLone.unlock_held Yba.muLib ⟨w1.heap.size + 1, 18, none⟩ _ (World.cell?_setCell_same _ _ _ hmu) ((World.frozen?_setCell _ _ _ _).trans hmz)).mono ?_; rintro e w5 ⟨rfl, rfl⟩)
      go_ret
      exact ⟨rfl, (hb4.setCell (by show w.heap.size ≤ w1.heap.size + 1; omega) _).setCell (by show w.heap.size ≤ w1.heap.size + 1; omega) _⟩
    · have hc1 : c2 = 1 := by have := hyes hp; omega
      subst hc1
      simp only []
      go_at_K
      go_wp2_with (go_at_call 7; refine h7.mono ?_; rintro e w3 ⟨rfl, hb3⟩; have hmu := (hb3.cell (p := ⟨w1.heap.size + 1, 18, none⟩) hnb).trans hA.mu; have hmz := (hb3.frozen (p := ⟨w1.heap.size + 1, 18, none⟩) hnb).trans hA.muz)
      have hb4 := hb.trans (hb3.mono hb.size)
      refine (try_free _ 18 w3 hmu hmz).mono ?_
      rintro e w4 ⟨rfl, rfl⟩
      simp only []
      go_at_K
      go_wp2_with (go_at_call 9; refine (MuLone.unlock_held Yba.muLib ⟨w1.heap.size + 1, 18, none⟩ _ (World.cell?_setCell_same _ _ _ hmu) ((World.frozen?_setCell _ _ _ _).trans hmz)).mono ?_; rintro e w5 ⟨rfl, rfl⟩)
      go_ret
      exact ⟨rfl, (hb4.setCell (by show w.heap.size ≤ w1.heap.size + 1; omega) _).setCell (by show w.heap.size ≤ w1.heap.size + 1; omega) _⟩
end Go.Proofs.Ybulkdtze.S
