/-
  'LawS6036ASignals' (f4) returns true, and turns nothing that was there.
-/
import Derived.Test.YbulkdtzeSigTail
namespace Go.Proofs.Ybulkdtze.S
open Go.RowKit Go.Conc Go.Maps

theorem info44 : ∃ i, Yba.prog.info? 44 = some i ∧ i.bytes = 0 := by
  have h : (Yba.prog.info? 44).map (·.bytes) = some 0 := by kernel_rfl
  cases hi : Yba.prog.info? 44 with
  | none => rw [hi] at h; cases h
  | some i => exact ⟨i, rfl, by rw [hi] at h; simpa using h⟩

theorem mkn (kk : Nat) (hk : kk ≤ 255) (W : World) : (Instr.makeChan 28 (.int .i64 (kk : Int))).run Yba.prog W = .ok (.chan (some W.heap.size)) (W.alloc (.chan kk #[] false 0 0 false)) := by
  obtain ⟨i, hi, hb⟩ := info44
  exact run_makeChan Yba.underlying28 hi .i64 kk (by omega) (by rw [hb]; omega)

set_option maxRecDepth 1000000 in
set_option maxHeartbeats 4000000 in
theorem signals_any (a : Option Addr) (len cap kk : Nat) (z : Nat → Int) (id pick : Int) (via : Bool) (w : World) (hs : IsKeys w a len z) (hlen : len ≤ 1048576) (wid : (Lit.int .u64 id).wf = true) (b0 : 0 ≤ pick) (b1 : pick ≤ 255) (hkk : kk ≤ 255) :
    Calls Yba.prog 4 #[.slice a len cap, .int .u64 id, .int .u8 pick, .bool via, .int .u8 kk] w fun e w' => e = .returned (.bool true) ∧ Below w.heap.size w w' := by
  have hli : (len : Int) ≤ 1048576 := by omega
  have hki : (kk : Int) ≤ 255 := by omega
  have h5 := build_any a len cap z id pick w hs hlen wid b0 b1
  have hk0 := mk0
  have hkn := mkn kk hkk
  have hc1 := close_stop
  have hc2 := close_ctx
  refine callsN Yba.func4 rfl ?_
  simp only [Yba.ntmps4, List.size_toArray, List.length_cons, List.length_nil, Nat.reduceAdd, Nat.reduceSub, Array.replicate_succ, Array.replicate_zero, List.push_toArray, List.append_toArray, List.nil_append, List.cons_append]
  refine wpN_seq_k fun K hK => ?_
  go_wp2
  refine wpN_seq_k fun K hK => ?_
  go_wp2
  refine wpN_seq_k fun K hK => ?_
  go_wp2_with (go_at_call 5; refine h5.mono ?_; rintro e w1 ⟨id', D, rfl, wid', hown, hH, hbel⟩; have hln := World.ownsMap.len hown Yba.underlying24 3)
  refine wpN_seq_k fun K hK => ?_
  go_wp2
  refine wpN_seq_k fun K hK => ?_
  go_wp2
  refine wpN_seq_k fun K hK => ?_
  go_wp2
  have hsz := hbel.size
  cases via
  · refine wpN_seq_k fun K hK => ?_
    go_wp2
    have hAP := stop_made hown
    have hbX := below_stop hbel hsz w.heap.size
    have hlX : w.heap.size ≤ (stopW w1 w.heap.size).heap.size := hbX.size
    clear hln hc1 hc2 hk0 h5 hown
    generalize stopW w1 w.heap.size = X at hAP hbX hlX ⊢
    have hA0 := hAP.signals kk
    have hbS : Below w.heap.size w (X.alloc (.chan kk #[] false 0 0 false)) := hbX.alloc hlX _
    refine wpN_seq_k fun K hK => ?_
    go_wp2
    exact sig_tail _ _ _ _ _ _ _ _ _ _ _ _ _ _ _ _ _ _ _ _ _ _ _ _ _ _ _ _ _ _ _ _ _ _ _ _ _ _ _ _ _ _ _ _ _ _ _ _ _ _ _ _ _ _ _ _ _ _ _ _ _ _ _ _ _ _ _ _ _ _ _ _ _ _ _ _ _ _ _ _ _ _ _ _ _ _ _ _ _ _ _ _ _ _ _ _ _ _ _ _ _ _ _ _ _ _ _ _ _  a len cap kk z id' _ _ _ _ _ _ D w _ hkk hbS ⟨by omega, by omega, hlX⟩ hs hlen wid' hH hA0 (heap_at _ _ _ rfl)
  · refine wpN_seq_k fun K hK => ?_
    go_wp2
    have hAP := ctx_made hown
    have hbX := below_ctx hbel hsz w.heap.size
    have hlX : w.heap.size ≤ (ctxW w1 w.heap.size).heap.size := hbX.size
    clear hln hc1 hc2 hk0 h5 hown
    generalize ctxW w1 w.heap.size = X at hAP hbX hlX ⊢
    have hA0 := hAP.signals kk
    have hbS : Below w.heap.size w (X.alloc (.chan kk #[] false 0 0 false)) := hbX.alloc hlX _
    refine wpN_seq_k fun K hK => ?_
    go_wp2
    exact sig_tail _ _ _ _ _ _ _ _ _ _ _ _ _ _ _ _ _ _ _ _ _ _ _ _ _ _ _ _ _ _ _ _ _ _ _ _ _ _ _ _ _ _ _ _ _ _ _ _ _ _ _ _ _ _ _ _ _ _ _ _ _ _ _ _ _ _ _ _ _ _ _ _ _ _ _ _ _ _ _ _ _ _ _ _ _ _ _ _ _ _ _ _ _ _ _ _ _ _ _ _ _ _ _ _ _ _ _ _ _  a len cap kk z id' _ _ _ _ _ _ D w _ hkk hbS ⟨by omega, by omega, hlX⟩ hs hlen wid' hH hA0 (heap_at _ _ _ rfl)
end Go.Proofs.Ybulkdtze.S
