/-
  'LawS6036ASignals' (f4) from its loop of sends on: it returns true.
-/
import Derived.Test.YbulkdtzeSend
namespace Go.Proofs.Ybulkdtze.S
open Go.RowKit Go.Conc Go.Maps

def firstReg : Code → Option Nat
  | .region n _ _ => some n
  | .seq a _ => firstReg a
  | _ => none

/-- The rest of a body from the piece on that begins with region n. -/
def tailAt (n : Nat) : Code → Code
  | .seq a b => if firstReg a = some n then .seq a b else tailAt n b
  | c => c

set_option maxRecDepth 1000000 in
set_option maxHeartbeats 4000000 in
theorem sig_tail (u2 u3 u5 u6 u7 u8 u9 u11 u17 u18 u19 u20 u21 u22 u23 u24 u25 u26 u27 u28 u29 u30 u31 u32 u33 u34 u35 u36 u37 u38 u39 u40 u41 u42 u43 u44 u45 u46 u47 u48 u49 u50 u51 u52 u53 u54 u55 u56 u57 u58 u59 u60 u61 u62 u63 u64 u65 u66 u67 u68 u69 u70 u71 u72 u73 u74 u75 u76 u77 u78 u79 u80 u81 u82 u83 u84 u85 u86 u87 u88 u89 u90 u91 u92 u93 u94 u95 u96 u97 u98 u99 u100 u101 u102 u103 u104 u105 u106 u107 u108 u109 u110 u111 u112 u113 u114 u115 u116 u117 : Value) (a : Option Addr) (len cap kk : Nat) (z : Nat → Int) (id : Int) (nb cb s st mb : Nat) (d : Option Nat) (D : DataW Unit) (w0 w : World) (hkk : kk ≤ 255) (hbel : Below w0.heap.size w0 w) (hB : w0.heap.size ≤ nb ∧ w0.heap.size ≤ cb ∧ w0.heap.size ≤ s) (hs : IsKeys w0 a len z) (hlen : len ≤ 1048576)
    (wid : (Lit.int .u64 id).wf = true) (hH : Holds D z len) (hA : AS w nb cb s st mb len d D 0 0) (hc : w.heap[s]? = some (.chan kk #[] false 0 0 false)) :
    wpN Yba.prog (tailAt 12 (Yba.f4.body.getD .skip)) (bodyPost Yba.prog Yba.f4 fun e w' => e = .returned (.bool true) ∧ Below w0.heap.size w0 w') ⟨#[.slice a len cap, .int .u64 id, u2, u3, .int .u8 kk, u5, u6, u7, u8, u9, .bool false, u11, .bool (Maps.has D (.int .u64 id)), .int .i64 (Maps.size D), .pointer (some ⟨nb, 0, none⟩), .pointer (some ⟨cb, 0, none⟩), .chan (some s), u17, u18, u19, u20, u21, u22, u23, u24, u25, u26, u27, u28, u29, u30, u31, u32, u33, u34, u35, u36, u37, u38, u39, u40, u41, u42, u43, u44, u45, u46, u47, u48, u49, u50, u51, u52, u53, u54, u55, u56, u57, u58, u59, u60, u61, u62, u63, u64, u65, u66, u67, u68, u69, u70, u71, u72, u73, u74, u75, u76, u77, u78, u79, u80, u81, u82, u83, u84, u85, u86, u87, u88, u89, u90, u91, u92, u93, u94, u95, u96, u97, u98, u99, u100, u101, u102, u103, u104, u105, u106, u107, u108, u109, u110, u111, u112, u113, u114, u115, u116, u117], []⟩ w := by
  conv => arg 2; whnf
  have hki : (kk : Int) ≤ 255 := by omega
  refine wpN_seq ?_
  refine wpN_seq_k fun K hK => ?_
  go_wp2
  refine wpN_block ?_
  refine wpN_loop (fun n a' wr => ∃ y17 y54 y55 y56 y57 y58 y59 y60 y61 : Value, a' = ⟨#[.slice a len cap, .int .u64 id, u2, u3, .int .u8 kk, u5, u6, u7, u8, u9, .bool false, u11, .bool (Maps.has D (.int .u64 id)), .int .i64 (Maps.size D), .pointer (some ⟨nb, 0, none⟩), .pointer (some ⟨cb, 0, none⟩), .chan (some s), y17, u18, u19, u20, u21, u22, u23, u24, u25, u26, u27, u28, u29, u30, u31, u32, u33, u34, u35, u36, u37, u38, u39, u40, u41, u42, u43, u44, u45, u46, u47, u48, u49, u50, u51, u52, u53, y54, y55, y56, y57, y58, y59, y60, y61, u62, u63, u64, u65, u66, u67, u68, u69, u70, u71, u72, u73, u74, u75, u76, u77, u78, u79, u80, u81, u82, u83, u84, u85, u86, u87, u88, u89, u90, u91, u92, u93, u94, u95, u96, u97, u98, u99, u100, u101, u102, u103, u104, u105, u106, u107, u108, u109, u110, u111, u112, u113, u114, u115, u116, u117], []⟩ ∧ ∃ i : Nat, y17 = .int .i64 i ∧ n + i = kk ∧ AS wr nb cb s st mb len d D 0 i ∧ Below w0.heap.size w0 wr ∧ ∃ buf sn rn, wr.heap[s]? = some (.chan kk buf false sn rn false) ∧ buf.size = i) kk ?_ ?_
  · exact ⟨_, _, _, _, _, _, _, _, _, rfl, 0, rfl, rfl, hA, hbel, #[], 0, 0, hc, rfl⟩
  clear hA hbel hc
  rintro n a' wr ⟨y17, y54, y55, y56, y57, y58, y59, y60, y61, rfl, i, rfl, hni, hA, hbel, buf, sn, rn, hc, hbs⟩
  refine wpN_seq_k fun K hK => ?_
  by_cases hlt : i < kk
  · have hlti : (i : Int) < (kk : Int) := by omega
    go_wp2
    refine wpN_seq ?_
    refine wpN_block ?_
    refine wpN_region_send (v0 := .chan (some s)) (v1 := .agg #[]) (v := .agg #[]) (z := .tuple #[]) (c := s) (cap := kk) (s := sn) (r := rn) (buf := buf) rfl rfl rfl (by simp [go_sem, execOp, Act.eval]) (by simp [go_sem, execOp, Act.eval, Act.put]) (by simp [go_sem, execOp, scase, Act.eval, Act.put]) hc (by omega) ?_
    have hA2 := hA.put (v := .agg #[]) hc hbs
    have hb2 := S.below_setChan hbel hB.2.2 kk (buf.push (.agg #[])) false (sn + 1) rn false
    have hc2 := heap_setChan wr s kk (buf.push (.agg #[])) false (sn + 1) rn false (lt_of_some hc)
    clear hA hbel hc
    generalize wr.setChan s kk (buf.push (.agg #[])) false (sn + 1) rn false = w2 at hA2 hb2 hc2 ⊢
    refine wpN_of ?_
    go_wp2
    refine ⟨n - 1, by omega, .int .i64 ((i : Int) + 1), ⟨_, _, _, _, _, _, _, _, rfl⟩, i + 1, by simp, by omega, hA2, hb2, _, ⟨_, _, hc2⟩, by simp [hbs]⟩
  · have hlti : ¬ (i : Int) < (kk : Int) := by omega
    have hik : i = kk := by omega
    subst hik
    go_wp2
    refine wpN_of ?_
    cases hp : Maps.has D (.int .u64 id)
    · go_wp2_with (go_at_call 6; refine (await_any w0.heap.size nb cb s st mb len d D 0 i id wid wr hA hB (by omega)).mono ?_; rintro e w2 ⟨rfl, c2, m2, hA2, hle, hno, hyes, hb2⟩; obtain ⟨rfl, rfl⟩ := hno hp; have hcc := hA2.cc; have hcar := hA2.car; obtain ⟨cap2, buf2, sn2, rn2, hsg, hbz⟩ := hA2.sig; have hlc := run_len_chan (P := Yba.prog) 28 3 Yba.underlying28 hsg; rw [hbz] at hlc)
      have hb := hbel.trans hb2
      have hs2 := hs.below hb
      have hnb := lt_of_cell hA2.mu
      refine (ck_any a len cap z mb len D w2 hs2 hlen hA2.own hH).mono ?_
      rintro e w3 ⟨rfl, hb3⟩
      have hmu := (hb3.cell (p := ⟨nb, 18, none⟩) hnb).trans hA2.mu
      have hmz := (hb3.frozen (p := ⟨nb, 18, none⟩) hnb).trans hA2.muz
      have hb4 := hb.trans (hb3.mono hb.size)
      simp only []
      go_at_K
      go_wp2_with (go_at_call 8; refine (try_free nb 18 w3 hmu hmz).mono ?_; rintro e w4 ⟨rfl, rfl⟩)
      refine (MuLone.unlock_held Yba.muLib ⟨nb, 18, none⟩ _ (World.cell?_setCell_same _ _ _ hmu) ((World.frozen?_setCell _ _ _ _).trans hmz)).mono ?_
      rintro e w5 ⟨rfl, rfl⟩
      simp only []
      go_at_K
      go_wp2
      go_ret
      exact ⟨rfl, (hb4.setCell hB.1 _).setCell hB.1 _⟩
    · go_wp2_with (go_at_call 6; refine (await_any w0.heap.size nb cb s st mb len d D 0 i id wid wr hA hB (by omega)).mono ?_; rintro e w2 ⟨rfl, c2, m2, hA2, hle, hno, hyes, hb2⟩; have hy := hyes hp; have hyi : (c2 : Int) = 1 + (i : Int) - (m2 : Int) := (by omega); have hlei : (m2 : Int) ≤ (i : Int) := Int.ofNat_le.2 hle; have hm0 : (0 : Int) ≤ (m2 : Int) := Int.natCast_nonneg _; have hcc := hA2.cc; have hcar := hA2.car; obtain ⟨cap2, buf2, sn2, rn2, hsg, hbz⟩ := hA2.sig; have hlc := run_len_chan (P := Yba.prog) 28 3 Yba.underlying28 hsg; rw [hbz] at hlc)
      have hb := hbel.trans hb2
      have hs2 := hs.below hb
      have hnb := lt_of_cell hA2.mu
      refine (ck_any a len cap z mb len D w2 hs2 hlen hA2.own hH).mono ?_
      rintro e w3 ⟨rfl, hb3⟩
      have hmu := (hb3.cell (p := ⟨nb, 18, none⟩) hnb).trans hA2.mu
      have hmz := (hb3.frozen (p := ⟨nb, 18, none⟩) hnb).trans hA2.muz
      have hb4 := hb.trans (hb3.mono hb.size)
      simp only []
      go_at_K
      go_wp2_with (go_at_call 8; refine (try_free nb 18 w3 hmu hmz).mono ?_; rintro e w4 ⟨rfl, rfl⟩)
      refine (MuLone.unlock_held Yba.muLib ⟨nb, 18, none⟩ _ (World.cell?_setCell_same _ _ _ hmu) ((World.frozen?_setCell _ _ _ _).trans hmz)).mono ?_
      rintro e w5 ⟨rfl, rfl⟩
      simp only []
      go_at_K
      go_wp2
      go_ret
      exact ⟨rfl, (hb4.setCell hB.1 _).setCell hB.1 _⟩
end Go.Proofs.Ybulkdtze.S
