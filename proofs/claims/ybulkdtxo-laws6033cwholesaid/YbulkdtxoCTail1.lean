import Derived.Test.YbulkdtxoCTail2
import Derived.Test.YbulkdtxoCMid
import Derived.Deep.LoopGhost
import Derived.Deep.DeepCutAuto
namespace Go.Proofs.Ybulkdtxo.C
open Go.RowKit

theorem heapA (w : World) (o1 o2 : Obj) : ((w.alloc o1).alloc o2).heap[w.heap.size + 1]? = some o2 := heap2 w o1 o2

theorem u64_nonneg (n : Int) : 0 ≤ IntKind.u64.wrap n := by rw [IntKind.wrap_u64]; omega

/-- x's cells as it is made. -/
def xc0 : Nat → Value := fun j => (#[.pointer none, .int .i64 0, .int .i64 0, .int .i64 0, .slice none 0 0, .slice none 0 0, .int .i64 0, .slice none 0 0, .slice none 0 0, .slice none 0 0, .slice none 0 0, .slice none 0 0, .int .i64 0, .map none, .slice none 0 0] : Array Value).getD j (.slice none 0 0)

set_option maxRecDepth 1000000 in
set_option maxHeartbeats 4000000 in
theorem tail1 (u0 u1 u2 u3 u4 u8 u9 u10 u11 u12 u13 u14 u15 u16 u17 u20 u21 u22 u23 u26 u27 u28 u29 u30 u31 u32 u33 u34 u35 u36 u37 u38 u39 u40 u41 u42 u43 u44 u45 u46 u47 u48 u49 u50 u51 u52 u53 u54 u55 u56 u57 u58 u59 u60 u61 u62 u63 u64 u65 u66 u67 u68 u69 u70 u71 u72 u73 u74 u75 u76 u77 u78 u79 u80 u81 u82 u83 u84 u85 u86 u87 u88 u89 u90 u91 u92 u93 u94 u95 u96 u97 u98 u99 u100 u101 u102 u103 u104 u105 u106 u107 u108 u109 u110 u111 u112 u113 u114 u115 u116 u117 u118 u119 u120 u121 u122 u123 u124 u125 u126 u127 u128 u129 u130 u131 u132 u133 u134 u135 u136 u137 u138 u139 u140 u141 u142 u143 u144 u145 u146 u147 u148 u149 u150 u151 u152 u153 u154 u155 u156 u157 u158 u159 u160 u161 u162 u163 u164 u165 u166 u167 u168 u169 u170 u171 u172 u173 u174 u175 u176 u177 u178 u179 u180 u181 u182 u183 u184 u185 u186 u187 u188 u189 u190 u191 u192 u193 u194 u195 u196 u197 u198 u199 u200 u201 u202 u203 u204 u205 u206 u207 u208 u209 u210 u211 u212 u213 u214 u215 u216 u217 u218 u219 u220 u221 u222 u223 u224 u225 u226 u227 u228 u229 u230 u231 u232 u233 u234 u235 u236 u237 u238 u239 u240 u241 u242 u243 u244 u245 u246 u247 u248 u249 u250 u251 u252 u253 u254 u255 u256 u257 u258 u259 u260 u261 u262 u263 u264 u265 u266 u267 u268 u269 u270 u271 u272 u273 u274 u275 u276 u277 u278 u279 u280 u281 u282 u283 u284 u285 u286 u287 u288 u289 u290 u291 u292 u293 u294 u295 u296 u297 u298 u299 u300 u301 u302 u303 u304 u305 u306 u307 u308 u309 u310 u311 u312 u313 u314 u315 u316 u317 u318 u319 u320 u321 u322 u323 u324 u325 : Value) (B b lcap : Nat) (outer pick : Int) (alone : Bool) (la : Option Addr) (es : List Ent) (w wo wr : World) (cn : Nat → Int) (tb ln : Nat → Nat)
    (S : St wo wr b tb es (.slice la es.length lcap) xc0) (T : Tabs w wo B cn tb ln 3) (hb : b = wo.heap.size) (hn : es.length ≤ 70000) (bq0 : 0 ≤ pick) (bq1 : pick ≤ 255) :
    Code.wp Yba.prog (tailAt 42 (Yba.f5.body.getD .skip)) (bodyPost Yba.prog Yba.f5 fun e w' => e = .returned (.bool true) ∧ Below B w w') ⟨#[u0, u1, u2, u3, u4, .int .i64 outer, .int .u8 pick, .bool alone, u8, u9, u10, u11, u12, u13, u14, u15, u16, u17, .pointer (some ⟨B + 1, 0, none⟩), .pointer (some ⟨B + 1 + 1, 0, none⟩), u20, u21, u22, u23, .pointer (some ⟨b, 0, none⟩), .slice la es.length lcap, u26, u27, u28, u29, u30, u31, u32, u33, u34, u35, u36, u37, u38, u39, u40, u41, u42, u43, u44, u45, u46, u47, u48, u49, u50, u51, u52, u53, u54, u55, u56, u57, u58, u59, u60, u61, u62, u63, u64, u65, u66, u67, u68, u69, u70, u71, u72, u73, u74, u75, u76, u77, u78, u79, u80, u81, u82, u83, u84, u85, u86, u87, u88, u89, u90, u91, u92, u93, u94, u95, u96, u97, u98, u99, u100, u101, u102, u103, u104, u105, u106, u107, u108, u109, u110, u111, u112, u113, u114, u115, u116, u117, u118, u119, u120, u121, u122, u123, u124, u125, u126, u127, u128, u129, u130, u131, u132, u133, u134, u135, u136, u137, u138, u139, u140, u141, u142, u143, u144, u145, u146, u147, u148, u149, u150, u151, u152, u153, u154, u155, u156, u157, u158, u159, u160, u161, u162, u163, u164, u165, u166, u167, u168, u169, u170, u171, u172, u173, u174, u175, u176, u177, u178, u179, u180, u181, u182, u183, u184, u185, u186, u187, u188, u189, u190, u191, u192, u193, u194, u195, u196, u197, u198, u199, u200, u201, u202, u203, u204, u205, u206, u207, u208, u209, u210, u211, u212, u213, u214, u215, u216, u217, u218, u219, u220, u221, u222, u223, u224, u225, u226, u227, u228, u229, u230, u231, u232, u233, u234, u235, u236, u237, u238, u239, u240, u241, u242, u243, u244, u245, u246, u247, u248, u249, u250, u251, u252, u253, u254, u255, u256, u257, u258, u259, u260, u261, u262, u263, u264, u265, u266, u267, u268, u269, u270, u271, u272, u273, u274, u275, u276, u277, u278, u279, u280, u281, u282, u283, u284, u285, u286, u287, u288, u289, u290, u291, u292, u293, u294, u295, u296, u297, u298, u299, u300, u301, u302, u303, u304, u305, u306, u307, u308, u309, u310, u311, u312, u313, u314, u315, u316, u317, u318, u319, u320, u321, u322, u323, u324, u325], []⟩ wr := by
  conv => arg 2; whnf
  have hni : (es.length : Int) ≤ 70000 := by omega
  obtain ⟨oz, hoz, hozb⟩ : ∃ oz : Nat, (IntKind.u64.wrap outer).tmod ((es.length : Int) + 2) = (oz : Int) ∧ oz ≤ es.length + 1 := by
    have h0 := Int.tmod_nonneg ((es.length : Int) + 2) (show 0 ≤ IntKind.u64.wrap outer from u64_nonneg outer)
    have h1 := Int.tmod_lt_of_pos (IntKind.u64.wrap outer) (show 0 < (es.length : Int) + 2 by omega)
    exact ⟨((IntKind.u64.wrap outer).tmod ((es.length : Int) + 2)).toNat, by omega, by omega⟩
  obtain ⟨pm, hpm, hpm'⟩ : ∃ pm : Nat, pick % 3 = (pm : Int) ∧ pm < 3 := ⟨(pick % 3).toNat, by omega, by omega⟩
  have hozi : (oz : Int) ≤ 70001 := by omega
  obtain ⟨X1, Z1⟩ := S.xs 1 (by omega) (by omega)
  obtain ⟨X2, Z2⟩ := S.xs 2 (by omega) (by omega)
  obtain ⟨X3, Z3⟩ := S.xs 3 (by omega) (by omega)
  have hBs := T.size
  have hp := (S.below.cell (p := ⟨B + 1, pm, none⟩) (by show B + 1 < b; omega)).trans (T.done pm hpm').ptr
  have hne1 : ¬ B + 1 = b := by omega
  have hne1' : ¬ b = B + 1 := by omega
  have S3 := ((S.setx 3 (by omega) (.int .i64 oz)).setx 1 (by omega) (.int .i64 1)).setx 2 (by omega) (.int .i64 es.length)
  have HS : Hid (St wo (((wr.setCell ⟨b, 3, none⟩ (.int .i64 oz)).setCell ⟨b, 1, none⟩ (.int .i64 1)).setCell ⟨b, 2, none⟩ (.int .i64 es.length)) b tb es (.slice la es.length lcap) (upd (upd (upd xc0 3 (.int .i64 oz)) 1 (.int .i64 1)) 2 (.int .i64 es.length))) := S3
  have HB : Hid (b = wo.heap.size) := hb
  clear S3 hb
  go_upto_region 48 with fail
  generalize hwc : ((wr.setCell ⟨b, 3, none⟩ (.int .i64 oz)).setCell ⟨b, 1, none⟩ (.int .i64 1)).setCell ⟨b, 2, none⟩ (.int .i64 es.length) = wc at HS ⊢
  clear hwc X1 X2 X3 Z1 Z2 Z3 hp hoz S
  obtain ⟨xc, hxc⟩ : ∃ xc, xc = upd (upd (upd xc0 3 (.int .i64 oz)) 1 (.int .i64 1)) 2 (.int .i64 es.length) := ⟨_, rfl⟩
  have HX : Hid (xc 0 = .pointer none ∧ xc 1 = .int .i64 1 ∧ xc 2 = .int .i64 es.length ∧ xc 3 = .int .i64 oz ∧ xc 7 = .slice none 0 0 ∧ xc 8 = .slice none 0 0 ∧ xc 9 = .slice none 0 0 ∧ xc 14 = .slice none 0 0) := by
    rw [hxc]
    exact ⟨rfl, rfl, rfl, rfl, rfl, rfl, rfl, rfl⟩
  rw [← hxc] at HS
  clear hxc
  obtain ⟨i0, hi70, hz0, hz1, hz2⟩ := info_parts info70
  have HL : Hid (wc.ownsRow (b + 1) 70 4 (.slice la es.length lcap) es.length (flat es)) := HS.out.log
  have hcs := HS.out.size
  have hlen : wc.cell? ⟨B + 1 + 1, pm, none⟩ = some (.int .i64 (ln pm)) := by
    have hb := HB.out
    exact (HS.out.below.cell (p := ⟨B + 1 + 1, pm, none⟩) (by show B + 1 + 1 < b; omega)).trans (T.done pm hpm').len
  by_cases hal : (alone && decide (oz < es.length)) = true
  · obtain ⟨rfl, hlt⟩ : alone = true ∧ oz < es.length := by simpa using hal
    clear hal
    obtain ⟨n', hn'⟩ : ∃ n', es.length = n' + 1 := ⟨es.length - 1, by omega⟩
    obtain ⟨es', l, hes, hl'⟩ := list_last es n' hn'
    obtain ⟨hok, j, hj, hlt'⟩ := HS.out.good l (by rw [hes]; simp)
    obtain ⟨lg, lcap', hv, hlr, a0, a1, a2, a3⟩ := row_cells (j := n') (e := l) HL.out (by rw [hes, ← hl']; simp) rfl
    obtain ⟨rfl, rfl⟩ : la = some ⟨lg, 0, none⟩ ∧ lcap = lcap' := by simp only [Value.slice.injEq] at hv; exact ⟨hv.1, hv.2.2⟩
    clear hv hlr
    rw [hlt'] at a0
    have hlg := lt_of a0
    have hbb := HB.out
    have hcmp : ∀ o, (binOp .eql 37 (.pointer (some ⟨tb j, 0, none⟩)) (.pointer (some ⟨tb pm, 0, none⟩))).run Yba.prog (wc.alloc o) = .ok (.bool (decide (tb j = tb pm))) (wc.alloc o) := fun o => by
      have t1 := (T.done j hj).tab.lt
      have t2 := (T.done pm hpm').tab.lt
      obtain ⟨ca, hca⟩ := (T.done j hj).tab.of (HS.out.below.block (tb j) (by omega))
      obtain ⟨cb, hcb⟩ := (T.done pm hpm').tab.of (HS.out.below.block (tb pm) (by omega))
      refine eql_tab (ca := ca) (cb := cb) (ea := 48) (eb := 48) ?_ ?_
      · rw [Below.heap_alloc _ _ _ (by omega)]; exact hca
      · rw [Below.heap_alloc _ _ _ (by omega)]; exact hcb
    have hsk : Hid (skips true oz es (tb pm) = (decide (tb j = tb pm) && l.ra.isNone && l.cl.isNone)) := by
      unfold Hid
      rw [hes, skips_yes _ _ _ _ (by rw [← hes]; exact hlt), hlt']
      simp
    clear hes
    have hlen' : (es.length : Int) - 1 = (n' : Int) := by omega
    have hozl : (oz : Int) < (es.length : Int) := by omega
    have hn0 : (0 : Int) < (es.length : Int) := by omega
    have hn1 : (n' : Int) < (es.length : Int) := by omega
    clear hn' hl'
    have hB2 : B + 1 + 1 < wc.heap.size := by omega
    have hB3 : B + 1 + 1 < wc.heap.size + 1 := by omega
    have h50 := eql_slice_nil Yba.underlying50
    clear hbb
    by_cases hhit : tb j = tb pm ∧ l.ra = none ∧ l.cl = none
    · obtain ⟨ht, h2, h3⟩ := hhit
      have hs' : Hid (skips true oz es (tb pm) = true) := by unfold Hid; rw [hsk.out, ht, h2, h3]; simp
      have HA : Hid (∀ {w3 : World}, Below wc.heap.size wc w3 → Calls Yba.prog 11 #[.pointer (some ⟨b, 0, none⟩), .pointer (some ⟨tb pm, 0, none⟩), .bool true] w3 fun r w' => r = .returned (.tuple #[]) ∧ St wo w' b tb es (.slice (some ⟨lg, 0, none⟩) es.length lcap) xc) := by
        intro w3 hM
        exact app_any true (HS.out.more hM).mid T HB.out hpm' HX.out.2.2.2.1 (by omega) (by rw [hs'.out]; rfl)
      clear hsk
      rw [ht] at a0 hcmp
      clear ht
      go_upto_region 55 with fail
      go_wp2_with (go_at_call 11; refine (HA.out ((Below.refl _ _).alloc (Nat.le_refl _) _)).mono ?_; rintro r w5 ⟨rfl, S5⟩; dsimp only; go_step; go_step; go_step; go_step; exact tail2 _ _ _ _ _ _ _ _ _ _ _ _ _ _ _ _ _ _ _ _ _ _ _ _ _ _ _ _ _ _ _ _ _ _ _ _ _ _ _ _ _ _ _ _ _ _ _ _ _ _ _ _ _ _ _ _ _ _ _ _ _ _ _ _ _ _ _ _ _ _ _ _ _ _ _ _ _ _ _ _ _ _ _ _ _ _ _ _ _ _ _ _ _ _ _ _ _ _ _ _ _ _ _ _ _ _ _ _ _ _ _ _ _ _ _ _ _ _ _ _ _ _ _ _ _ _ _ _ _ _ _ _ _ _ _ _ _ _ _ _ _ _ _ _ _ _ _ _ _ _ _ _ _ _ _ _ _ _ _ _ _ _ _ _ _ _ _ _ _ _ _ _ _ _ _ _ _ _ _ _ _ _ _ _ _ _ _ _ _ _ _ _ _ _ _ _ _ _ _ _ _ _ _ _ _ _ _ _ _ _ _ _ _ _ _ _ _ _ _ _ _ _ _ _ _ _ _ _ _ _ _ _ _ _ _ _ _ _ _ _ _ _ _ _ _ _ _ _ _ _ _ _ _ _ _ _ _ _ _ _ _ _ _ _ _ _ _ _ _ _ _ _ _ _ _ _ _ _ _ _ _ _ _ _ _ _ _ _ _ _ _ _ _ _ _ _ _ _ _ _ _ _ _ _ _ _ _ _ _ _ _ _ _ _ _ _ _ _ _ _  B b es.length oz es.length lcap (some ⟨lg, 0, none⟩) es w wo w5 cn tb ln xc S5 T HB.out (by omega) rfl HX.out.1 HX.out.2.1 HX.out.2.2.1 HX.out.2.2.2.1 HX.out.2.2.2.2.1 HX.out.2.2.2.2.2.1 HX.out.2.2.2.2.2.2.1 HX.out.2.2.2.2.2.2.2)
    · have hs' : Hid (skips true oz es (tb pm) = false) := by
        unfold Hid
        rw [hsk.out]
        simp only [Bool.and_eq_false_iff, decide_eq_false_iff_not, Option.isNone_eq_false_iff, Option.isSome_iff_ne_none]
        by_cases h1 : tb j = tb pm
        · by_cases h2 : l.ra = none
          · exact .inr (fun h3 => hhit ⟨h1, h2, h3⟩)
          · exact .inl (.inr h2)
        · exact .inl (.inl h1)
      have HA : Hid (∀ {w3 : World} {g cap : Nat}, Mid wo w3 b tb es (es ++ [⟨some ⟨tb pm, 0, none⟩, ln pm, none, 0, 0, none⟩]) (.slice (some ⟨g, 0, none⟩) (es.length + 1) cap) xc →
          Calls Yba.prog 11 #[.pointer (some ⟨b, 0, none⟩), .pointer (some ⟨tb pm, 0, none⟩), .bool true] w3 fun r w' => r = .returned (.tuple #[]) ∧ St wo w' b tb (es ++ [⟨some ⟨tb pm, 0, none⟩, ln pm, none, 0, 0, none⟩]) (.slice (some ⟨g, 0, none⟩) (es.length + 1) cap) xc) := by
        intro w3 g cap hM
        exact app_any true hM T HB.out hpm' HX.out.2.2.2.1 (by omega) (by rw [hs'.out]; rfl)
      obtain ⟨t, pos, ra, rl, rc, cl⟩ := l
      simp only at a0 a1 a2 a3 hhit
      have ways : (¬ tb j = tb pm) ∨ (tb j = tb pm ∧ ∃ a, ra = some a) ∨ (tb j = tb pm ∧ ra = none ∧ ∃ a, cl = some a) := by
        by_cases h1 : tb j = tb pm
        · cases ra with
          | some a => exact .inr (.inl ⟨h1, a, rfl⟩)
          | none =>
            cases cl with
            | some a => exact .inr (.inr ⟨h1, rfl, a, rfl⟩)
            | none => exact absurd ⟨h1, rfl, rfl⟩ hhit
        · exact .inl h1
      clear hhit hsk hok hlt'
      rcases ways with h1 | ⟨ht, a, rfl⟩ | ⟨ht, rfl, a, rfl⟩
      all_goals (first | (rw [ht] at a0 hcmp; clear ht) | skip)
      all_goals
        go_upto_region 55 with (at_builtin; refine wpList_append_lies _ rfl _ _ _ rfl (b + 1) 70 i0 (.agg #[.pointer none, .int .i64 0, .slice none 0 0, .pointer none]) 4 48 Yba.underlying53 hi70 hz0 hz1 hz2 rfl (by decide) _ es.length (flat es) rfl ((HL.out.alloc _).alloc _) ⟨wc.heap.size + 1, 0, none⟩ 1 1 [_, _, _, _] rfl rfl (World.news_of_block (heapA wc _ _)) (oneCells ⟨_, _, _, _, _, _⟩) (by decide) (by unfold maxLen; omega) (by omega) (by simp; omega) (wc.heap.size + 2) (by simp) ?_; intro g cap w3 hown hgrow hat hlt)
        go_wp2_with (go_at_call 11; refine (HA.out ((HS.out.more ((Below.refl _ _).alloc (Nat.le_refl _) _)).applog ((Below.refl _ _).alloc (Nat.le_refl _) _) hgrow rfl hown (at_le hat (by simp)) ⟨.inl ⟨rfl, rfl, rfl⟩, pm, hpm', rfl⟩)).mono ?_; rintro r w5 ⟨rfl, S5⟩; dsimp only; go_step; go_step; go_step; go_step; exact tail2 _ _ _ _ _ _ _ _ _ _ _ _ _ _ _ _ _ _ _ _ _ _ _ _ _ _ _ _ _ _ _ _ _ _ _ _ _ _ _ _ _ _ _ _ _ _ _ _ _ _ _ _ _ _ _ _ _ _ _ _ _ _ _ _ _ _ _ _ _ _ _ _ _ _ _ _ _ _ _ _ _ _ _ _ _ _ _ _ _ _ _ _ _ _ _ _ _ _ _ _ _ _ _ _ _ _ _ _ _ _ _ _ _ _ _ _ _ _ _ _ _ _ _ _ _ _ _ _ _ _ _ _ _ _ _ _ _ _ _ _ _ _ _ _ _ _ _ _ _ _ _ _ _ _ _ _ _ _ _ _ _ _ _ _ _ _ _ _ _ _ _ _ _ _ _ _ _ _ _ _ _ _ _ _ _ _ _ _ _ _ _ _ _ _ _ _ _ _ _ _ _ _ _ _ _ _ _ _ _ _ _ _ _ _ _ _ _ _ _ _ _ _ _ _ _ _ _ _ _ _ _ _ _ _ _ _ _ _ _ _ _ _ _ _ _ _ _ _ _ _ _ _ _ _ _ _ _ _ _ _ _ _ _ _ _ _ _ _ _ _ _ _ _ _ _ _ _ _ _ _ _ _ _ _ _ _ _ _ _ _ _ _ _ _ _ _ _ _ _ _ _ _ _ _ _ _ _ _ _ _ _ _ _ _ _ _ _ _ _ _  B b es.length oz (es.length + 1) cap (some ⟨g, 0, none⟩) (es ++ [⟨some ⟨tb pm, 0, none⟩, ln pm, none, 0, 0, none⟩]) w wo w5 cn tb ln xc S5 T HB.out (by simp; omega) (by simp) HX.out.1 HX.out.2.1 HX.out.2.2.1 HX.out.2.2.2.1 HX.out.2.2.2.2.1 HX.out.2.2.2.2.2.1 HX.out.2.2.2.2.2.2.1 HX.out.2.2.2.2.2.2.2)
  · have hsk : Hid (skips alone oz es (tb pm) = false) := skips_no _ _ _ _ (by simpa using hal)
    have HA : Hid (∀ {w3 : World} {g cap : Nat}, Mid wo w3 b tb es (es ++ [⟨some ⟨tb pm, 0, none⟩, ln pm, none, 0, 0, none⟩]) (.slice (some ⟨g, 0, none⟩) (es.length + 1) cap) xc → 
        Calls Yba.prog 11 #[.pointer (some ⟨b, 0, none⟩), .pointer (some ⟨tb pm, 0, none⟩), .bool alone] w3 fun r w' => r = .returned (.tuple #[]) ∧ St wo w' b tb (es ++ [⟨some ⟨tb pm, 0, none⟩, ln pm, none, 0, 0, none⟩]) (.slice (some ⟨g, 0, none⟩) (es.length + 1) cap) xc) := by
      intro w3 g cap hM
      exact app_any alone hM T HB.out hpm' HX.out.2.2.2.1 (by omega) (by rw [hsk.out]; rfl)
    have ways : alone = false ∨ (alone = true ∧ (es.length : Int) ≤ (oz : Int)) := by
      cases alone with
      | false => exact .inl rfl
      | true => refine .inr ⟨rfl, ?_⟩; simp at hal; omega
    clear hal
    rcases ways with rfl | ⟨rfl, hoz'⟩
    all_goals
      go_upto_region 55 with (at_builtin; refine wpList_append_lies _ rfl _ _ _ rfl (b + 1) 70 i0 (.agg #[.pointer none, .int .i64 0, .slice none 0 0, .pointer none]) 4 48 Yba.underlying53 hi70 hz0 hz1 hz2 rfl (by decide) _ es.length (flat es) rfl (HL.out.alloc _) ⟨wc.heap.size, 0, none⟩ 1 1 [_, _, _, _] rfl rfl (World.news_of_block (heap_alloc_new wc _)) (oneCells ⟨_, _, _, _, _, _⟩) (by decide) (by unfold maxLen; omega) (by omega) (by simp; omega) (wc.heap.size + 1) (by simp) ?_; intro g cap w3 hown hgrow hat hlt)
      go_wp2_with (go_at_call 11; refine (HA.out (HS.out.applog ((Below.refl _ _).alloc (Nat.le_refl _) _) hgrow rfl hown (at_le hat (by omega)) ⟨.inl ⟨rfl, rfl, rfl⟩, pm, hpm', rfl⟩)).mono ?_; rintro r w5 ⟨rfl, S5⟩; dsimp only; go_step; go_step; go_step; go_step; exact tail2 _ _ _ _ _ _ _ _ _ _ _ _ _ _ _ _ _ _ _ _ _ _ _ _ _ _ _ _ _ _ _ _ _ _ _ _ _ _ _ _ _ _ _ _ _ _ _ _ _ _ _ _ _ _ _ _ _ _ _ _ _ _ _ _ _ _ _ _ _ _ _ _ _ _ _ _ _ _ _ _ _ _ _ _ _ _ _ _ _ _ _ _ _ _ _ _ _ _ _ _ _ _ _ _ _ _ _ _ _ _ _ _ _ _ _ _ _ _ _ _ _ _ _ _ _ _ _ _ _ _ _ _ _ _ _ _ _ _ _ _ _ _ _ _ _ _ _ _ _ _ _ _ _ _ _ _ _ _ _ _ _ _ _ _ _ _ _ _ _ _ _ _ _ _ _ _ _ _ _ _ _ _ _ _ _ _ _ _ _ _ _ _ _ _ _ _ _ _ _ _ _ _ _ _ _ _ _ _ _ _ _ _ _ _ _ _ _ _ _ _ _ _ _ _ _ _ _ _ _ _ _ _ _ _ _ _ _ _ _ _ _ _ _ _ _ _ _ _ _ _ _ _ _ _ _ _ _ _ _ _ _ _ _ _ _ _ _ _ _ _ _ _ _ _ _ _ _ _ _ _ _ _ _ _ _ _ _ _ _ _ _ _ _ _ _ _ _ _ _ _ _ _ _ _ _ _ _ _ _ _ _ _ _ _ _ _ _ _ _ _  B b es.length oz (es.length + 1) cap (some ⟨g, 0, none⟩) (es ++ [⟨some ⟨tb pm, 0, none⟩, ln pm, none, 0, 0, none⟩]) w wo w5 cn tb ln xc S5 T HB.out (by simp; omega) (by simp) HX.out.1 HX.out.2.1 HX.out.2.2.1 HX.out.2.2.2.1 HX.out.2.2.2.2.1 HX.out.2.2.2.2.2.1 HX.out.2.2.2.2.2.2.1 HX.out.2.2.2.2.2.2.2)

end Go.Proofs.Ybulkdtxo.C
