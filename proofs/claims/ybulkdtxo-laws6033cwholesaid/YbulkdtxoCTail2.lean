import Derived.Test.YbulkdtxoCSt
import Derived.Deep.LoopGhost
import Derived.Deep.RegionHeld
import Derived.BigQuiet
import Derived.Deep.QuietTactic
namespace Go.Proofs.Ybulkdtxo.C
open Go.RowKit

/-- The first region of a piece of code. -/
def firstReg : Code → Option Nat
  | .region id _ _ => some id
  | .seq a _ => firstReg a
  | .block _ c => firstReg c
  | .scope c => firstReg c
  | .loop c => firstReg c
  | _ => none

/-- The code from the statement on that begins with region n. -/
def tailAt (n : Nat) : Code → Code
  | .seq a b => if firstReg a = some n then .seq a b else tailAt n b
  | c => c

theorem below_round {w5 wr w1 w2 : World} {o : Obj} (h : Below w5.heap.size w5 wr) (h1 : Below wr.heap.size wr w1) (h2 : Below (w1.alloc o).drew.heap.size (w1.alloc o).drew w2) : Below w5.heap.size w5 w2 := by
  have l1 := h.size
  have l2 := h1.size
  have l3 : (w1.alloc o).drew.heap.size = w1.heap.size + 1 := by simp
  exact ((h.trans (h1.mono l1)).trans ((Below.refl w5.heap.size w1).alloc (by omega) o).drew).trans (h2.mono (by omega))

set_option maxRecDepth 1000000 in
set_option maxHeartbeats 2000000 in
theorem tail2 (u0 u1 u2 u3 u4 u5 u6 u7 u8 u9 u10 u11 u12 u13 u14 u15 u16 u17 u20 u21 u22 u23 u26 u27 u28 u29 u30 u31 u32 u35 u36 u37 u38 u39 u40 u41 u42 u43 u44 u45 u46 u47 u48 u49 u50 u51 u52 u53 u54 u55 u56 u57 u58 u59 u60 u61 u62 u63 u64 u65 u66 u67 u68 u69 u70 u71 u72 u73 u74 u75 u76 u77 u78 u79 u80 u81 u82 u83 u84 u85 u86 u87 u88 u89 u90 u91 u92 u93 u94 u95 u96 u97 u98 u99 u100 u101 u102 u103 u104 u105 u106 u107 u108 u109 u110 u111 u112 u113 u114 u115 u116 u117 u118 u119 u120 u121 u122 u123 u124 u125 u126 u127 u128 u129 u130 u131 u132 u133 u134 u135 u136 u137 u138 u139 u140 u141 u142 u143 u144 u145 u146 u147 u148 u149 u150 u151 u152 u153 u154 u155 u156 u157 u158 u159 u160 u161 u162 u163 u164 u165 u166 u167 u168 u169 u170 u171 u172 u173 u174 u175 u176 u177 u178 u179 u180 u181 u182 u183 u184 u185 u186 u187 u188 u189 u190 u191 u192 u193 u194 u195 u196 u197 u198 u199 u200 u201 u202 u203 u204 u205 u206 u207 u208 u209 u210 u211 u212 u213 u214 u215 u216 u217 u218 u219 u220 u221 u222 u223 u224 u225 u226 u227 u228 u229 u230 u231 u232 u233 u234 u235 u236 u237 u238 u239 u240 u241 u242 u243 u244 u245 u246 u247 u248 u249 u250 u251 u252 u253 u254 u255 u256 u257 u258 u259 u260 u261 u262 u263 u264 u265 u266 u267 u268 u269 u270 u271 u272 u273 u274 u275 u276 u277 u278 u279 u280 u281 u282 u283 u284 u285 u286 u287 u288 u289 u290 u291 u292 u293 u294 u295 u296 u297 u298 u299 u300 u301 u302 u303 u304 u305 u306 u307 u308 u309 u310 u311 u312 u313 u314 u315 u316 u317 u318 u319 u320 u321 u322 u323 u324 u325 : Value) (B b n oz n2 lcap : Nat) (la : Option Addr) (es : List Ent) (w wo w5 : World) (cn : Nat → Int) (tb ln : Nat → Nat) (xc : Nat → Value)
    (S : St wo w5 b tb es (.slice la n2 lcap) xc) (T : Tabs w wo B cn tb ln 3) (hb : b = wo.heap.size) (hn : es.length ≤ 70001) (hn2 : n2 = es.length)
    (x0 : xc 0 = .pointer none) (x1 : xc 1 = .int .i64 1) (x2 : xc 2 = .int .i64 n) (x3 : xc 3 = .int .i64 oz) (x7 : xc 7 = .slice none 0 0) (x8 : xc 8 = .slice none 0 0) (x9 : xc 9 = .slice none 0 0) (x14 : xc 14 = .slice none 0 0) :
    Code.wp Yba.prog (tailAt 56 (Yba.f5.body.getD .skip)) (bodyPost Yba.prog Yba.f5 fun e w' => e = .returned (.bool true) ∧ Below B w w') ⟨#[u0, u1, u2, u3, u4, u5, u6, u7, u8, u9, u10, u11, u12, u13, u14, u15, u16, u17, .pointer (some ⟨B + 1, 0, none⟩), .pointer (some ⟨B + 1 + 1, 0, none⟩), u20, u21, u22, u23, .pointer (some ⟨b, 0, none⟩), .slice la n2 lcap, u26, u27, u28, u29, u30, u31, u32, .int .i64 n, .int .i64 oz, u35, u36, u37, u38, u39, u40, u41, u42, u43, u44, u45, u46, u47, u48, u49, u50, u51, u52, u53, u54, u55, u56, u57, u58, u59, u60, u61, u62, u63, u64, u65, u66, u67, u68, u69, u70, u71, u72, u73, u74, u75, u76, u77, u78, u79, u80, u81, u82, u83, u84, u85, u86, u87, u88, u89, u90, u91, u92, u93, u94, u95, u96, u97, u98, u99, u100, u101, u102, u103, u104, u105, u106, u107, u108, u109, u110, u111, u112, u113, u114, u115, u116, u117, u118, u119, u120, u121, u122, u123, u124, u125, u126, u127, u128, u129, u130, u131, u132, u133, u134, u135, u136, u137, u138, u139, u140, u141, u142, u143, u144, u145, u146, u147, u148, u149, u150, u151, u152, u153, u154, u155, u156, u157, u158, u159, u160, u161, u162, u163, u164, u165, u166, u167, u168, u169, u170, u171, u172, u173, u174, u175, u176, u177, u178, u179, u180, u181, u182, u183, u184, u185, u186, u187, u188, u189, u190, u191, u192, u193, u194, u195, u196, u197, u198, u199, u200, u201, u202, u203, u204, u205, u206, u207, u208, u209, u210, u211, u212, u213, u214, u215, u216, u217, u218, u219, u220, u221, u222, u223, u224, u225, u226, u227, u228, u229, u230, u231, u232, u233, u234, u235, u236, u237, u238, u239, u240, u241, u242, u243, u244, u245, u246, u247, u248, u249, u250, u251, u252, u253, u254, u255, u256, u257, u258, u259, u260, u261, u262, u263, u264, u265, u266, u267, u268, u269, u270, u271, u272, u273, u274, u275, u276, u277, u278, u279, u280, u281, u282, u283, u284, u285, u286, u287, u288, u289, u290, u291, u292, u293, u294, u295, u296, u297, u298, u299, u300, u301, u302, u303, u304, u305, u306, u307, u308, u309, u310, u311, u312, u313, u314, u315, u316, u317, u318, u319, u320, u321, u322, u323, u324, u325], []⟩ w5 := by
  conv => arg 2; whnf
  subst hn2
  have hcnt := S.inv.cnt
  have hni : (es.length : Int) ≤ 70001 := by omega
  have hs5 := S.size
  have HX : Hid (w5.cell? ⟨b, 0, none⟩ = some (.pointer none) ∧ w5.cell? ⟨b, 1, none⟩ = some (.int .i64 1) ∧ w5.cell? ⟨b, 2, none⟩ = some (.int .i64 n) ∧ w5.cell? ⟨b, 3, none⟩ = some (.int .i64 oz) ∧
      w5.cell? ⟨b, 7, none⟩ = some (.slice none 0 0) ∧ w5.cell? ⟨b, 8, none⟩ = some (.slice none 0 0) ∧ w5.cell? ⟨b, 9, none⟩ = some (.slice none 0 0) ∧ w5.cell? ⟨b, 14, none⟩ = some (.slice none 0 0)) :=
    ⟨by rw [← x0]; exact (S.xs 0 (by omega) (by omega)).1, by rw [← x1]; exact (S.xs 1 (by omega) (by omega)).1, by rw [← x2]; exact (S.xs 2 (by omega) (by omega)).1, by rw [← x3]; exact (S.xs 3 (by omega) (by omega)).1,
      by rw [← x7]; exact (S.xs 7 (by omega) (by omega)).1, by rw [← x8]; exact (S.xs 8 (by omega) (by omega)).1, by rw [← x9]; exact (S.xs 9 (by omega) (by omega)).1, by rw [← x14]; exact (S.xs 14 (by omega) (by omega)).1⟩
  clear x0 x1 x2 x3 x7 x8 x9 x14
  have HB : Hid (b = wo.heap.size) := hb
  clear hb
  go_wp2
  clear hcnt
  go_loopg [38] es.length (fun g i wx => ∃ k : Nat, k + g = es.length ∧ i = .int .i64 k ∧ Below w5.heap.size w5 wx)
  case atStart => exact ⟨0, by omega, rfl, Below.refl _ _⟩
  case round =>
    obtain ⟨k, hk, rfl, hbel⟩ := hrel
    have Sx := S.more hbel
    by_cases hlt : k < es.length
    · have hki : (k : Int) < (es.length : Int) := by omega
      obtain ⟨e, he⟩ : ∃ e, es[k]? = some e := ⟨es[k], List.getElem?_eq_getElem hlt⟩
      have hok := (S.good e (List.mem_of_getElem? he)).1
      obtain ⟨lg, lcap', hv, _, a0, a1, a2, a3⟩ := row_cells Sx.log he rfl
      obtain ⟨rfl, rfl⟩ : la = some ⟨lg, 0, none⟩ ∧ lcap = lcap' := by simp only [Value.slice.injEq] at hv; exact ⟨hv.1, hv.2.2⟩
      clear hv
      have C := cat_any Sx.inv he (by omega)
      have hlg := lt_of a0
      have HE : Hid (es[k]? = some e) := he
      clear he
      simp only [Ent.cells] at C
      go_wp2_with (go_at_call 12; refine C.mono ?_; rintro r w1 ⟨rfl, hb1⟩; obtain ⟨bc, bf⟩ := bcell hb1; have hs1 := Nat.lt_of_lt_of_le hlg hb1.size)
      have hs2 : lg < w1.heap.size + 1 := by omega
      go_region_held (fun w' => w'.cell? ⟨w1.heap.size, 0, none⟩ = some (.pointer e.t) ∧ w'.cell? ⟨w1.heap.size, 1, none⟩ = some (.int .i64 e.pos) ∧ w'.cell? ⟨w1.heap.size, 2, none⟩ = some (.slice e.ra e.rl e.rc) ∧ w'.cell? ⟨w1.heap.size, 3, none⟩ = some (.pointer e.cl) ∧ w'.cell? ⟨lg, k * 4, none⟩ = some (.pointer e.t) ∧ w'.cell? ⟨lg, k * 4 + 1, none⟩ = some (.int .i64 e.pos) ∧ w'.cell? ⟨lg, k * 4 + 2, none⟩ = some (.slice e.ra e.rl e.rc) ∧ w'.cell? ⟨lg, k * 4 + 3, none⟩ = some (.pointer e.cl)) (first | go_keep | (obtain ⟨bc2, _⟩ := bcell hb2; simp [*])) ((go_at_call 13; refine (ceq_same e hok _).mono ?_; rintro r w2 ⟨rfl, hb2⟩))
      go_wp2
      go_roundg (es.length - (k + 1))
      case rel => exact ⟨k + 1, by omega, by go_num, below_round hbel hb1 hb2⟩
      case measure => omega
    · have hki : ¬ (k : Int) < (es.length : Int) := by omega
      have hbx : b < w5.heap.size := by omega
      obtain ⟨y0, y1, y2, y3, y7, y8, y9, y14⟩ := HX.out
      obtain ⟨bc, bf⟩ := bcell hbel
      have z0 := (bc b 0 hbx).trans y0
      have z1 := (bc b 1 hbx).trans y1
      have z2 := (bc b 2 hbx).trans y2
      have z3 := (bc b 3 hbx).trans y3
      have z7 := (bc b 7 hbx).trans y7
      have z8 := (bc b 8 hbx).trans y8
      have z9 := (bc b 9 hbx).trans y9
      have z14 := (bc b 14 hbx).trans y14
      clear y0 y1 y2 y3 y7 y8 y9 y14 bc bf
      have e57 := neq_slice_nil Yba.underlying57
      have e58 := neq_slice_nil Yba.underlying58
      have e65 := neq_slice_nil Yba.underlying65
      go_wp2
      clear z0 z1 z2 z3 z7 z8 z9 z14 e57 e58 e65
      have hBs := T.size
      have hb := HB.out
      have HB1 : Hid (Below w5.heap.size w5 wr) := hbel
      clear hbel Sx HX
      go_loopg [41] 3 (fun g i wx => ∃ k : Nat, k + g = 3 ∧ i = .int .i64 k ∧ Below w5.heap.size w5 wx)
      case atStart => exact ⟨0, by omega, rfl, HB1.out⟩
      case round =>
        obtain ⟨j, hj, rfl, hbel⟩ := hrel
        have Cx : ∀ b' o', b' < wo.heap.size → wr.cell? ⟨b', o', none⟩ = wo.cell? ⟨b', o', none⟩ := fun b' o' h' =>
          (hbel.cell (p := ⟨b', o', none⟩) (by show b' < w5.heap.size; omega)).trans (S.below.cell (p := ⟨b', o', none⟩) (by show b' < b; omega))
        by_cases hlt' : j < 3
        · have D := T.done j hlt'
          have hji : (j : Int) < 3 := by omega
          have hji0 : (0 : Int) ≤ (j : Int) := by omega
          obtain ⟨ra, rcap, hr⟩ := D.rows
          have p1 := (Cx (B + 1) j (by omega)).trans D.ptr
          have p2 := (Cx (B + 1 + 1) j (by omega)).trans D.len
          have p3 := (Cx (tb j) 2 D.tab.lt).trans hr
          clear Cx hr D hb
          go_wp2
          go_quiet (fail)
          go_wp2
          go_roundg (3 - (j + 1))
          case rel => exact ⟨j + 1, by omega, by go_num, below_drewN hbel _⟩
          case measure => omega
        · have hji : ¬ (j : Int) < 3 := by omega
          clear Cx hb
          go_wp2
          go_ret
          have hb := HB.out
          exact ⟨rfl, (T.below.trans (S.below.mono (by omega))).trans (hbel.mono (by omega))⟩

end Go.Proofs.Ybulkdtxo.C
