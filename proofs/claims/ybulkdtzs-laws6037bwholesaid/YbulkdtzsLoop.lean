/-
  The law's loop over the twelve bytes, and the comparison of the other fields behind it.
-/
import Derived.Test.YbulkdtzsReady
import Derived.Deep.LoopGhost
import Derived.Deep.QuietTactic
import Derived.BigQuiet
namespace Go.Proofs.Ybulkdtzs.S
open Go.RowKit

theorem below_drewN {B : Nat} {a w : World} (h : Below B a w) (n : Nat) : Below B a (w.drewN n) := h.trans ⟨rfl, rfl, rfl, Nat.le_refl _, fun _ _ => rfl⟩

set_option maxRecDepth 1000000 in
set_option maxHeartbeats 4000000 in
theorem law_loop (u3 u4 u5 u6 u7 u8 u11 u15 u16 u17 u18 u19 u20 u21 u22 u23 u24 u25 u26 u27 u28 u29 u30 u31 u32 u33 u34 u35 u36 u37 u38 u39 u40 u41 u42 u43 u44 u45 u46 u47 u48 u49 u50 u51 u52 u53 u54 u55 u56 u57 u58 u59 u60 u61 u62 u63 u64 u65 u66 u67 u68 u69 u70 u71 u72 u73 u74 u75 u76 u77 u78 u79 u80 u81 u82 u83 u84 u85 u86 u87 u88 u89 u90 u91 u92 u93 u94 u95 u96 u97 u98 u99 u100 u101 u102 u103 u104 u105 u106 u107 u108 u109 u110 u111 u112 u113 u114 u115 u116 u117 u118 u119 u120 u121 u122 u123 u124 u125 u126 u127 u128 u129 u130 u131 u132 u133 u134 u135 u136 u137 u138 u139 u140 u141 u142 u143 u144 u145 u146 u147 u148 u149 u150 u151 u152 u153 u154 u155 u156 u157 u158 u159 u160 u161 u162 u163 u164 u165 sv : Value) (tb rb g hb cap id fl rc : Nat) (bt : Nat → Int) (t0 t5 t8 : Bool) (t1 t2 t3 t4 t6 t7 t9 : Int) (w0 w : World) (hb0 : Below w0.heap.size w0 w)
    (hg : ∀ j, j < 12 → w.cell? ⟨g, j, none⟩ = some (.int .u8 (bt j))) (hh : ∀ j, j < 12 → w.cell? ⟨hb, j, none⟩ = some (.int .u8 (bt j))) (hgs : g < w.heap.size) (hhs : hb < w.heap.size)
    (htb : w.heap[tb]? = some (.cells #[.bool t0, .int .i64 t1, .int .i64 t2, .int .i64 t3, .int .u16 t4, .bool t5, .int .i64 t6, .int .u16 t7, .bool t8, .int .u32 t9] 26 (0, 0)))
    (hrb : w.heap[rb]? = some (.cells #[.bool t0, sv, .int .i64 t1, .int .i64 t2, .int .i64 t3, .int .u16 t4, .bool t5, .int .i64 t6, .int .u16 t7, .bool t8, .int .u32 t9] 29 (0, 0))) :
    Code.wp Yba.prog (tailAt 13 (Yba.f3.body.getD .skip)) (bodyPost Yba.prog Yba.f3 fun e w' => e = .returned (.bool true) ∧ Below w0.heap.size w0 w') ⟨#[.int .u16 id, .int .u16 fl, .int .u16 rc, u3, u4, u5, u6, u7, u8, .pointer (some ⟨tb, 0, none⟩), .bool false, u11, .pointer (some ⟨rb, 0, none⟩), .slice (some ⟨g, 0, none⟩) 12 cap, .pointer (some ⟨hb, 0, none⟩), u15, u16, u17, u18, u19, u20, u21, u22, u23, u24, u25, u26, u27, u28, u29, u30, u31, u32, u33, u34, u35, u36, u37, u38, u39, u40, u41, u42, u43, u44, u45, u46, u47, u48, u49, u50, u51, u52, u53, u54, u55, u56, u57, u58, u59, u60, u61, u62, u63, u64, u65, u66, u67, u68, u69, u70, u71, u72, u73, u74, u75, u76, u77, u78, u79, u80, u81, u82, u83, u84, u85, u86, u87, u88, u89, u90, u91, u92, u93, u94, u95, u96, u97, u98, u99, u100, u101, u102, u103, u104, u105, u106, u107, u108, u109, u110, u111, u112, u113, u114, u115, u116, u117, u118, u119, u120, u121, u122, u123, u124, u125, u126, u127, u128, u129, u130, u131, u132, u133, u134, u135, u136, u137, u138, u139, u140, u141, u142, u143, u144, u145, u146, u147, u148, u149, u150, u151, u152, u153, u154, u155, u156, u157, u158, u159, u160, u161, u162, u163, u164, u165], []⟩ w := by
  conv => arg 2; whnf
  go_wp2
  go_loopg [15] 12 (fun g i wx => ∃ k : Nat, k + g = 12 ∧ i = .int .i64 k ∧ Below w.heap.size w wx)
  case atStart => exact ⟨0, by omega, rfl, Below.refl _ _⟩
  case round =>
    obtain ⟨j, hj, rfl, hbel⟩ := hrel
    by_cases hlt' : j < 12
    · have hji : (j : Int) < 12 := by omega
      have hji0 : (0 : Int) ≤ (j : Int) := by omega
      have p1 := (hbel.cell (p := ⟨g, j, none⟩) hgs).trans (hg j hlt')
      have p2 := (hbel.cell (p := ⟨hb, j, none⟩) hhs).trans (hh j hlt')
      clear hg hh htb hrb
      go_wp2
      go_quiet (fail)
      go_wp2
      go_roundg (12 - (j + 1))
      case rel => exact ⟨j + 1, by omega, by go_num, below_drewN hbel _⟩
      case measure => omega
    · have hji : ¬ (j : Int) < 12 := by omega
      have c0 : wr.cell? ⟨tb, 0, none⟩ = some (.bool t0) := by simp [World.cell?, (hbel.block _ (lt_of_heap htb)).trans htb]
      have c1 : wr.cell? ⟨tb, 1, none⟩ = some (.int .i64 t1) := by simp [World.cell?, (hbel.block _ (lt_of_heap htb)).trans htb]
      have c2 : wr.cell? ⟨tb, 2, none⟩ = some (.int .i64 t2) := by simp [World.cell?, (hbel.block _ (lt_of_heap htb)).trans htb]
      have c3 : wr.cell? ⟨tb, 3, none⟩ = some (.int .i64 t3) := by simp [World.cell?, (hbel.block _ (lt_of_heap htb)).trans htb]
      have c4 : wr.cell? ⟨tb, 4, none⟩ = some (.int .u16 t4) := by simp [World.cell?, (hbel.block _ (lt_of_heap htb)).trans htb]
      have c5 : wr.cell? ⟨tb, 5, none⟩ = some (.bool t5) := by simp [World.cell?, (hbel.block _ (lt_of_heap htb)).trans htb]
      have c6 : wr.cell? ⟨tb, 6, none⟩ = some (.int .i64 t6) := by simp [World.cell?, (hbel.block _ (lt_of_heap htb)).trans htb]
      have c7 : wr.cell? ⟨tb, 7, none⟩ = some (.int .u16 t7) := by simp [World.cell?, (hbel.block _ (lt_of_heap htb)).trans htb]
      have c8 : wr.cell? ⟨tb, 8, none⟩ = some (.bool t8) := by simp [World.cell?, (hbel.block _ (lt_of_heap htb)).trans htb]
      have c9 : wr.cell? ⟨tb, 9, none⟩ = some (.int .u32 t9) := by simp [World.cell?, (hbel.block _ (lt_of_heap htb)).trans htb]
      have d0 : wr.cell? ⟨rb, 0, none⟩ = some (.bool t0) := by simp [World.cell?, (hbel.block _ (lt_of_heap hrb)).trans hrb]
      have d1 : wr.cell? ⟨rb, 2, none⟩ = some (.int .i64 t1) := by simp [World.cell?, (hbel.block _ (lt_of_heap hrb)).trans hrb]
      have d2 : wr.cell? ⟨rb, 3, none⟩ = some (.int .i64 t2) := by simp [World.cell?, (hbel.block _ (lt_of_heap hrb)).trans hrb]
      have d3 : wr.cell? ⟨rb, 4, none⟩ = some (.int .i64 t3) := by simp [World.cell?, (hbel.block _ (lt_of_heap hrb)).trans hrb]
      have d4 : wr.cell? ⟨rb, 5, none⟩ = some (.int .u16 t4) := by simp [World.cell?, (hbel.block _ (lt_of_heap hrb)).trans hrb]
      have d5 : wr.cell? ⟨rb, 6, none⟩ = some (.bool t5) := by simp [World.cell?, (hbel.block _ (lt_of_heap hrb)).trans hrb]
      have d6 : wr.cell? ⟨rb, 7, none⟩ = some (.int .i64 t6) := by simp [World.cell?, (hbel.block _ (lt_of_heap hrb)).trans hrb]
      have d7 : wr.cell? ⟨rb, 8, none⟩ = some (.int .u16 t7) := by simp [World.cell?, (hbel.block _ (lt_of_heap hrb)).trans hrb]
      have d8 : wr.cell? ⟨rb, 9, none⟩ = some (.bool t8) := by simp [World.cell?, (hbel.block _ (lt_of_heap hrb)).trans hrb]
      have d9 : wr.cell? ⟨rb, 10, none⟩ = some (.int .u32 t9) := by simp [World.cell?, (hbel.block _ (lt_of_heap hrb)).trans hrb]
      clear hg hh htb hrb
      go_wp2
      go_quiet (fail)
      go_wp2
      go_ret
      exact ⟨rfl, below_drewN (hb0.trans (hbel.mono hb0.size)) _⟩
end Go.Proofs.Ybulkdtzs.S
