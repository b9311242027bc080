/-
  The law (f3): the comparison of the two lists of sets.
-/
import Derived.Test.YbulkdtycFmtErr
namespace Go.Proofs.YbulkdtycFmt.S
open Go.RowKit

/-- The two lists of sets lie in memory and hold the same parties. -/
structure Both (w : World) (gs gw size cnt : Nat) (T : Nat → Nat → Nat) : Prop where
  one : ∀ i, i < cnt → ∃ gp p, gp < w.heap.size ∧ w.cell? ⟨gs, i, none⟩ = some (.slice (some ⟨gp, p, none⟩) size size) ∧ ∀ t, t < size → w.cell? ⟨gp, p + t, none⟩ = some (.int .i64 (T i t : Nat))
  two : ∀ i, i < cnt → ∃ g, g < w.heap.size ∧ w.cell? ⟨gw, i, none⟩ = some (.slice (some ⟨g, 0, none⟩) size size) ∧ ∀ t, t < size → w.cell? ⟨g, t, none⟩ = some (.int .i64 (T i t : Nat))
  gsl : gs < w.heap.size
  gwl : gw < w.heap.size

set_option maxRecDepth 1000000 in
set_option maxHeartbeats 4000000 in
theorem cmp_tail (u2 u3 u8 u9 u10 u11 u12 u13 u14 u15 u16 u17 u18 u19 u20 u21 u22 u23 u24 u25 u26 u27 u28 u29 u30 u31 u32 u33 u34 u35 u36 u37 u38 u39 u40 u41 u42 u43 u44 u45 u46 u47 u48 u49 u50 u51 u52 u53 u54 u55 u56 u57 u58 u59 u60 u61 u62 u63 u64 u65 u66 u67 u68 u69 u70 u71 u72 u73 u74 u75 u76 u77 u78 u79 u80 u81 u82 u83 u84 u85 u86 u87 u88 u89 u90 u91 u92 u93 u94 u95 u96 u97 u98 u99 u100 u101 u102 u103 u104 u105 u106 u107 u108 u109 u110 u111 u112 u113 u114 u115 u116 u117 u118 u119 u120 u121 u122 u123 u124 u125 u126 u127 u128 u129 : Value) (n size cnt gs gw cw : Nat) (T : Nat → Nat → Nat) (w0 w : World) (hb0 : Below w0.heap.size w0 w) (hs : size ≤ 4096) (hc : cnt ≤ 1048576) (B : Both w gs gw size cnt T) :
    Code.wp Ybaf.prog (tailAt 18 (Ybaf.f3.body.getD .skip)) (bodyPost Ybaf.prog Ybaf.f3 fun e w' => e = .returned (.bool true) ∧ Below w0.heap.size w0 w') ⟨#[.int .i64 n, .int .i64 size, u2, u3, .bool false, .slice (some ⟨gs, 0, none⟩) cnt cnt, .nilIface, .slice (some ⟨gw, 0, none⟩) cnt cw, u8, u9, u10, u11, u12, u13, u14, u15, u16, u17, u18, u19, u20, u21, u22, u23, u24, u25, u26, u27, u28, u29, u30, u31, u32, u33, u34, u35, u36, u37, u38, u39, u40, u41, u42, u43, u44, u45, u46, u47, u48, u49, u50, u51, u52, u53, u54, u55, u56, u57, u58, u59, u60, u61, u62, u63, u64, u65, u66, u67, u68, u69, u70, u71, u72, u73, u74, u75, u76, u77, u78, u79, u80, u81, u82, u83, u84, u85, u86, u87, u88, u89, u90, u91, u92, u93, u94, u95, u96, u97, u98, u99, u100, u101, u102, u103, u104, u105, u106, u107, u108, u109, u110, u111, u112, u113, u114, u115, u116, u117, u118, u119, u120, u121, u122, u123, u124, u125, u126, u127, u128, u129], []⟩ w := by
  conv => arg 2; whnf
  go_wp2
  go_loopg [11, 12] cnt (fun g i y wr => ∃ I : Nat, I + g = cnt ∧ i = .int .i64 I ∧ Below w.heap.size w wr)
  case atStart => exact ⟨0, by omega, rfl, Below.refl _ _⟩
  case round =>
    obtain ⟨i, hi, rfl, hb⟩ := hrel
    by_cases hic : i < cnt
    · have hii : (i : Int) < cnt := by omega
      obtain ⟨gp, p, l1, c1, d1⟩ := B.one i hic
      obtain ⟨g, l2, c2, d2⟩ := B.two i hic
      have e1 := (hb.cell (p := ⟨gs, i, none⟩) B.gsl).trans c1
      have e2 := (hb.cell (p := ⟨gw, i, none⟩) B.gwl).trans c2
      have HI : Hid (i + gk = cnt) := hi
      clear hi
      go_wp2
      go_loopg [12] size (fun g j wx => ∃ J : Nat, J + g = size ∧ j = .int .i64 J ∧ Below w.heap.size w wx)
      case atStart => exact ⟨0, by omega, rfl, hb⟩
      case round =>
        obtain ⟨j, hj, rfl, hb'⟩ := hrel
        clear e1 e2
        by_cases hjs : j < size
        · have hji : (j : Int) < size := by omega
          have HJ : Hid (j + gk = size) := hj
          clear hj
          have e1 := (hb'.cell (p := ⟨gs, i, none⟩) B.gsl).trans c1
          have e2 := (hb'.cell (p := ⟨gw, i, none⟩) B.gwl).trans c2
          have e3 := (hb'.cell (p := ⟨gp, p + j, none⟩) l1).trans (d1 j hjs)
          have e4 := (hb'.cell (p := ⟨g, j, none⟩) l2).trans (d2 j hjs)
          clear d1 d2 c1 c2
          go_wp2
          go_quiet (fail)
          go_wp2
          have hg := HJ.out
          go_roundg (size - (j + 1))
          case rel => exact ⟨j + 1, by omega, by go_num, below_drewN hb' _⟩
          case measure => omega
        · have hji : ¬ (j : Int) < size := by omega
          clear hj
          go_wp2
          have hg := HI.out
          go_roundg (cnt - (i + 1))
          case rel => exact ⟨i + 1, by omega, by go_num, hb'⟩
          case measure => omega
    · have hii : ¬ (i : Int) < cnt := by omega
      go_wp2
      go_ret
      exact ⟨rfl, hb0.trans (hb.mono hb0.size)⟩
end Go.Proofs.YbulkdtycFmt.S
