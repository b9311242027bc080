/-
  'subsets' (f4): the loop from a set to the next one.
-/
import Derived.Test.YbulkdtycFmtSub
namespace Go.Proofs.YbulkdtycFmt.S
open Go.RowKit

/-- The table of the sets: the first one, and the step from one to the next. -/
structure Table (n size cnt : Nat) (T : Nat → Nat → Nat) : Prop where
  zero : ∀ t, t < size → T 0 t = t + 1
  step : ∀ i, i + 1 < cnt → ∃ J, J < size ∧ T i J ≠ n - size + 1 + J ∧ (∀ t, J < t → t < size → T i t = n - size + 1 + t) ∧ (∀ t, t < J → T (i + 1) t = T i t) ∧ ∀ t, J ≤ t → t < size → T (i + 1) t = T i J + 1 + (t - J)
  small : ∀ i t, T i t ≤ 8192
  in_ : 1 < cnt → size ≤ n

theorem run_cut (gp C a size : Nat) (hsz : 0 < size) (h : a + size ≤ C) (w : World) : (Instr.slice 27 (.slice (some ⟨gp, 0, none⟩) C C) (some (.int .i64 (a : Int))) (some (.int .i64 ((a : Int) + (size : Int)))) (some (.int .i64 ((a : Int) + (size : Int))))).run Ybaf.prog w = .ok (.slice (some ⟨gp, a, none⟩) size size) w := by
  have he : Ybaf.prog.elem 27 = 3 := by kernel_rfl
  have hu : Ybaf.prog.underlying 27 = some (.slice (Ybaf.prog.elem 27)) := by rw [he]; exact Ybaf.underlying27
  rw [run_slice_lhm w 27 (some ⟨gp, 0, none⟩) C C hu .i64 .i64 .i64 a ((a : Int) + size) ((a : Int) + size) (by omega) (by omega) (by omega) (by omega), he]
  have e1 : ((a : Int) + (size : Int)).toNat = a + size := by omega
  have h3 : Ybaf.t3.size = 1 := by kernel_rfl
  simp [sizeOf, Result.andThen, sliced, e1, show ¬ size = 0 by omega, Addr.add, h3]
  exact Eq.symm

set_option maxRecDepth 1000000 in
set_option maxHeartbeats 4000000 in
theorem subs_tail (u2 u3 u7 u8 u11 u12 u13 u14 u15 u16 u17 u18 u19 u20 u21 u22 u23 u24 u25 u26 u27 u28 u29 u30 u31 u32 u33 u34 u35 u36 u37 u38 u39 u40 u41 u42 u43 u44 u45 u46 u47 u48 u49 u50 u51 u52 u53 u54 u55 u56 u57 u58 u59 u60 u61 u62 u63 u64 u65 u66 u67 u68 u69 u70 u71 u72 u73 u74 u75 u76 u77 u78 u79 u80 u81 u82 u83 u84 u85 u86 u87 u88 u89 u90 u91 u92 u93 u94 u95 u96 u97 u98 u99 u100 u101 u102 u103 u104 u105 u106 u107 u108 u109 u110 u111 u112 u113 u114 u115 u116 u117 u118 u119 u120 u121 u122 u123 u124 u125 : Value) (n size cnt C : Nat) (T : Nat → Nat → Nat) (w w1 : World) (hn : n ≤ 4096) (hs : size ≤ 4096) (hc1 : 1 ≤ cnt) (hc : cnt ≤ 1048576) (HC : Hid (C = cnt * size)) (hCle : C ≤ 16777216) (HT : Table n size cnt T) (S1 : Sub w w1 size cnt 1 T) :
    Code.wp Ybaf.prog (tailAt 15 (Ybaf.f4.body.getD .skip)) (bodyPost Ybaf.prog Ybaf.f4 fun e w' => e = .returned (.tuple #[.slice (some ⟨w.heap.size + 1, 0, none⟩) cnt cnt, .nilIface]) ∧ Sub w w' size cnt cnt T) ⟨#[.int .i64 n, .int .i64 size, u2, u3, .slice none 0 0, .nilIface, .int .i64 cnt, u7, u8, .slice (some ⟨w.heap.size, 0, none⟩) C C, .slice (some ⟨w.heap.size + 1, 0, none⟩) cnt cnt, u11, u12, u13, u14, u15, u16, u17, u18, u19, u20, u21, u22, u23, u24, u25, u26, u27, u28, u29, u30, u31, u32, u33, u34, u35, u36, u37, u38, u39, u40, u41, u42, u43, u44, u45, u46, u47, u48, u49, u50, u51, u52, u53, u54, u55, u56, u57, u58, u59, u60, u61, u62, u63, u64, u65, u66, u67, u68, u69, u70, u71, u72, u73, u74, u75, u76, u77, u78, u79, u80, u81, u82, u83, u84, u85, u86, u87, u88, u89, u90, u91, u92, u93, u94, u95, u96, u97, u98, u99, u100, u101, u102, u103, u104, u105, u106, u107, u108, u109, u110, u111, u112, u113, u114, u115, u116, u117, u118, u119, u120, u121, u122, u123, u124, u125], []⟩ w1 := by
  conv => arg 2; whnf
  go_wp2
  go_loopg [12, 13, 14] cnt (fun g i y z wr => ∃ I : Nat, I + g = cnt ∧ I + 1 ≤ cnt ∧ i = .int .i64 ((I : Int) + 1) ∧ Sub w wr size cnt (I + 1) T)
  case atStart => exact ⟨0, by omega, by omega, rfl, S1⟩
  case round =>
    obtain ⟨i, hi, hi1, rfl, S⟩ := hrel
    clear S1
    by_cases hic : i + 1 < cnt
    · have hici : (i : Int) + 1 < cnt := by omega
      obtain ⟨J, hJ, hst⟩ := HT.step i hic
      have HS : Hid (T i J ≠ n - size + 1 + J ∧ (∀ t, J < t → t < size → T i t = n - size + 1 + t) ∧ (∀ t, t < J → T (i + 1) t = T i t) ∧ ∀ t, J ≤ t → t < size → T (i + 1) t = T i J + 1 + (t - J)) := hst
      clear hst
      obtain ⟨a, ha⟩ : ∃ a, a = (i + 1) * size := ⟨_, rfl⟩
      obtain ⟨p, hp⟩ : ∃ p, p = i * size := ⟨_, rfl⟩
      have hm1 : ((i : Int) + 1) * (size : Int) = (a : Int) := by rw [ha, Int.natCast_mul]; rfl
      have hm2 : ((i : Int) + 1 + 1) * (size : Int) = (a : Int) + (size : Int) := by rw [Int.add_mul ((i : Int) + 1), hm1, Int.one_mul]
      have haC : a + size ≤ C := by
        rw [HC.out, ha]
        have := Nat.mul_le_mul_right size (show i + 1 + 1 ≤ cnt by omega)
        rw [Nat.add_mul (i + 1)] at this
        omega
      obtain ⟨w5, hcp, M5⟩ := S.copied hic
      have hset := S.set_cell i (by omega) (by omega)
      simp only [cut, ← ha, ← hp] at hcp hset
      have hcut := run_cut w.heap.size C a size (by omega) haC
      have HA : Hid (a = (i + 1) * size) := ha
      clear ha hp S
      have hsn := HT.in_ (by omega)
      have hsm := HT.small i
      have hsm2 := HT.small (i + 1)
      go_wp2
      clear hcp hset hcut hm1 hm2
      go_loopg [14] (size - 1 - J) (fun g j wx => ∃ q : Nat, q = J + g ∧ q < size ∧ j = .int .i64 q ∧ wx = w5)
      case atStart => exact ⟨size - 1, by omega, by omega, by congr 1; omega, rfl⟩
      case round =>
        obtain ⟨q, hq, hqs, rfl, rfl⟩ := hrel
        have c1 := M5.cell q hqs (Nat.le_refl _) hic
        rw [← HA.out] at c1
        simp only [iv] at c1
        have hqi : (q : Int) < size := by omega
        have hb1 := hsm q
        cases gk with
        | succ g =>
          obtain ⟨q, rfl⟩ : ∃ q', q = q' + 1 := ⟨q - 1, by omega⟩
          have HQ : Hid (q = J + g) := (show q = J + g by omega)
          have hJq : J ≤ q := by omega
          clear hq
          have htst : (((T i (q + 1) : Nat) : Int) == (n : Int) - (size : Int) + 1 + ((q : Int) + 1)) = true := by
            have := HS.out.2.1 (q + 1) (by omega) hqs
            rw [beq_iff_eq]
            omega
          go_wp2
          go_roundg g
          case rel => exact ⟨q, HQ.out, by omega, by go_num, rfl⟩
          case measure => omega
        | zero =>
          obtain rfl : q = J := by omega
          clear hq
          have htst : (((T i q : Nat) : Int) == (n : Int) - (size : Int) + 1 + (q : Int)) = false := by
            have := HS.out.1
            rw [beq_eq_false_iff_ne]
            omega
          have hf1 := M5.frozen (a + q)
          go_wp2
          have M6 := M5.put (r' := T (i + 1)) q (by omega) (fun s hs => HS.out.2.2.1 s hs)
          rw [← HA.out, HS.out.2.2.2 q (Nat.le_refl _) hqs, Nat.sub_self, Nat.add_zero] at M6
          have M7 : Mid w (World.setCell _ ⟨w.heap.size, a + q, none⟩ (.int .i64 ((T i q : Int) + 1))) size cnt (i + 1) T (T (i + 1)) (q + 1) := M6
          clear M6 M5 c1 hf1 htst
          generalize World.setCell _ ⟨w.heap.size, a + q, none⟩ (.int .i64 ((T i q : Int) + 1)) = w6 at M7 ⊢
          go_loopg [14] (size - (q + 1)) (fun g j wx => ∃ s : Nat, s + 1 + g = size ∧ q ≤ s ∧ j = .int .i64 ((s : Int) + 1) ∧ Mid w wx size cnt (i + 1) T (T (i + 1)) (s + 1))
          case atStart => exact ⟨q, by omega, Nat.le_refl _, rfl, M7⟩
          case round =>
            obtain ⟨s, hsg, hqs', rfl, M8⟩ := hrel
            clear M7
            by_cases hss : s + 1 < size
            · have hssi : (s : Int) + 1 < size := by omega
              have d1 := M8.cell s (by omega) (by omega) hic
              obtain ⟨v9, hv9⟩ := M8.any_cell (s + 1) hss hic
              rw [← HA.out] at d1 hv9
              simp only [iv] at d1
              have hf9 := M8.frozen (a + (s + 1))
              have hb2 := hsm2 s
              have HG : Hid (s + 1 + gk = size) := hsg
              clear hsg
              go_wp2
              have hval : T (i + 1) (s + 1) = T (i + 1) s + 1 := by
                have e1 := HS.out.2.2.2 s hqs' (by omega)
                have e2 := HS.out.2.2.2 (s + 1) (by omega) hss
                omega
              have M9 := M8.put (r' := T (i + 1)) (s + 1) (Nat.le_refl _) (fun _ _ => rfl)
              rw [← HA.out, hval] at M9
              have hgg := HG.out
              go_roundg (size - (s + 1 + 1))
              case rel => exact ⟨s + 1, by omega, by omega, by go_num, M9⟩
              case measure => omega
            · have hssi : ¬ (s : Int) + 1 < size := by omega
              have hsle : s + 1 ≤ size := by omega
              clear hsg
              obtain ⟨v9, hv9⟩ := M8.set_any hic
              have hf9 := M8.set_frozen (i + 1)
              go_wp2
              have hfull : s + 1 = size := by omega
              rw [hfull] at M8
              have S9 := M8.whole (fun _ _ => rfl) hic
              simp only [cut] at S9
              rw [← HA.out] at S9
              go_roundg (cnt - (i + 1))
              case rel => exact ⟨i + 1, by omega, by omega, by go_num, S9⟩
              case measure => omega
    · have hici : ¬ (i : Int) + 1 < cnt := by omega
      obtain rfl : cnt = i + 1 := by omega
      go_wp2
      go_ret2
      exact ⟨rfl, S⟩
end Go.Proofs.YbulkdtycFmt.S
