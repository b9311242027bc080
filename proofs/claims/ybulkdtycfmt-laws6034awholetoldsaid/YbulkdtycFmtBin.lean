/-
  'binomial' (f8) by its contracts.
-/
import Derived.Test.YbulkdtycFmtComb
import Derived.WalkKit
import Derived.WalkSpells
import Derived.Below
import Derived.Deep.LoopGhost
namespace Go.Proofs.YbulkdtycFmt.S
open Go.RowKit

set_option maxRecDepth 100000 in
set_option maxHeartbeats 2000000 in
theorem bin_over (n k : Nat) (h : n < k) (hk : k ≤ 4096) (w : World) :
    Calls Ybaf.prog 8 #[.int .i64 n, .int .i64 k, .int .i64 1048576] w fun e w' => e = .returned (.tuple #[.int .i64 1, .bool true]) ∧ w' = w := by
  go_enter Ybaf.func8, Ybaf.ntmps8
  go_wp2
  refine wp_loop_rounds 1 ?_
  rw [rounds_succ]
  go_wp2
  go_ret2
  exact ⟨rfl, rfl⟩

set_option maxRecDepth 100000 in
set_option maxHeartbeats 2000000 in
theorem bin_in (n k : Nat) (hkn : k ≤ n) (hn : n ≤ 4096) (w : World) :
    Calls Ybaf.prog 8 #[.int .i64 n, .int .i64 k, .int .i64 1048576] w fun e w' => (ch n k ≤ 1048576 → e = .returned (.tuple #[.int .i64 (ch n k), .bool true])) ∧ (1048576 < ch n k → e = .returned (.tuple #[.int .i64 0, .bool false])) ∧ w' = w := by
  by_cases hk : 2 * k ≤ n
  · go_enter Ybaf.func8, Ybaf.ntmps8
    go_wp2
    obtain ⟨K, hK⟩ : ∃ K, K = k := ⟨_, rfl⟩
    have eK : (k : Int) = (K : Int) := by omega
    rw [eK]
    have hch : ch n K = ch n k := by rw [hK]
    have h2K : 2 * K ≤ n := by omega
    have hkn' := hkn
    clear hK eK hk
    go_loopg [8, 9, 16] K (fun g c y i wr => ∃ j : Nat, j + g = K ∧ i = .int .i64 j ∧ c = .int .i64 (ch n j) ∧ ch n j ≤ 1048576 ∧ wr = w)
    case atStart => exact ⟨0, by omega, rfl, by rw [ch_zero]; rfl, by rw [ch_zero]; decide, rfl⟩
    case round =>
      obtain ⟨j, hj, rfl, rfl, hc, rfl⟩ := hrel
      by_cases hjK : j < K
      · have hji : (j : Int) < K := by omega
        have hq : (ch n j : Int) * ((n : Int) - j) = ((ch n j * (n - j) : Nat) : Int) := by rw [Int.natCast_mul, Int.ofNat_sub (by omega)]
        have hqle : ch n j * (n - j) ≤ 1048576 * 4096 := Nat.mul_le_mul hc (by omega)
        have hq1 : (ch n j : Int) * ((n : Int) - j) ≤ 9223372036854775807 := by omega
        have hq0 : 0 ≤ (ch n j : Int) * ((n : Int) - j) := by omega
        have hqq : ((ch n j : Int) * ((n : Int) - j)) / ((j : Int) + 1) = (ch n (j + 1) : Int) := by rw [hq, ← ch_quot n j]; rfl
        have hqt : Int.tdiv ((ch n j : Int) * ((n : Int) - j)) ((j : Int) + 1) = (ch n (j + 1) : Int) := by rw [Int.tdiv_eq_ediv_of_nonneg hq0, hqq]
        have hne : ((j : Int) + 1) ≠ 0 := by omega
        have hup := ch_le n (j + 1) K (by omega) h2K
        clear hq
        have hbig : (ch n (j + 1) : Int) ≤ 4294967296 := by have := Nat.div_le_self (ch n j * (n - j)) (j + 1); rw [ch_quot] at this; omega
        by_cases hlim : ch n (j + 1) ≤ 1048576
        · have hlim' : ¬ (1048576 : Int) < (ch n (j + 1) : Int) := by omega
          go_wp2
          go_roundg (K - (j + 1))
          case rel => exact ⟨j + 1, by omega, by go_num, rfl, hlim, rfl⟩
          case measure => omega
        · have hlim' : (1048576 : Int) < (ch n (j + 1) : Int) := by omega
          go_wp2
          go_ret2
          exact ⟨fun hh => absurd (hch ▸ hup) (by omega), fun _ => rfl, rfl⟩
      · have hji : ¬ (j : Int) < K := by omega
        obtain rfl : j = K := by omega
        rw [hch] at hc
        have HC : Hid (ch n k ≤ 1048576) := hc
        clear hc
        go_wp2
        go_ret2
        exact ⟨fun _ => by rw [← hch]; rfl, fun hh => absurd HC.out (by omega), rfl⟩

  · go_enter Ybaf.func8, Ybaf.ntmps8
    go_wp2
    obtain ⟨K, hK⟩ : ∃ K, K = n - k := ⟨_, rfl⟩
    have eK : (n : Int) - k = (K : Int) := by omega
    rw [eK]
    have hch : ch n K = ch n k := by rw [hK, ← ch_symm n k hkn]
    have h2K : 2 * K ≤ n := by omega
    have hkn' := hkn
    clear hK eK hk
    go_loopg [8, 9, 16] K (fun g c y i wr => ∃ j : Nat, j + g = K ∧ i = .int .i64 j ∧ c = .int .i64 (ch n j) ∧ ch n j ≤ 1048576 ∧ wr = w)
    case atStart => exact ⟨0, by omega, rfl, by rw [ch_zero]; rfl, by rw [ch_zero]; decide, rfl⟩
    case round =>
      obtain ⟨j, hj, rfl, rfl, hc, rfl⟩ := hrel
      by_cases hjK : j < K
      · have hji : (j : Int) < K := by omega
        have hq : (ch n j : Int) * ((n : Int) - j) = ((ch n j * (n - j) : Nat) : Int) := by rw [Int.natCast_mul, Int.ofNat_sub (by omega)]
        have hqle : ch n j * (n - j) ≤ 1048576 * 4096 := Nat.mul_le_mul hc (by omega)
        have hq1 : (ch n j : Int) * ((n : Int) - j) ≤ 9223372036854775807 := by omega
        have hq0 : 0 ≤ (ch n j : Int) * ((n : Int) - j) := by omega
        have hqq : ((ch n j : Int) * ((n : Int) - j)) / ((j : Int) + 1) = (ch n (j + 1) : Int) := by rw [hq, ← ch_quot n j]; rfl
        have hqt : Int.tdiv ((ch n j : Int) * ((n : Int) - j)) ((j : Int) + 1) = (ch n (j + 1) : Int) := by rw [Int.tdiv_eq_ediv_of_nonneg hq0, hqq]
        have hne : ((j : Int) + 1) ≠ 0 := by omega
        have hup := ch_le n (j + 1) K (by omega) h2K
        clear hq
        have hbig : (ch n (j + 1) : Int) ≤ 4294967296 := by have := Nat.div_le_self (ch n j * (n - j)) (j + 1); rw [ch_quot] at this; omega
        by_cases hlim : ch n (j + 1) ≤ 1048576
        · have hlim' : ¬ (1048576 : Int) < (ch n (j + 1) : Int) := by omega
          go_wp2
          go_roundg (K - (j + 1))
          case rel => exact ⟨j + 1, by omega, by go_num, rfl, hlim, rfl⟩
          case measure => omega
        · have hlim' : (1048576 : Int) < (ch n (j + 1) : Int) := by omega
          go_wp2
          go_ret2
          exact ⟨fun hh => absurd (hch ▸ hup) (by omega), fun _ => rfl, rfl⟩
      · have hji : ¬ (j : Int) < K := by omega
        obtain rfl : j = K := by omega
        rw [hch] at hc
        have HC : Hid (ch n k ≤ 1048576) := hc
        clear hc
        go_wp2
        go_ret2
        exact ⟨fun _ => by rw [← hch]; rfl, fun hh => absurd HC.out (by omega), rfl⟩

end Go.Proofs.YbulkdtycFmt.S
