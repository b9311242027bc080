/-
  The word of flags, bit by bit: with no Go in sight.
-/
import Derived.Test.YbulkdtzsApp
import Derived.Laws.BitsLemmas
namespace Go.Proofs.Ybulkdtzs.S

def sel (k : Nat) : Bool := k == 4 || k == 8 || (decide (11 ≤ k) && decide (k ≤ 14))

def on (fl rc k : Nat) : Bool := if k < 4 then rc.testBit k else (sel k && fl.testBit k)

def acc (fl rc : Nat) : Nat → Nat
  | 0 => 32768
  | k + 1 => if on fl rc k = true then acc fl rc k ||| 2 ^ k else acc fl rc k

theorem acc_lt (fl rc : Nat) : ∀ k, k ≤ 16 → acc fl rc k < 2 ^ 16
  | 0, _ => by simp [acc]
  | k + 1, h => by
    have ih := acc_lt fl rc k (by omega)
    have hp : 2 ^ k < 2 ^ 16 := Nat.pow_lt_pow_right (by decide) (by omega)
    rw [acc]
    split
    · exact Nat.or_lt_two_pow ih hp
    · exact ih

theorem bit_32768 (i : Nat) : (32768 : Nat).testBit i = decide (i = 15) := by
  rw [show (32768 : Nat) = 2 ^ 15 from rfl, Nat.testBit_two_pow]
  exact decide_eq_decide.2 ⟨fun h => h.symm, fun h => h.symm⟩

theorem acc_bit (fl rc i : Nat) : ∀ k, (acc fl rc k).testBit i = (decide (i = 15) || (decide (i < k) && on fl rc i))
  | 0 => by rw [acc, bit_32768]; simp
  | k + 1 => by
    have ih := acc_bit fl rc i k
    have key : (acc fl rc (k + 1)).testBit i = ((acc fl rc k).testBit i || (decide (i = k) && on fl rc i)) := by
      rw [acc]
      by_cases hik : i = k
      · subst hik
        split
        · rename_i h; rw [Nat.testBit_or, Nat.testBit_two_pow, h]; simp
        · rename_i h; rw [Bool.not_eq_true] at h; rw [h]; simp
      · split
        · rw [Nat.testBit_or, Nat.testBit_two_pow]
          have : ¬ k = i := fun e => hik e.symm
          simp [hik, this]
        · simp [hik]
    rw [key, ih]
    by_cases h1 : i < k
    · have : i < k + 1 := by omega
      have h2 : ¬ i = k := by omega
      simp [h1, this, h2]
    · by_cases h2 : i = k
      · simp [h2]
      · have : ¬ i < k + 1 := by omega
        simp [h1, this, h2]

theorem acc_all (fl rc : Nat) : acc fl rc 16 = 32768 ||| (fl &&& 30992) ||| (rc &&& 15) := by
  apply Nat.eq_of_testBit_eq
  intro i
  rw [acc_bit, Nat.testBit_or, Nat.testBit_or, Nat.testBit_and, Nat.testBit_and, bit_32768]
  by_cases hi : i < 16
  · have hc : i = 0 ∨ i = 1 ∨ i = 2 ∨ i = 3 ∨ i = 4 ∨ i = 5 ∨ i = 6 ∨ i = 7 ∨ i = 8 ∨ i = 9 ∨ i = 10 ∨ i = 11 ∨ i = 12 ∨ i = 13 ∨ i = 14 ∨ i = 15 := by omega
    rcases hc with rfl | rfl | rfl | rfl | rfl | rfl | rfl | rfl | rfl | rfl | rfl | rfl | rfl | rfl | rfl | rfl <;> simp [on, sel, Nat.testBit]
  · have h1 : (30992 : Nat).testBit i = false := Nat.testBit_lt_two_pow (Nat.lt_of_lt_of_le (show 30992 < 2 ^ 16 by decide) (Nat.pow_le_pow_right (by decide) (by omega)))
    have h2 : (15 : Nat).testBit i = false := Nat.testBit_lt_two_pow (Nat.lt_of_lt_of_le (show 15 < 2 ^ 16 by decide) (Nat.pow_le_pow_right (by decide) (by omega)))
    have h3 : ¬ i = 15 := by omega
    simp [h1, h2, h3, hi]

theorem wraps_u16 (n : Int) (h₀ : 0 ≤ n) (h₁ : n < 2 ^ 16) : IntKind.u16.wrap n = n := by
  have : IntKind.u16.wrap n = n % 65536 := by simp [IntKind.wrap, IntKind.bits, IntKind.signed]
  rw [this]; omega

theorem and16 (a b : Nat) (ha : a < 65536) (hb : b < 65536) : bits .and .u16 (a : Int) (b : Int) = ((a &&& b : Nat) : Int) := (bits_nat .u16 16 (by decide) wraps_u16 a b (by omega) (by omega)).1
theorem or16 (a b : Nat) (ha : a < 65536) (hb : b < 65536) : bits .or .u16 (a : Int) (b : Int) = ((a ||| b : Nat) : Int) := (bits_nat .u16 16 (by decide) wraps_u16 a b (by omega) (by omega)).2

theorem pow16 (k : Nat) (hk : k < 16) : 2 ^ k < 65536 := by
  have : 2 ^ k < 2 ^ 16 := Nat.pow_lt_pow_right (by decide) hk
  omega

theorem shl16 (k : Nat) (hk : k < 16) : IntKind.u16.wrap (2 ^ k) = ((2 ^ k : Nat) : Int) := by
  have h := pow16 k hk
  have e : ((2 : Int) ^ k) = ((2 ^ k : Nat) : Int) := by simp
  rw [e]
  exact wraps_u16 _ (Int.natCast_nonneg _) (by omega)

theorem and_bit (n k : Nat) : (n &&& 2 ^ k ≠ 0) ↔ n.testBit k = true := by
  constructor
  · intro h
    cases hb : n.testBit k with
    | true => rfl
    | false =>
      refine absurd (Nat.eq_of_testBit_eq fun i => ?_) h
      rw [Nat.testBit_and, Nat.testBit_two_pow, Nat.zero_testBit]
      by_cases hi : k = i
      · subst hi; simp [hb]
      · simp [hi]
  · intro h e
    have := congrArg (·.testBit k) e
    simp [Nat.testBit_and, h] at this

end Go.Proofs.Ybulkdtzs.S
