/-
  'zzs6037bheader' (f5): the twelve bytes, the word of flags bit by bit.
-/
import Derived.Test.YbulkdtzsWord
import Derived.Deep.LoopGhost
namespace Go.Proofs.Ybulkdtzs.S
open Go.RowKit

theorem and_off (n k p : Nat) (hn : n < 65536) (hk : k < 16) (hp : p = 2 ^ k) (h : n.testBit k = false) : bits .and .u16 (n : Int) (p : Int) = 0 := by
  subst hp
  rw [and16 n _ hn (pow16 k hk)]
  have : n &&& 2 ^ k = 0 := by
    rcases Nat.eq_zero_or_pos (n &&& 2 ^ k) with e | e
    · exact e
    · have := (and_bit n k).1 (by omega)
      rw [h] at this
      cases this
  rw [this]
  rfl

theorem and_on (n k p : Nat) (hn : n < 65536) (hk : k < 16) (hp : p = 2 ^ k) (h : n.testBit k = true) : (bits .and .u16 (n : Int) (p : Int) != 0) = true := by
  subst hp
  rw [and16 n _ hn (pow16 k hk)]
  have := (and_bit n k).2 h
  simpa using this

theorem or_on (fl rc k p : Nat) (hk : k < 16) (hp : p = 2 ^ k) (h : on fl rc k = true) : bits .or .u16 (acc fl rc k : Int) (p : Int) = (acc fl rc (k + 1) : Int) := by
  subst hp
  rw [or16 _ _ (acc_lt fl rc k (by omega)) (pow16 k hk), acc, if_pos h]

theorem acc_off (fl rc k : Nat) (h : on fl rc k = false) : acc fl rc (k + 1) = acc fl rc k := by
  rw [acc, if_neg (by simp [h])]

theorem shl_at (k : Nat) (hk : k < 16) : ∃ p : Nat, IntKind.u16.wrap (2 ^ k) = (p : Int) ∧ p = 2 ^ k := ⟨2 ^ k, shl16 k hk, rfl⟩

set_option maxRecDepth 100000 in
set_option maxHeartbeats 2000000 in
theorem head_any (id fl rc : Nat) (h0 : id < 65536) (h1 : fl < 65536) (h2 : rc < 65536) (w : World) :
    Calls Yba.prog 5 #[.int .u16 id, .int .u16 fl, .int .u16 rc] w fun e w' => e = .returned (.agg #[.int .u8 ((id : Int) / 256), .int .u8 ((id : Int) % 256), .int .u8 ((acc fl rc 16 : Int) / 256), .int .u8 ((acc fl rc 16 : Int) % 256), .int .u8 0, .int .u8 0, .int .u8 0, .int .u8 0, .int .u8 0, .int .u8 0, .int .u8 0, .int .u8 0]) ∧ Below w.heap.size w w' := by
  go_enter Yba.func5, Yba.ntmps5
  go_wp2
  go_loopg [7, 8, 9] 16 (fun g x i y wr => ∃ k : Nat, k + g = 16 ∧ x = .int .u16 (acc fl rc k) ∧ i = .int .i64 k ∧ wr = w.alloc (.cells #[.int .u8 0, .int .u8 0, .int .u8 0, .int .u8 0, .int .u8 0, .int .u8 0, .int .u8 0, .int .u8 0, .int .u8 0, .int .u8 0, .int .u8 0, .int .u8 0] 32))
  case atStart => exact ⟨0, by omega, rfl, rfl, rfl⟩
  case round =>
    obtain ⟨k, hk, rfl, rfl, rfl⟩ := hrel
    by_cases hlt : k < 16
    · have hki : (k : Int) < 16 := by omega
      by_cases hk4 : k < 4
      · have hk4i : (k : Int) < 4 := by omega
        obtain ⟨p, hp, hpv⟩ := shl_at k hlt
        cases hb : rc.testBit k
        · have e1 := and_off rc k p h2 hlt hpv hb
          have e2 := acc_off fl rc k (by simp [on, hk4, hb])
          clear hpv hb
          go_wp2
          go_roundg (16 - (k + 1))
          case rel => exact ⟨k + 1, by omega, by rw [e2], by go_num, rfl⟩
          case measure => omega
        · have e1 := and_on rc k p h2 hlt hpv hb
          have e2 := or_on fl rc k p hlt hpv (by simp [on, hk4, hb])
          clear hpv hb
          go_wp2
          go_roundg (16 - (k + 1))
          case rel => exact ⟨k + 1, by omega, rfl, by go_num, rfl⟩
          case measure => omega
      · have hk4i : ¬ (k : Int) < 4 := by omega
        have hcl : k = 4 ∨ k = 8 ∨ (11 ≤ k ∧ k ≤ 14) ∨ (k ≠ 4 ∧ k ≠ 8 ∧ k < 11) ∨ k = 15 := by omega
        rcases hcl with hc | hc | ⟨ha, hz⟩ | ⟨n4, n8, hc⟩ | hc
        · obtain rfl := hc
          cases hb : fl.testBit 4
          · have e1 : bits .and .u16 (fl : Int) 16 = 0 := and_off fl 4 16 h1 hlt rfl hb
            have e2 := acc_off fl rc 4 (by simp [on, hb])
            clear hb
            go_wp2
            go_roundg (16 - (4 + 1))
            case rel => exact ⟨4 + 1, by omega, by rw [e2], by go_num, rfl⟩
            case measure => omega
          · have e1 : (bits .and .u16 (fl : Int) 16 != 0) = true := and_on fl 4 16 h1 hlt rfl hb
            have e2 : bits .or .u16 (acc fl rc 4 : Int) 16 = (acc fl rc (4 + 1) : Int) := or_on fl rc 4 16 hlt rfl (by simp [on, sel, hb])
            clear hb
            go_wp2
            go_roundg (16 - (4 + 1))
            case rel => exact ⟨4 + 1, by omega, rfl, by go_num, rfl⟩
            case measure => omega
        · obtain rfl := hc
          cases hb : fl.testBit 8
          · have e1 : bits .and .u16 (fl : Int) 256 = 0 := and_off fl 8 256 h1 hlt rfl hb
            have e2 := acc_off fl rc 8 (by simp [on, hb])
            clear hb
            go_wp2
            go_roundg (16 - (8 + 1))
            case rel => exact ⟨8 + 1, by omega, by rw [e2], by go_num, rfl⟩
            case measure => omega
          · have e1 : (bits .and .u16 (fl : Int) 256 != 0) = true := and_on fl 8 256 h1 hlt rfl hb
            have e2 : bits .or .u16 (acc fl rc 8 : Int) 256 = (acc fl rc (8 + 1) : Int) := or_on fl rc 8 256 hlt rfl (by simp [on, sel, hb])
            clear hb
            go_wp2
            go_roundg (16 - (8 + 1))
            case rel => exact ⟨8 + 1, by omega, rfl, by go_num, rfl⟩
            case measure => omega
        · have n4 : ¬ (k : Int) = 4 := by omega
          have n8 : ¬ (k : Int) = 8 := by omega
          have hai : (11 : Int) ≤ (k : Int) := by omega
          have hzi : (k : Int) ≤ 14 := by omega
          have hs : sel k = true := by simp [sel, ha, hz]
          obtain ⟨p, hp, hpv⟩ := shl_at k hlt
          cases hb : fl.testBit k
          · have e1 := and_off fl k p h1 hlt hpv hb
            have e2 := acc_off fl rc k (by simp [on, hk4, hb])
            clear hpv hb hs
            go_wp2
            go_roundg (16 - (k + 1))
            case rel => exact ⟨k + 1, by omega, by rw [e2], by go_num, rfl⟩
            case measure => omega
          · have e1 := and_on fl k p h1 hlt hpv hb
            have e2 := or_on fl rc k p hlt hpv (by simp [on, hk4, hb, hs])
            clear hpv hb hs
            go_wp2
            go_roundg (16 - (k + 1))
            case rel => exact ⟨k + 1, by omega, rfl, by go_num, rfl⟩
            case measure => omega
        · have n4i : ¬ (k : Int) = 4 := by omega
          have n8i : ¬ (k : Int) = 8 := by omega
          have hai : (k : Int) < 11 := by omega
          have e4 : ((k : Int) == 4) = false := by simpa using n4i
          have e8 : ((k : Int) == 8) = false := by simpa using n8i
          have hdd : decide ((11 : Int) ≤ (k : Int)) = false := decide_eq_false (by omega)
          have ha : ¬ 11 ≤ k := by omega
          have e2 := acc_off fl rc k (by simp [on, sel, hk4, n4, n8, ha])
          go_wp2
          go_roundg (16 - (k + 1))
          case rel => exact ⟨k + 1, by omega, by rw [e2], by go_num, rfl⟩
          case measure => omega
        · obtain rfl := hc
          have e2 := acc_off fl rc 15 (by simp [on, sel])
          go_wp2
          go_roundg (16 - (15 + 1))
          case rel => exact ⟨15 + 1, by omega, by rw [e2], by go_num, rfl⟩
          case measure => omega
    · have hki : ¬ (k : Int) < 16 := by omega
      obtain rfl : k = 16 := by omega
      have ha := acc_lt fl rc 16 (by omega)
      obtain ⟨A, hA⟩ : ∃ A : Nat, acc fl rc 16 = A := ⟨_, rfl⟩
      rw [hA] at ha
      have hAi : (A : Int) < 65536 := by omega
      have hd : (A : Int) / 256 % 256 = (A : Int) / 256 := by omega
      rw [hA]
      go_wp2
      refine bodyPost_ret (by simp [results, Yba.results5, go_sem]; try rfl) rfl ?_
      exact ⟨rfl, (Below.refl _ _).alloc (Nat.le_refl _) _⟩
end Go.Proofs.Ybulkdtzs.S
