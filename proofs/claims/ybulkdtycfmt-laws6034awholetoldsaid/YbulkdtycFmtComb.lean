/-
  The plain law: binomial numbers, the list of the m-element sets in lexicographic order, and its step from a set to the next one. No Go here.
-/
import Derived.Test.YbulkdtycFmtRows
namespace Go.Proofs.YbulkdtycFmt.S

/-- C(n, k) by Pascal's rule. -/
def ch : Nat → Nat → Nat
  | _, 0 => 1
  | 0, _ + 1 => 0
  | n + 1, k + 1 => ch n k + ch n (k + 1)

theorem ch_zero (n : Nat) : ch n 0 = 1 := by cases n <;> rfl

theorem ch_gt : ∀ (n k : Nat), n < k → ch n k = 0
  | 0, k + 1, _ => rfl
  | n + 1, k + 1, h => by
    show ch n k + ch n (k + 1) = 0
    rw [ch_gt n k (by omega), ch_gt n (k + 1) (by omega)]

theorem ch_self : ∀ n, ch n n = 1
  | 0 => rfl
  | n + 1 => by
    show ch n n + ch n (n + 1) = 1
    rw [ch_self n, ch_gt n (n + 1) (by omega)]

theorem ch_step : ∀ (n k : Nat), ch n (k + 1) * (k + 1) = ch n k * (n - k)
  | 0, k => by simp [ch]
  | n + 1, 0 => by
    have h := ch_step n 0
    show (ch n 0 + ch n 1) * 1 = ch (n + 1) 0 * (n + 1 - 0)
    simp [ch_zero] at h ⊢
    omega
  | n + 1, k + 1 => by
    have h1 := ch_step n k
    have h2 := ch_step n (k + 1)
    show (ch n (k + 1) + ch n (k + 1 + 1)) * (k + 1 + 1) = (ch n k + ch n (k + 1)) * (n + 1 - (k + 1))
    rw [Nat.add_mul, Nat.add_mul, h2, Nat.add_sub_add_right, ← h1]
    by_cases h : k + 1 ≤ n
    · rw [← Nat.mul_add, ← Nat.mul_add]
      congr 1
      omega
    · rw [ch_gt n (k + 1) (by omega)]
      simp

theorem ch_symm : ∀ (n k : Nat), k ≤ n → ch n k = ch n (n - k)
  | n, 0, _ => by simp [ch_zero, ch_self]
  | n + 1, k + 1, h => by
    rw [Nat.add_sub_add_right]
    by_cases hk : k = n
    · subst hk
      simp [ch_self, ch_zero]
    · obtain ⟨m, hm⟩ : ∃ m, n - k = m + 1 := ⟨n - k - 1, by omega⟩
      rw [hm]
      show ch n k + ch n (k + 1) = ch n m + ch n (m + 1)
      rw [ch_symm n k (by omega), ch_symm n (k + 1) (by omega), hm, show n - (k + 1) = m by omega]
      omega

theorem ch_up (n i : Nat) (h : 2 * (i + 1) ≤ n + 1) : ch n i ≤ ch n (i + 1) := by
  have h1 := ch_step n i
  have h2 : ch n i * (i + 1) ≤ ch n i * (n - i) := Nat.mul_le_mul_left _ (by omega)
  exact Nat.le_of_mul_le_mul_right (by omega : ch n i * (i + 1) ≤ ch n (i + 1) * (i + 1)) (by omega)

theorem ch_le (n i : Nat) : ∀ k, i ≤ k → 2 * k ≤ n → ch n i ≤ ch n k
  | 0, h, _ => by
    obtain rfl : i = 0 := by omega
    exact Nat.le_refl _
  | k + 1, h, hk => by
    by_cases e : i = k + 1
    · subst e
      exact Nat.le_refl _
    · exact Nat.le_trans (ch_le n i k (by omega) (by omega)) (ch_up n k (by omega))

theorem ch_pos : ∀ (n k : Nat), k ≤ n → 0 < ch n k
  | n, 0, _ => by rw [ch_zero]; decide
  | n + 1, k + 1, h => by
    show 0 < ch n k + ch n (k + 1)
    have := ch_pos n k (by omega)
    omega

/-- What the quotient gives. -/
theorem ch_quot (n i : Nat) : ch n i * (n - i) / (i + 1) = ch n (i + 1) := by
  rw [← ch_step, Nat.mul_div_cancel _ (by omega)]

/-- The smaller of the two. -/
theorem ch_min (n k : Nat) (h : k ≤ n) : ch n (min k (n - k)) = ch n k := by
  by_cases hk : k ≤ n - k
  · rw [Nat.min_eq_left hk]
  · rw [Nat.min_eq_right (by omega), ← ch_symm n k h]

/-- The m-element sets among the last d of 1..n, in lexicographic order. -/
def comb (n : Nat) : Nat → Nat → List (List Nat)
  | _, 0 => [[]]
  | 0, _ + 1 => []
  | d + 1, m + 1 => (comb n d m).map (List.cons (n - d)) ++ comb n d (m + 1)

theorem comb_zero (n d : Nat) : comb n d 0 = [[]] := by cases d <;> rfl

theorem comb_succ (n d m : Nat) : comb n (d + 1) (m + 1) = (comb n d m).map (List.cons (n - d)) ++ comb n d (m + 1) := rfl

theorem comb_length (n : Nat) : ∀ (d m : Nat), (comb n d m).length = ch d m
  | d, 0 => by rw [comb_zero, ch_zero]; rfl
  | 0, _ + 1 => rfl
  | d + 1, m + 1 => by
    rw [comb_succ]
    simp [comb_length n d m, comb_length n d (m + 1), ch]

theorem comb_nil (n d m : Nat) (h : d < m) : comb n d m = [] := by
  apply List.eq_nil_of_length_eq_zero
  rw [comb_length, ch_gt d m h]

theorem comb_some {n d m i : Nat} {a : List Nat} (h : (comb n d m)[i]? = some a) : m ≤ d := by
  rcases Nat.lt_or_ge d m with h1 | h1
  · rw [comb_nil n d m h1] at h
    simp at h
  · exact h1

theorem comb_len (n : Nat) : ∀ (d m : Nat) (l : List Nat), l ∈ comb n d m → l.length = m
  | d, 0, l, h => by
    rw [comb_zero] at h
    simp at h
    subst h
    rfl
  | 0, _ + 1, l, h => by cases h
  | d + 1, m + 1, l, h => by
    rw [comb_succ, List.mem_append] at h
    rcases h with h | h
    · obtain ⟨l', h1, rfl⟩ := List.mem_map.1 h
      simp [comb_len n d m l' h1]
    · exact comb_len n d (m + 1) l h

theorem comb_head (n : Nat) : ∀ (d m : Nat), m ≤ d → d ≤ n → (comb n d m)[0]? = some (List.range' (n - d + 1) m)
  | d, 0, _, _ => by rw [comb_zero]; rfl
  | d + 1, m + 1, h, hn => by
    rw [comb_succ]
    have h1 := comb_head n d m (by omega) (by omega)
    have h2 : 0 < (comb n d m).length := by rw [comb_length]; exact ch_pos d m (by omega)
    rw [List.getElem?_append_left (by simpa using h2), List.getElem?_map, h1]
    simp [List.range'_succ]
    omega

theorem comb_last (n : Nat) : ∀ (d m i : Nat) (a : List Nat), d ≤ n → (comb n d m)[i]? = some a → i + 1 = (comb n d m).length → a = List.range' (n - m + 1) m
  | d, 0, i, a, _, h, hl => by
    rw [comb_zero] at h hl
    simp at hl
    subst hl
    simp at h
    subst h
    rfl
  | 0, _ + 1, i, a, _, h, hl => by simp [comb] at h
  | d + 1, m + 1, i, a, hn, h, hl => by
    have hm := comb_some h
    rw [comb_succ] at h hl
    simp only [List.length_append, List.length_map] at hl
    by_cases hd : m + 1 ≤ d
    · have h2 : 0 < (comb n d (m + 1)).length := by rw [comb_length]; exact ch_pos d (m + 1) hd
      rw [List.getElem?_append_right (by simp; omega)] at h
      exact comb_last n d (m + 1) _ a (by omega) h (by simp; omega)
    · rw [comb_nil n d (m + 1) (by omega)] at h hl
      simp only [List.append_nil, List.length_nil, Nat.add_zero] at h hl
      rw [List.getElem?_map] at h
      obtain ⟨a', h1, rfl⟩ := Option.map_eq_some_iff.1 h
      rw [comb_last n d m i a' (by omega) h1 hl, List.range'_succ]
      congr 1
      · omega
      · congr 1
        omega

/-- b comes right after a: the last place j of a that can still rise. -/
structure Next (n m : Nat) (a b : List Nat) (j : Nat) : Prop where
  lt : j < m
  stop : a.getD j 0 ≠ n - m + 1 + j
  top : ∀ t, j < t → t < m → a.getD t 0 = n - m + 1 + t
  eq : b = a.take j ++ List.range' (a.getD j 0 + 1) (m - j)

theorem comb_next (n : Nat) : ∀ (d m i : Nat) (a b : List Nat), d ≤ n → (comb n d m)[i]? = some a → (comb n d m)[i + 1]? = some b → ∃ j, Next n m a b j
  | d, 0, i, a, b, _, ha, hb => by
    rw [comb_zero] at hb
    simp at hb
  | 0, _ + 1, i, a, b, _, ha, hb => by simp [comb] at ha
  | d + 1, m + 1, i, a, b, hn, ha, hb => by
    have hm := comb_some ha
    rw [comb_succ] at ha hb
    rcases Nat.lt_trichotomy (i + 1) (comb n d m).length with h | h | h
    · rw [List.getElem?_append_left (by simp; omega), List.getElem?_map] at ha hb
      obtain ⟨a', ha', rfl⟩ := Option.map_eq_some_iff.1 ha
      obtain ⟨b', hb', rfl⟩ := Option.map_eq_some_iff.1 hb
      obtain ⟨j, h1, h2, h3, h4⟩ := comb_next n d m i a' b' (by omega) ha' hb'
      refine ⟨j + 1, by omega, ?_, fun t ht htm => ?_, ?_⟩
      · simp only [List.getD_cons_succ]
        omega
      · obtain ⟨t, rfl⟩ : ∃ t', t = t' + 1 := ⟨t - 1, by omega⟩
        simp only [List.getD_cons_succ]
        rw [h3 t (by omega) (by omega)]
        omega
      · rw [h4]
        simp
    · rw [List.getElem?_append_left (by simp; omega), List.getElem?_map] at ha
      obtain ⟨a', ha', rfl⟩ := Option.map_eq_some_iff.1 ha
      rw [List.getElem?_append_right (by simp; omega)] at hb
      have hz : i + 1 - (List.map (List.cons (n - d)) (comb n d m)).length = 0 := by simp; omega
      rw [hz] at hb
      have hd := comb_some hb
      rw [comb_head n d (m + 1) hd (by omega)] at hb
      have hl := comb_last n d m i a' (by omega) ha' h
      refine ⟨0, by omega, ?_, fun t ht htm => ?_, ?_⟩
      · simp only [List.getD_cons_zero]
        omega
      · obtain ⟨t, rfl⟩ : ∃ t', t = t' + 1 := ⟨t - 1, by omega⟩
        simp only [List.getD_cons_succ, hl]
        rw [List.getD_eq_getElem?_getD, List.getElem?_range' (by omega)]
        simp
        omega
      · simpa using hb.symm
    · rw [List.getElem?_append_right (by simp; omega)] at ha hb
      simp only [List.length_map] at ha hb
      rw [show i + 1 - (comb n d m).length = i - (comb n d m).length + 1 by omega] at hb
      exact comb_next n d (m + 1) _ a b (by omega) ha hb

end Go.Proofs.YbulkdtycFmt.S
