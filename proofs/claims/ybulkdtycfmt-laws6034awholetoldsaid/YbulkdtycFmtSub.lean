/-
  What 'subsets' (f4) keeps in memory: one block of parties (block gp), one block of the slices into it (block gp + 1).
-/
import Derived.Test.YbulkdtycFmtAgen
namespace Go.Proofs.YbulkdtycFmt.S
open Go.RowKit

/-- A set in the block of parties. -/
abbrev cut (gp size i : Nat) : Value := .slice (some ⟨gp, i * size, none⟩) size size

theorem idx_lt {i i' t size : Nat} (h : i' < i) (ht : t < size) : i' * size + t < i * size := by
  have h1 : (i' + 1) * size ≤ i * size := Nat.mul_le_mul_right _ h
  rw [Nat.add_mul] at h1
  omega

/-- i sets stand. -/
structure Sub (w wr : World) (size cnt i : Nat) (T : Nat → Nat → Nat) : Prop where
  P : ∃ f, Row wr w.heap.size 3 (cnt * size) f ∧ ∀ i' t, i' < i → t < size → f (i' * size + t) = iv (T i' t)
  S : ∃ f, Row wr (w.heap.size + 1) 27 cnt f ∧ ∀ i', i' < i → f i' = cut w.heap.size size i'
  below : Below w.heap.size w wr

/-- i sets stand, and of the next one the first j parties read r. -/
structure Mid (w wr : World) (size cnt i : Nat) (T : Nat → Nat → Nat) (r : Nat → Nat) (j : Nat) : Prop where
  P : ∃ f, Row wr w.heap.size 3 (cnt * size) f ∧ (∀ i' t, i' < i → t < size → f (i' * size + t) = iv (T i' t)) ∧ ∀ t, t < j → f (i * size + t) = iv (r t)
  S : ∃ f, Row wr (w.heap.size + 1) 27 cnt f ∧ ∀ i', i' < i → f i' = cut w.heap.size size i'
  below : Below w.heap.size w wr

section
variable {w wr : World} {size cnt i j : Nat} {T : Nat → Nat → Nat} {r r' : Nat → Nat}

theorem Sub.set_cell (h : Sub w wr size cnt i T) (i' : Nat) (h1 : i' < i) (hc : i ≤ cnt) : wr.cell? ⟨w.heap.size + 1, i', none⟩ = some (cut w.heap.size size i') := by
  obtain ⟨f, hr, hf⟩ := h.S
  rw [hr.cell i' (by omega), hf i' h1]

theorem Mid.cell (h : Mid w wr size cnt i T r j) (t : Nat) (ht : t < j) (hj : j ≤ size) (hc : i < cnt) : wr.cell? ⟨w.heap.size, i * size + t, none⟩ = some (iv (r t)) := by
  obtain ⟨f, hr, hf, hg⟩ := h.P
  rw [hr.cell _ (idx_lt hc (by omega)), hg t ht]

theorem Mid.any_cell (h : Mid w wr size cnt i T r j) (t : Nat) (ht : t < size) (hc : i < cnt) : ∃ v, wr.cell? ⟨w.heap.size, i * size + t, none⟩ = some v := by
  obtain ⟨f, hr, hf, hg⟩ := h.P
  exact ⟨_, hr.cell _ (idx_lt hc ht)⟩

theorem Mid.frozen (h : Mid w wr size cnt i T r j) (t : Nat) : wr.frozen? ⟨w.heap.size, t, none⟩ = false := by
  obtain ⟨f, hr, hf, hg⟩ := h.P
  exact hr.frozen t

theorem Mid.set_any (h : Mid w wr size cnt i T r j) (hc : i < cnt) : ∃ v, wr.cell? ⟨w.heap.size + 1, i, none⟩ = some v := by
  obtain ⟨f, hr, hf⟩ := h.S
  exact ⟨_, hr.cell i hc⟩

theorem Mid.set_frozen (h : Mid w wr size cnt i T r j) (t : Nat) : wr.frozen? ⟨w.heap.size + 1, t, none⟩ = false := by
  obtain ⟨f, hr, hf⟩ := h.S
  exact hr.frozen t

/-- Party t is laid: behind it the first t + 1 parties read r'. -/
theorem Mid.put (h : Mid w wr size cnt i T r j) (t : Nat) (htj : t ≤ j) (he : ∀ s, s < t → r' s = r s) : Mid w (wr.setCell ⟨w.heap.size, i * size + t, none⟩ (iv (r' t))) size cnt i T r' (t + 1) := by
  obtain ⟨⟨f, hr, hf, hg⟩, ⟨f2, hr2, hf2⟩, hb⟩ := h
  refine ⟨⟨_, hr.set _ _, fun i' s hi hs => ?_, fun s hs => ?_⟩, ⟨f2, hr2.other _ (by omega), hf2⟩, hb.setCell (Nat.le_refl _) _⟩
  · have := idx_lt hi hs
    rw [if_neg (by omega)]
    exact hf i' s hi hs
  · by_cases e : s = t
    · subst e
      simp
    · rw [if_neg (by omega), hg s (by omega), he s (by omega)]

theorem Mid.whole (h : Mid w wr size cnt i T r size) (hT : ∀ t, t < size → r t = T i t) (hc : i < cnt) : Sub w (wr.setCell ⟨w.heap.size + 1, i, none⟩ (cut w.heap.size size i)) size cnt (i + 1) T := by
  obtain ⟨⟨f, hr, hf, hg⟩, ⟨f2, hr2, hf2⟩, hb⟩ := h
  refine ⟨⟨f, hr.other _ (by omega), fun i' s hi hs => ?_⟩, ⟨_, hr2.set _ _, fun i' hi => ?_⟩, hb.setCell (by simp) _⟩
  · by_cases e : i' = i
    · subst e
      rw [hg s hs, hT s hs]
    · exact hf i' s (by omega) hs
  · by_cases e : i' = i
    · subst e
      simp
    · rw [if_neg e]
      exact hf2 i' (by omega)

/-- A row copied over another one of the same block. -/
theorem copy_row (w : World) (gp C size a p : Nat) (f : Nat → Value) (hr : Row w gp 3 C f) (ha : a + size ≤ C) (hp : p + size ≤ C) (h1 : ∀ t, t < size → (f (p + t)).oneCell' = true) :
    ∃ w', (∀ ty, (Builtin.copy_ #[27, 27] ty #[.slice (some ⟨gp, a, none⟩) size size, .slice (some ⟨gp, p, none⟩) size size]).run Ybaf.prog w = .ok (.int .i64 (size : Int)) w') ∧
      Row w' gp 3 C (fun t => if a ≤ t ∧ t < a + size then f (p + (t - a)) else f t) ∧ (∀ b, b ≠ gp → w'.heap[b]? = w.heap[b]?) ∧ Below gp w w' := by
  obtain ⟨i0, hi, hz0, hz1, hz2⟩ := info_parts info3
  have hsz : (Ybaf.prog.info? 3).map (·.size) = some 1 := by rw [hi]; simp [hz1]
  have hcell := fun t ht => hr.cell t ht
  obtain ⟨c, hc, hcs, hcf⟩ := hr
  have hcl : ((List.range size).map fun t => f (p + t)).length = size := by simp
  have hrun := fun ty => run_copy_row (P := Ybaf.prog) w 27 27 ty 3 gp a size size ⟨gp, p, none⟩ size size c 3 ((List.range size).map fun t => f (p + t)) Ybaf.underlying27 hsz hc (by simp)
    (fun j v hj => by
      have hjn : j < size := by
        rcases Nat.lt_or_ge j size with h | h
        · exact h
        · rw [List.getElem?_eq_none (by simpa using h)] at hj; cases hj
      simp [List.getElem?_range hjn] at hj
      subst hj
      rw [Go.WideShapes.add_plain]
      exact hcell _ (by omega)) (by rw [hcl]; omega) (fun v hv => by
      simp at hv
      obtain ⟨t, ht, rfl⟩ := hv
      exact h1 t ht)
  rw [hcl] at hrun
  refine ⟨_, hrun, ⟨_, setRow_heap w gp _ _ 3 _ hc, ?_, fun t ht => ?_⟩, fun b hb => setRow_other w gp b _ hb, below_setRow (Below.refl _ w) (Nat.le_refl _) _⟩
  · simp
    omega
  · show _ = some (if a ≤ t ∧ t < a + size then f (p + (t - a)) else f t)
    rw [List.getElem?_toArray]
    by_cases h2 : t < a
    · rw [if_neg (by omega), List.append_assoc, List.getElem?_append_left (by simp; omega), List.getElem?_take, if_pos h2]
      simpa using hcf t ht
    · by_cases h3 : t < a + size
      · rw [if_pos (by omega), List.getElem?_append_left (by simp; omega), List.getElem?_append_right (by simp; omega)]
        have : t - (List.take a c.toList).length = t - a := by simp; omega
        rw [this, List.getElem?_map, List.getElem?_range (by omega)]
        rfl
      · rw [if_neg (by omega), List.getElem?_append_right (by simp; omega), List.getElem?_drop]
        have : a + size + (t - (List.take a c.toList ++ List.map (fun t => f (p + t)) (List.range size)).length) = t := by simp; omega
        rw [this]
        simpa using hcf t ht

/-- The last set that stands, copied over the next one. -/
theorem Sub.copied (h : Sub w wr size cnt (i + 1) T) (hc : i + 1 < cnt) :
    ∃ w', (∀ ty, (Builtin.copy_ #[27, 27] ty #[cut w.heap.size size (i + 1), cut w.heap.size size i]).run Ybaf.prog wr = .ok (.int .i64 (size : Int)) w') ∧ Mid w w' size cnt (i + 1) T (T i) size := by
  obtain ⟨⟨f, hr, hf⟩, ⟨f2, hr2, hf2⟩, hb⟩ := h
  have hm1 : (i + 1) * size + size ≤ cnt * size := by
    have := Nat.mul_le_mul_right size (show i + 1 + 1 ≤ cnt by omega)
    rw [Nat.add_mul (i + 1)] at this
    omega
  have hm2 : (i + 1) * size = i * size + size := by rw [Nat.add_mul]; omega
  obtain ⟨w', h1, h2, h3, h4⟩ := copy_row wr w.heap.size (cnt * size) size ((i + 1) * size) (i * size) f hr hm1 (by omega) (fun t ht => by rw [hf i t (by omega) ht]; rfl)
  refine ⟨w', h1, ⟨_, h2, fun i' t hi ht => ?_, fun t ht => ?_⟩, ⟨f2, hr2.keep (h3 _ (by omega)), hf2⟩, hb.trans h4⟩
  · have := idx_lt hi ht
    rw [if_neg (by omega)]
    exact hf i' t hi ht
  · rw [if_pos (by omega), show i * size + ((i + 1) * size + t - (i + 1) * size) = i * size + t by omega]
    exact hf i t (by omega) ht
end

end Go.Proofs.YbulkdtycFmt.S
