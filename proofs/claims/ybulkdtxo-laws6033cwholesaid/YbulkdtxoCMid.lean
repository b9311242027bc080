/-
  From the law's own verdict to the state behind 'appending' (no Go text is walked here but by its contracts).
-/
import Derived.Test.YbulkdtxoCSt
namespace Go.Proofs.Ybulkdtxo.C
open Go.RowKit

/-- Between the two: the law's own log may have one entry more than the undo log. -/
structure Mid (wo wr : World) (b : Nat) (tb : Nat → Nat) (es ls : List Ent) (vlog : Value) (xc : Nat → Value) : Prop where
  below : Below b wo wr
  size : b + 1 ≤ wr.heap.size
  xs : ∀ j, (j < 4 ∨ 7 ≤ j) → j < 15 → wr.cell? ⟨b, j, none⟩ = some (xc j) ∧ wr.frozen? ⟨b, j, none⟩ = false
  inv : Inv wr (b + 1) b es [lrec vlog ls]
  good : ∀ e ∈ ls, e.ok ∧ ∃ j, j < 3 ∧ e.t = some ⟨tb j, 0, none⟩
  sub : ∀ e ∈ es, e ∈ ls

theorem St.mid {wo wr : World} {b : Nat} {tb : Nat → Nat} {es : List Ent} {vlog : Value} {xc : Nat → Value} (h : St wo wr b tb es vlog xc) : Mid wo wr b tb es es vlog xc :=
  ⟨h.below, h.size, h.xs, h.inv, h.good, fun _ he => he⟩

theorem St.applog {wo wr W2 w3 : World} {b g cap n : Nat} {tb : Nat → Nat} {es : List Ent} {vlog : Value} {xc : Nat → Value} {e : Ent} (h : St wo wr b tb es vlog xc) (hB2 : Below wr.heap.size wr W2) (hg : W2.grownBy w3 vlog.ownBlock) (hn : n = es.length + 1)
    (hown : w3.ownsRow (b + 1) 70 4 (.slice (some ⟨g, 0, none⟩) n cap) n (flat es ++ e.cells)) (hat : vlog.ownBlock = some g ∨ wr.heap.size ≤ g)
    (he : e.ok ∧ ∃ j, j < 3 ∧ e.t = some ⟨tb j, 0, none⟩) : Mid wo w3 b tb es (es ++ [e]) (.slice (some ⟨g, 0, none⟩) n cap) xc := by
  have hs := h.size
  have hlo : ∀ k, vlog.ownBlock = some k → b + 1 ≤ k := fun k hk' => (World.ownsRow.lt h.log k hk').1
  have K : Kept wr w3 (b + 1) b := (kept_below hB2 (by omega) (by omega)).trans (kept_grown hg (by have := hB2.size; omega) hlo (by omega))
  refine ⟨?_, ?_, ?_, ?_, ?_, fun x hx => List.mem_append_left _ hx⟩
  · exact h.below.trans ⟨K.os, K.tape, K.output, K.size, fun k hk' => K.block k (by omega) (by omega)⟩
  · have := K.size; omega
  · intro j hj hj15
    rw [K.cell j hj, K.frozen j]
    exact h.xs j hj hj15
  · refine inv_log (X := []) (r := lrec vlog es) (r' := lrec (.slice (some ⟨g, 0, none⟩) n cap) (es ++ [e])) h.inv (by omega) (by omega) hB2 hg ?_ rfl hat
    unfold Rec.holds lrec
    rw [flat_append, flat_one, show (es ++ [e]).length = n by simp [hn]]
    exact hown
  · intro x hx
    rcases List.mem_append.1 hx with hx | hx
    · exact h.good x hx
    · rw [List.mem_singleton.1 hx]; exact he

theorem Mid.close {wo wr w5 : World} {b : Nat} {tb : Nat → Nat} {es ls : List Ent} {vlog : Value} {xc : Nat → Value} (h : Mid wo wr b tb es ls vlog xc) (hi : Inv w5 (b + 1) b ls [lrec vlog ls]) (K : Kept wr w5 (b + 1) b) : St wo w5 b tb ls vlog xc := by
  refine ⟨?_, ?_, ?_, hi, h.good⟩
  · exact h.below.trans ⟨K.os, K.tape, K.output, K.size, fun k hk' => K.block k (by omega) (by omega)⟩
  · have := K.size; have := h.size; omega
  · intro j hj hj15
    rw [K.cell j hj, K.frozen j]
    exact h.xs j hj hj15

theorem app_any {w wo wr : World} {B b pm : Nat} {cn : Nat → Int} {tb ln : Nat → Nat} {es ls : List Ent} {vlog : Value} {xc : Nat → Value} {oz : Nat} (alone : Bool) (h : Mid wo wr b tb es ls vlog xc) (T : Tabs w wo B cn tb ln 3) (hb : b = wo.heap.size) (hpm : pm < 3)
    (hx3 : xc 3 = .int .i64 oz) (hn : es.length ≤ 70000) (hls : ls = if skips alone oz es (tb pm) then es else es ++ [⟨some ⟨tb pm, 0, none⟩, ln pm, none, 0, 0, none⟩]) :
    Calls Yba.prog 11 #[.pointer (some ⟨b, 0, none⟩), .pointer (some ⟨tb pm, 0, none⟩), .bool alone] wr fun r w' => r = .returned (.tuple #[]) ∧ St wo w' b tb ls vlog xc := by
  have D := T.done pm hpm
  have hs := h.size
  obtain ⟨rv, rc, hr⟩ := D.rows
  have htl := D.tab.lt
  have hrows := (h.below.cell (p := ⟨tb pm, 2, none⟩) (by show tb pm < b; omega)).trans hr
  have hout : wr.cell? ⟨b, 3, none⟩ = some (.int .i64 oz) := by rw [← hx3]; exact (h.xs 3 (by omega) (by omega)).1
  by_cases hA : (alone && decide (oz < es.length)) = true
  · obtain ⟨rfl, hlt⟩ : alone = true ∧ oz < es.length := by simpa using hA
    obtain ⟨es', l, rfl, hl'⟩ := list_last es (es.length - 1) (by omega)
    obtain ⟨_, j, hj, hlt'⟩ := h.good l (h.sub l (by simp))
    have Dj := T.done j hj
    have hjl := Dj.tab.lt
    obtain ⟨ca, hca⟩ := Dj.tab.of (h.below.block (tb j) (by omega))
    obtain ⟨cb, hcb⟩ := D.tab.of (h.below.block (tb pm) (by omega))
    have hhit : hit l (tb j) (tb pm) = skips true oz (es' ++ [l]) (tb pm) := by
      rw [skips_yes _ _ _ _ hlt, hlt']
      simp [hit]
    refine (app_last wr (b + 1) b (tb pm) (tb j) es' l _ oz rv (ln pm) rc h.inv (by omega) hs (by simp at hn; omega) (by omega) (by omega) hrows hout hlt' ca cb 48 48 hca hcb (by simp at hlt; omega)).mono ?_
    rintro r w' ⟨h1, h2, h3⟩
    rw [hhit, ← hls] at h2
    exact ⟨h1, h.close h2 h3⟩
  · have hA' : (alone && decide (oz < es.length)) = false := by simpa using hA
    rw [skips_no _ _ _ _ hA'] at hls
    simp only [Bool.false_eq_true, if_false] at hls
    refine (app_plain wr (b + 1) b (tb pm) es _ alone oz rv (ln pm) rc h.inv (by omega) hs (by omega) (by omega) hrows hout ?_).mono ?_
    · cases alone with
      | false => exact .inl rfl
      | true => refine .inr ⟨rfl, ?_⟩; simp at hA'; omega
    · rintro r w' ⟨h1, h2, h3⟩
      rw [← hls] at h2
      exact ⟨h1, h.close h2 h3⟩

end Go.Proofs.Ybulkdtxo.C
