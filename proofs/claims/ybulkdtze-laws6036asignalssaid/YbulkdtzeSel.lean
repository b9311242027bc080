/-
  A select of three receives in one goroutine, one of them on a closed channel (or a nil one beside it), the first on a channel that may hold signals: one step of the machine, whichever case the tape picks.
-/
import Derived.Conc.LoneSelectN
import Derived.Conc.LoneCalls
import Derived.WalkKit
namespace Go.Proofs.Ybulkdtze.S
open Go.RowKit Go.Conc

theorem sel_stop {P : Program} {fr : Frame} {cs : List Frame} {w w₁ : World} {es : Array Event} {z : Value} {s t cap sn rn ct st rt : Nat} {buf : Array Value}
    (h : stepG P true (G fr cs) w = .comm (G fr cs) #[rcase s z, rcase t z, { chan := .chan none, send := none, zero := z }] true .select w₁ es)
    (hs : w₁.heap[s]? = some (.chan cap buf false sn rn false)) (ht : w₁.heap[t]? = some (.chan ct #[] true st rt false)) (hb : 0 < buf.size) :
    ∃ V w', step P (solo (G fr cs) w) = .next (solo (G (fr.finish V) cs) w') ∧
      ((V = commResult #[rcase s z, rcase t z, { chan := .chan none, send := none, zero := z }] .select 1 z false ∧ w' = w₁.drew) ∨
       (V = commResult #[rcase s z, rcase t z, { chan := .chan none, send := none, zero := z }] .select 0 (buf.getD 0 undef) true ∧ w' = w₁.drew.setChan s cap (buf.extract 1 buf.size) false sn (rn + 1) false)) := by
  have hp := fun c => partners_alone (c := c) true
  have hq : (Question.select 2).cut (w₁.tape w₁.drawn (Question.select 2)) = 0 ∨ (Question.select 2).cut (w₁.tape w₁.drawn (Question.select 2)) = 1 := by
    simp only [Question.cut]
    omega
  rw [step, stepT_solo rfl]
  simp [runT, solo, G, Array.swapAt!, Array.swapAt, h, GStep.es, communicate, ways, rcase, hs, ht, hp, hb, choose, Sem.run, Question.forced, bind, Sem.bind, pure, Goroutine.finishComm, World.setChan] at h ⊢
  have hs' : w₁.drew.heap[s]? = some (.chan cap buf false sn rn false) := hs
  rcases hq with hq | hq
  · refine ⟨_, _, ?_, .inr ⟨rfl, rfl⟩⟩
    simp [hq, hs']
    rw [Array.getElem?_eq_getElem hb]
    rfl
  · refine ⟨_, _, ?_, .inl ⟨rfl, rfl⟩⟩
    simp [hq]

theorem sel_ctx {P : Program} {fr : Frame} {cs : List Frame} {w w₁ : World} {es : Array Event} {z : Value} {s t d cap sn rn ct st rt cd sd rd : Nat} {buf : Array Value}
    (h : stepG P true (G fr cs) w = .comm (G fr cs) #[rcase s z, rcase t z, rcase d z] true .select w₁ es)
    (hs : w₁.heap[s]? = some (.chan cap buf false sn rn false)) (ht : w₁.heap[t]? = some (.chan ct #[] false st rt false)) (hd : w₁.heap[d]? = some (.chan cd #[] true sd rd false)) (hb : 0 < buf.size) :
    ∃ V w', step P (solo (G fr cs) w) = .next (solo (G (fr.finish V) cs) w') ∧
      ((V = commResult #[rcase s z, rcase t z, rcase d z] .select 2 z false ∧ w' = w₁.drew) ∨
       (V = commResult #[rcase s z, rcase t z, rcase d z] .select 0 (buf.getD 0 undef) true ∧ w' = w₁.drew.setChan s cap (buf.extract 1 buf.size) false sn (rn + 1) false)) := by
  have hp := fun c => partners_alone (c := c) true
  have hq : (Question.select 2).cut (w₁.tape w₁.drawn (Question.select 2)) = 0 ∨ (Question.select 2).cut (w₁.tape w₁.drawn (Question.select 2)) = 1 := by
    simp only [Question.cut]
    omega
  rw [step, stepT_solo rfl]
  simp [runT, solo, G, Array.swapAt!, Array.swapAt, h, GStep.es, communicate, ways, rcase, hs, ht, hd, hp, hb, choose, Sem.run, Question.forced, bind, Sem.bind, pure, Goroutine.finishComm, World.setChan] at h ⊢
  have hs' : w₁.drew.heap[s]? = some (.chan cap buf false sn rn false) := hs
  rcases hq with hq | hq
  · refine ⟨_, _, ?_, .inr ⟨rfl, rfl⟩⟩
    simp [hq, hs']
    rw [Array.getElem?_eq_getElem hb]
    rfl
  · refine ⟨_, _, ?_, .inl ⟨rfl, rfl⟩⟩
    simp [hq]

end Go.Proofs.Ybulkdtze.S
