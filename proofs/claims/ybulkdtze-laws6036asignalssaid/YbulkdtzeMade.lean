/-
  The worlds that the two laws make ahead of 'awaitSettled': the node with the map and its channel, the stand-in context, one of the two channels closed; and that what 'awaitSettled' asks holds there.
-/
import Derived.Test.YbulkdtzeAwait
namespace Go.Proofs.Ybulkdtze.S
open Go.RowKit Go.Conc Go.Maps

theorem mk0 (W : World) : (Instr.makeChan 28 (.int .i64 0)).run Yba.prog W = .ok (.chan (some W.heap.size)) (W.alloc (.chan 0 #[] false 0 0 false)) := by kernel_rfl
theorem mk1 (W : World) : (Instr.makeChan 28 (.int .i64 1)).run Yba.prog W = .ok (.chan (some W.heap.size)) (W.alloc (.chan 1 #[] false 0 0 false)) := by kernel_rfl

theorem heap_push (w : World) (o : Obj) : (w.alloc o).heap = w.heap.push o := rfl

theorem heap_at (w : World) (o : Obj) (k : Nat) (hk : k = w.heap.size) : (w.alloc o).heap[k]? = some o := by
  subst hk
  simp [heap_push]

abbrev nodeCells (N mb : Nat) : Array Value :=
  #[Value.nilIface, Value.int IntKind.u64 0, Value.int IntKind.u64 0, Value.pointer none,
                    Value.int IntKind.u16 0, Value.int IntKind.i64 0, Value.int IntKind.i64 0, Value.int IntKind.i64 0,
                    Value.int IntKind.i64 0, Value.nilFunc, Value.int IntKind.i32 0, Value.int IntKind.u32 0,
                    Value.pointer none, Value.chan (some N), Value.slice none 0 0, Value.chan none,
                    Value.int IntKind.u64 0, Value.int IntKind.u32 0, Value.int IntKind.i32 0, Value.int IntKind.u32 0,
                    Value.pointer none, Value.slice none 0 0, Value.int IntKind.i64 0, Value.pointer none,
                    Value.slice none 0 0, Value.map none, Value.map (some mb), Value.bool false,
                    Value.nilIface, Value.slice none 0 0]

abbrev baseW (w : World) (mb : Nat) (d : Option Nat) : World := ((w.alloc (.chan 0 #[] false 0 0 false)).alloc (.cells (nodeCells w.heap.size mb) 70)).alloc (.cells #[.chan d, .int .i64 0] 73)

def stopW (w : World) (mb : Nat) : World := { baseW w mb none with heap := (baseW w mb none).heap.setIfInBounds w.heap.size (.chan 0 #[] true 0 0 false) }

theorem base_0 (w : World) (mb : Nat) (d : Option Nat) : (baseW w mb d).heap[w.heap.size]? = some (.chan 0 #[] false 0 0 false) :=
  (Below.heap_alloc _ _ _ (by simp [heap_push]; omega)).trans ((Below.heap_alloc _ _ _ (by simp [heap_push])).trans (heap_at _ _ _ rfl))
theorem base_1 (w : World) (mb : Nat) (d : Option Nat) : (baseW w mb d).heap[w.heap.size + 1]? = some (.cells (nodeCells w.heap.size mb) 70) :=
  (Below.heap_alloc _ _ _ (by simp [heap_push])).trans (heap_at _ _ _ (by simp [heap_push]))
theorem base_2 (w : World) (mb : Nat) (d : Option Nat) : (baseW w mb d).heap[w.heap.size + 1 + 1]? = some (.cells #[.chan d, .int .i64 0] 73) :=
  heap_at _ _ _ (by simp [heap_push])
theorem base_size (w : World) (mb : Nat) (d : Option Nat) : (baseW w mb d).heap.size = w.heap.size + 3 := by simp [heap_push]
theorem base_old (w : World) (mb : Nat) (d : Option Nat) (k : Nat) (hk : k < w.heap.size) : (baseW w mb d).heap[k]? = w.heap[k]? := by
  rw [Below.heap_alloc _ _ _ (by simp [heap_push]; omega), Below.heap_alloc _ _ _ (by simp [heap_push]; omega), Below.heap_alloc _ _ _ hk]

theorem close_stop (w : World) (mb : Nat) : Sem.run Yba.prog (Builtin.close_ #[28] 0 #[.chan (some w.heap.size)]) (baseW w mb none) = .ok (.tuple #[]) (stopW w mb) :=
  run_close_open _ _ (base_0 w mb none)

abbrev preW (w : World) (mb : Nat) : World := (baseW w mb (some (w.heap.size + 1 + 1 + 1))).alloc (.chan 0 #[] false 0 0 false)

def ctxW (w : World) (mb : Nat) : World := { preW w mb with heap := (preW w mb).heap.setIfInBounds (w.heap.size + 1 + 1 + 1) (.chan 0 #[] true 0 0 false) }

theorem pre_ctx (w : World) (mb : Nat) : (preW w mb).heap[w.heap.size + 1 + 1 + 1]? = some (.chan 0 #[] false 0 0 false) := heap_at _ _ _ (by simp [heap_push])

theorem close_ctx (w : World) (mb : Nat) : Sem.run Yba.prog (Builtin.close_ #[28] 0 #[.chan (some (w.heap.size + 1 + 1 + 1))]) (preW w mb) = .ok (.tuple #[]) (ctxW w mb) :=
  run_close_open _ _ (pre_ctx w mb)

/-- All that 'awaitSettled' asks, but for the channel of the signals. -/
structure AP (w : World) (nb cb st mb nn : Nat) (d : Option Nat) (D : DataW Unit) : Prop where
  ne : nb ≠ cb
  mu : w.cell? ⟨nb, 18, none⟩ = some (.int .i32 0)
  muz : w.frozen? ⟨nb, 18, none⟩ = false
  car : w.cell? ⟨nb, 26, none⟩ = some (.map (some mb))
  stp : w.cell? ⟨nb, 13, none⟩ = some (.chan (some st))
  cd : w.cell? ⟨cb, 0, none⟩ = some (.chan d)
  cc : w.cell? ⟨cb, 1, none⟩ = some (.int .i64 0)
  ccz : w.frozen? ⟨cb, 1, none⟩ = false
  own : w.ownsMap Yba.prog 23 nilElem mb nn D
  ch : (d = none ∧ ∃ c a b, w.heap[st]? = some (.chan c #[] true a b false)) ∨
    (∃ dn c a b c' a' b', d = some dn ∧ w.heap[st]? = some (.chan c #[] false a b false) ∧ w.heap[dn]? = some (.chan c' #[] true a' b' false))

theorem lt_of_some {w : World} {k : Nat} {o : Obj} (h : w.heap[k]? = some o) : k < w.heap.size := by
  rcases Nat.lt_or_ge k w.heap.size with h1 | h1
  · exact h1
  · rw [Array.getElem?_eq_none h1] at h; cases h

theorem lt_of_cell {w : World} {b o : Nat} {v : Value} (h : w.cell? ⟨b, o, none⟩ = some v) : b < w.heap.size := by
  rcases Nat.lt_or_ge b w.heap.size with h1 | h1
  · exact h1
  · simp [World.cell?, Array.getElem?_eq_none h1] at h

theorem AP.signals {w : World} {nb cb st mb nn : Nat} {d : Option Nat} {D : DataW Unit} (h : AP w nb cb st mb nn d D) (k : Nat) : AS (w.alloc (.chan k #[] false 0 0 false)) nb cb w.heap.size st mb nn d D 0 0 := by
  have c : ∀ b o v, w.cell? ⟨b, o, none⟩ = some v → (w.alloc (.chan k #[] false 0 0 false)).cell? ⟨b, o, none⟩ = some v := fun b o v hv => (World.cell?_of_block (w := w) (Below.heap_alloc _ _ _ (lt_of_cell hv))).trans hv
  have z : ∀ b o v, w.cell? ⟨b, o, none⟩ = some v → (w.alloc (.chan k #[] false 0 0 false)).frozen? ⟨b, o, none⟩ = w.frozen? ⟨b, o, none⟩ := fun b o v hv => World.frozen?_of_block (w := w) (Below.heap_alloc _ _ _ (lt_of_cell hv))
  refine ⟨h.ne, c _ _ _ h.mu, (z _ _ _ h.mu).trans h.muz, c _ _ _ h.car, c _ _ _ h.stp, c _ _ _ h.cd, c _ _ _ h.cc, (z _ _ _ h.cc).trans h.ccz, h.own.alloc _, ⟨k, #[], 0, 0, by simp [heap_push], rfl⟩, ?_⟩
  rcases h.ch with ⟨hd, x, y, q, hc⟩ | ⟨dn, x, y, q, x', y', q', hd, hc, hc'⟩
  · have := lt_of_some hc
    exact .inl ⟨hd, by omega, x, y, q, (Below.heap_alloc _ _ _ this).trans hc⟩
  · have := lt_of_some hc
    have := lt_of_some hc'
    exact .inr ⟨dn, x, y, q, x', y', q', hd, by omega, by omega, (Below.heap_alloc _ _ _ (by omega)).trans hc, (Below.heap_alloc _ _ _ (by omega)).trans hc'⟩

theorem cell_of {w : World} {b n t : Nat} {xs : Array Value} {v : Value} (h : w.heap[b]? = some (.cells xs t)) (hv : xs[n]? = some v) : w.cell? ⟨b, n, none⟩ = some v := by
  simp [World.cell?, h, hv]

theorem frozen_of {w : World} {b n t : Nat} {xs : Array Value} (h : w.heap[b]? = some (.cells xs t)) : w.frozen? ⟨b, n, none⟩ = false := by
  simp [World.frozen?, h]

theorem stop_made {w : World} {mb nn : Nat} {D : DataW Unit} (h : w.ownsMap Yba.prog 23 nilElem mb nn D) : AP (stopW w mb) (w.heap.size + 1) (w.heap.size + 1 + 1) w.heap.size mb nn none D := by
  have hk : ∀ k, k ≠ w.heap.size → (stopW w mb).heap[k]? = (baseW w mb none).heap[k]? := fun k hk => by
    simp only [stopW]
    rw [Array.getElem?_setIfInBounds, if_neg (fun e => hk e.symm)]
  have h1 := (hk (w.heap.size + 1) (by omega)).trans (base_1 w mb _)
  have h2 := (hk (w.heap.size + 1 + 1) (by omega)).trans (base_2 w mb _)
  have hlt := h.lt
  obtain ⟨es, clock, ho, hr⟩ := h
  refine ⟨by omega, cell_of h1 rfl, frozen_of h1, cell_of h1 rfl, cell_of h1 rfl, cell_of h2 rfl, cell_of h2 rfl, frozen_of h2, ⟨es, clock, (hk _ (by omega)).trans ((base_old _ _ _ _ hlt).trans ho), hr⟩, .inl ⟨rfl, 0, 0, 0, ?_⟩⟩
  simp only [stopW]
  rw [Array.getElem?_setIfInBounds, if_pos rfl, if_pos (by rw [base_size]; omega)]

theorem ctx_made {w : World} {mb nn : Nat} {D : DataW Unit} (h : w.ownsMap Yba.prog 23 nilElem mb nn D) : AP (ctxW w mb) (w.heap.size + 1) (w.heap.size + 1 + 1) w.heap.size mb nn (some (w.heap.size + 1 + 1 + 1)) D := by
  have hk : ∀ k, k < w.heap.size + 1 + 1 + 1 → (ctxW w mb).heap[k]? = (baseW w mb (some (w.heap.size + 1 + 1 + 1))).heap[k]? := fun k hk => by
    simp only [ctxW]
    rw [Array.getElem?_setIfInBounds, if_neg (by omega), Below.heap_alloc _ _ _ (by rw [base_size]; omega)]
  have h0 := (hk w.heap.size (by omega)).trans (base_0 w mb _)
  have h1 := (hk (w.heap.size + 1) (by omega)).trans (base_1 w mb _)
  have h2 := (hk (w.heap.size + 1 + 1) (by omega)).trans (base_2 w mb _)
  have hlt := h.lt
  obtain ⟨es, clock, ho, hr⟩ := h
  refine ⟨by omega, cell_of h1 rfl, frozen_of h1, cell_of h1 rfl, cell_of h1 rfl, cell_of h2 rfl, cell_of h2 rfl, frozen_of h2, ⟨es, clock, (hk _ (by omega)).trans ((base_old _ _ _ _ hlt).trans ho), hr⟩, .inr ⟨_, 0, 0, 0, 0, 0, 0, rfl, h0, ?_⟩⟩
  simp only [ctxW]
  rw [Array.getElem?_setIfInBounds, if_pos rfl, if_pos (lt_of_some (pre_ctx w mb))]

theorem below_base {B : Nat} {a w : World} (h : Below B a w) (hB : B ≤ w.heap.size) (mb : Nat) (d : Option Nat) : Below B a (baseW w mb d) := by
  refine ((h.alloc hB _).alloc ?_ _).alloc ?_ _
  · simp [heap_push]; omega
  · simp [heap_push]; omega

theorem below_set {B : Nat} {a w : World} (h : Below B a w) {s : Nat} (hp : B ≤ s) (o : Obj) : Below B a { w with heap := w.heap.setIfInBounds s o } :=
  h.trans ⟨rfl, rfl, rfl, by simp, fun k hk => by
    show (w.heap.setIfInBounds s o)[k]? = _
    rw [Array.getElem?_setIfInBounds, if_neg (by omega)]⟩

theorem below_stop {B : Nat} {a w : World} (h : Below B a w) (hB : B ≤ w.heap.size) (mb : Nat) : Below B a (stopW w mb) := below_set (below_base h hB mb _) hB _
theorem below_ctx {B : Nat} {a w : World} (h : Below B a w) (hB : B ≤ w.heap.size) (mb : Nat) : Below B a (ctxW w mb) :=
  below_set ((below_base h hB mb _).alloc (by rw [base_size]; omega) _) (by omega) _

theorem IsKeys.below {w w' : World} {a : Option Addr} {len : Nat} {z : Nat → Int} (h : IsKeys w a len z) (hb : Below w.heap.size w w') : IsKeys w' a len z := by
  intro j hj
  obtain ⟨sb, so, ha, hsb, hc, hw⟩ := h j hj
  exact ⟨sb, so, ha, Nat.lt_of_lt_of_le hsb hb.size, (hb.cell hsb).trans hc, hw⟩
end Go.Proofs.Ybulkdtze.S
