/-
  The walk's judgement for frames of a plain call alone ('kind' normal): there a communication of one goroutine is a step of the machine as any other. Rules: a piece without communication by 'Code.wp'; one behind the other; a test; a block; a loop whose rounds are counted down; a region that begins with a communication, or comes to it behind two plain operations; from it 'Calls'.
-/
import Derived.Test.YbulkdtzeSel
import Derived.Deep.LoopGhost
namespace Go.Proofs.Ybulkdtze.S
open Go.RowKit Go.Conc

def wpN (P : Program) (c : Code) (Q : Exit → Act → World → Prop) (a : Act) (w : World) : Prop :=
  ∀ b : Frame, b.kind = .normal → ∀ (k : List Item) (cs : List Frame), ∃ e a' w', Q e a' w' ∧ Arrives P (lone (b.at a (.code c :: k)) cs w) b k cs e a' w'

section
variable {P : Program} {Q : Exit → Act → World → Prop} {a : Act} {w : World}

theorem wpN_of {c : Code} (h : c.wp P Q a w) : wpN P c Q a w := fun b _ k cs => h b k cs

theorem wpN_seq {x y : Code} (h : wpN P x (Exit.then (wpN P y Q) Q) a w) : wpN P (.seq x y) Q a w := by
  intro b hb k cs
  obtain ⟨e, a₁, w₁, hq, harr⟩ := h b hb (.code y :: k) cs
  cases e with
  | normal =>
    obtain ⟨e₂, a₂, w₂, hq₂, harr₂⟩ := hq b hb k cs
    exact ⟨e₂, a₂, w₂, hq₂, .of_steps (.head step_seq harr) harr₂⟩
  | exit id => exact ⟨_, a₁, w₁, hq, .of_steps (.one step_seq) (.pass (x := .code y) rfl (fun _ _ => .inl (by simp)) harr)⟩
  | goto l => exact ⟨_, a₁, w₁, hq, .of_steps (.one step_seq) (.pass (x := .code y) rfl (fun _ _ => .inl (by simp)) harr)⟩
  | ret => exact ⟨_, a₁, w₁, hq, .of_steps (.one step_seq) (.pass (x := .code y) rfl (fun _ _ => .inl (by simp)) harr)⟩
  | panic ch => exact ⟨_, a₁, w₁, hq, .of_steps (.one step_seq) (.pass (x := .code y) rfl (fun _ _ => .inl (by simp)) harr)⟩
  | outgrown => exact ⟨_, a₁, w₁, hq, .of_steps (.one step_seq) (.pass (x := .code y) rfl (fun _ _ => .inl (by simp)) harr)⟩

/-- The first piece without communication; what follows behind a variable, as the walk's own rule has it. -/
theorem wpN_seq_k {x y : Code} (h : ∀ K : Act → World → Prop, (∀ a w, wpN P y Q a w → K a w) → x.wp P (Exit.then K Q) a w) : wpN P (.seq x y) Q a w :=
  wpN_seq (wpN_of (h _ fun _ _ h => h))

theorem wpN_block {id : Nat} {c : Code} (h : wpN P c (Exit.inBlock id Q) a w) : wpN P (.block id c) Q a w := by
  intro b hb k cs
  obtain ⟨e, a₁, w₁, hq, harr⟩ := h b hb (.inBlock id :: k) cs
  cases e with
  | normal => exact ⟨.normal, a₁, w₁, hq, .head step_block (Steps.trans harr (.one step_inBlock))⟩
  | exit id' =>
    by_cases hid : id' = id
    · simp only [Exit.inBlock, hid, if_true] at hq
      exact ⟨.normal, a₁, w₁, hq, .head step_block (harr k (by simp [exitTo, hid]))⟩
    · simp only [Exit.inBlock, hid, if_false] at hq
      refine ⟨.exit id', a₁, w₁, hq, fun k' hk => .head step_block (harr k' ?_)⟩
      have : (id == id') = false := by simp; exact fun h => hid h.symm
      simp [exitTo, this, hk]
  | goto l => exact ⟨_, a₁, w₁, hq, fun k' hk => .head step_block (harr k' (by simp [gotoIn, hk]))⟩
  | ret => exact ⟨_, a₁, w₁, hq, .of_steps (.one step_block) harr⟩
  | panic ch => exact ⟨_, a₁, w₁, hq, .of_steps (.one step_block) harr⟩
  | outgrown => exact ⟨_, a₁, w₁, hq, .of_steps (b := b) (k := k) (cs := cs) (e := .outgrown) (.one step_block) harr⟩

/-- A loop: the invariant bears a number, which every round lowers. -/
theorem wpN_loop {c : Code} (I : Nat → Act → World → Prop) (n₀ : Nat) (h₀ : I n₀ a w)
    (round : ∀ n a w, I n a w → wpN P c (Exit.then (fun a' w' => ∃ n', n' < n ∧ I n' a' w') Q) a w) : wpN P (.loop c) Q a w := by
  intro b hb k cs
  have key : ∀ n a w, I n a w → ∃ e a' w', Q e a' w' ∧ Arrives P (lone (b.at a (.code c :: .inLoop c :: k)) cs w) b k cs e a' w' := by
    intro n
    induction n using Nat.strongRecOn with
    | _ n ih =>
      intro a w hI
      obtain ⟨e, a₁, w₁, hq, harr⟩ := round n a w hI b hb (.inLoop c :: k) cs
      cases e with
      | normal =>
        obtain ⟨n', hlt, hI₁⟩ := hq
        obtain ⟨e₂, a₂, w₂, hq₂, harr₂⟩ := ih n' hlt a₁ w₁ hI₁
        exact ⟨e₂, a₂, w₂, hq₂, .of_steps (Steps.trans harr (.one step_inLoop)) harr₂⟩
      | exit id => exact ⟨_, a₁, w₁, hq, .pass (x := .inLoop c) rfl (fun _ _ => .inl (by simp)) harr⟩
      | goto l => exact ⟨_, a₁, w₁, hq, .pass (x := .inLoop c) rfl (fun _ _ => .inl (by simp)) harr⟩
      | ret => exact ⟨_, a₁, w₁, hq, .pass (x := .inLoop c) rfl (fun _ _ => .inl (by simp)) harr⟩
      | panic ch => exact ⟨_, a₁, w₁, hq, .pass (x := .inLoop c) rfl (fun _ _ => .inl (by simp)) harr⟩
      | outgrown => exact ⟨_, a₁, w₁, hq, .pass (x := .inLoop c) rfl (fun _ _ => .inl (by simp)) harr⟩
  obtain ⟨e, a', w', hq, harr⟩ := key n₀ a w h₀
  exact ⟨e, a', w', hq, .of_steps (.one step_loop) harr⟩

/-- A region whose first operation is a communication. -/
theorem wpN_region_comm {id : Nat} {o : Oper} {l : List Oper} (R : Value → World → Prop)
    (hstep : ∀ b : Frame, b.kind = .normal → ∀ k cs, ∃ V w', step P (lone (b.at a (.inRegion (o :: l).toArray (0 :: List.range' 1 l.length) :: k)) cs w) = .next (lone ((b.at a (.inRegion (o :: l).toArray (0 :: List.range' 1 l.length) :: k)).finish V) cs w') ∧ R V w')
    (h : ∀ V w', R V w' → wpList P (o :: l).toArray Q l (a.put o.dst V) w') : wpN P (.region id (o :: l).toArray false) Q a w := by
  intro b hb k cs
  have hr : List.range (o :: l).toArray.size = 0 :: List.range' 1 l.length := by
    rw [List.range_eq_range']; simp [List.range'_succ]
  obtain ⟨V, w', hs, hR⟩ := hstep b hb k cs
  have h2 := h V w' hR
  rw [← wpOps_eq_wpList l 1 (fun j => by simp [Nat.add_comm 1 j])] at h2
  obtain ⟨e, a', w'', q, r⟩ := wp_ops _ _ _ h2 b k cs
  refine ⟨e, a', w'', q, .of_steps (.head step_region ?_) r⟩
  rw [hr]
  refine .one ?_
  rw [hs, Frame.finish_at]
  rfl

theorem callsN {f : FuncId} {fn : Func} {c : Code} {args : Array Value} {R : Ending → World → Prop} (hf : P.funcs[f]? = some fn) (hb : fn.body = some c)
    (h : wpN P c (bodyPost P fn R) { tmps := args ++ Array.replicate (fn.ntmps - args.size) undef, defers := [] } w) : Calls P f args w R := by
  intro cs
  let b : Frame := { (default : Frame) with fn := f, kind := .normal }
  have henter : Frame.enter P f args .normal = b.at { tmps := args ++ Array.replicate (fn.ntmps - args.size) undef, defers := [] } [.code c] := by
    simp [Frame.enter, Frame.at, hf, hb, b]
  obtain ⟨e, a', w', hq, harr⟩ := h b rfl [] cs
  rw [← henter] at harr
  cases e with
  | normal =>
    obtain ⟨hd, v, hr, hR⟩ := hq
    exact ⟨.returned v, w', _, hR, Steps.trans harr (.one step_end), rfl, rfl, hd, rfl, fn, hf, hr⟩
  | ret =>
    obtain ⟨hd, v, hr, hR⟩ := hq
    obtain ⟨todo, hs⟩ := harr
    exact ⟨.returned v, w', _, hR, hs, rfl, rfl, hd, rfl, fn, hf, hr⟩
  | panic chain =>
    obtain ⟨hd, hR⟩ := hq
    obtain ⟨todo, hs⟩ := harr
    exact ⟨.panicked chain, w', _, hR, hs, rfl, rfl, hd, fn, hf⟩
  | exit id => exact hq.elim
  | goto l => exact hq.elim
  | outgrown => exact ⟨.outgrown, w', b, hq, harr.resolve_left (by simp [b]), rfl, trivial⟩
end
end Go.Proofs.Ybulkdtze.S
