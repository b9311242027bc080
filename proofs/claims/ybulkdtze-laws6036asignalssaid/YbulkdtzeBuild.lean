/-
  'zzs6036abuild' and 'zzs6036ackmap': the map that the law makes, and the look over it behind the call.
-/
import Derived.Test.YbulkdtzeRows
import Derived.WalkKit
import Derived.Maps.OwnSet
import Derived.Deep.LoopGhost
namespace Go.Proofs.Ybulkdtze.S
open Go.RowKit Go.Maps

/-- How the one element that the law stores reads: the nil pointer. -/
def nilElem : Value → Option (DataW Unit × List MemPlace)
  | .pointer none => some (.nil, [])
  | _ => none

theorem law : Keyed Yba.prog 23 := int_keyed Yba.underlying23

/-- The slice that came in: its elements lie where the walk looks. -/
def IsKeys (w : World) (a : Option Addr) (len : Nat) (z : Nat → Int) : Prop :=
  ∀ k, k < len → ∃ sb so, a = some ⟨sb, so, none⟩ ∧ sb < w.heap.size ∧ w.cell? ⟨sb, so + k, none⟩ = some (.int .u64 (z k)) ∧ (Lit.int .u64 (z k)).wf = true

/-- What the map's datum says: just the first n keys are there. -/
def Holds (D : DataW Unit) (z : Nat → Int) (n : Nat) : Prop := Maps.IsMap D ∧ ∀ x : Int, Maps.has D (.int .u64 x) = true ↔ ∃ i, i < n ∧ z i = x

theorem run_mk (n : Int) (W : World) : (Instr.makeMap 24 (some (.int .i64 n))).run Yba.prog W = .ok (.map (some W.heap.size)) (W.alloc (.map #[] 0)) := by
  simp [Instr.makeMap, run_underlying Yba.underlying24, asInt]
  rfl

theorem holds_start (z : Nat → Int) : Holds (.map []) z 0 := ⟨Maps.isMap_empty, fun x => by simp [Maps.has_eq]⟩

theorem holds_step {D : DataW Unit} {z : Nat → Int} {n : Nat} (h : Holds D z n) : Holds (D.put (.int .u64 (z n)) .nil) z (n + 1) := by
  refine ⟨h.1.put _ _, fun x => ?_⟩
  by_cases hx : z n = x
  · subst hx
    rw [Maps.has_put_same h.1 (by simp [WideAt.IsKeyLit])]
    exact ⟨fun _ => ⟨n, by omega, rfl⟩, fun _ => rfl⟩
  · rw [Maps.has_put_other (by simpa using fun e => hx e.symm), h.2 x]
    constructor
    · rintro ⟨i, hi, e⟩; exact ⟨i, by omega, e⟩
    · rintro ⟨i, hi, e⟩
      refine ⟨i, ?_, e⟩
      rcases Nat.lt_or_ge i n with h1 | h1
      · exact h1
      · exact absurd (by rw [← e, show i = n by omega]) hx

set_option maxRecDepth 100000 in
set_option maxHeartbeats 1000000 in
theorem build_any (a : Option Addr) (len cap : Nat) (z : Nat → Int) (id pick : Int) (w : World) (hs : IsKeys w a len z) (hlen : len ≤ 1048576) (wid : (Lit.int .u64 id).wf = true) (b0 : 0 ≤ pick) (b1 : pick ≤ 255) :
    Calls Yba.prog 5 #[.slice a len cap, .int .u64 id, .int .u8 pick] w fun e w' => ∃ id' D, e = .returned (.tuple #[.map (some w.heap.size), .int .u64 id', .bool (Maps.has D (.int .u64 id'))]) ∧
      (Lit.int .u64 id').wf = true ∧ w'.ownsMap Yba.prog 23 nilElem w.heap.size len D ∧ Holds D z len ∧ Below w.heap.size w w' := by
  have hli : (len : Int) ≤ 1048576 := by omega
  have hmm := run_mk
  by_cases hp : pick % 2 = 0 ∧ 0 < len
  · obtain ⟨h2, h0⟩ := hp
    have h2' : (pick % 2 == 0) = true := by simp [h2]
    have h0i : (0 : Int) < (len : Int) := by omega
    obtain ⟨jj, hjj, hjl⟩ : ∃ jj : Nat, pick / 2 % (len : Int) = (jj : Int) ∧ jj < len := ⟨(pick / 2 % (len : Int)).toNat, by have := Int.emod_nonneg (pick / 2) (show (len : Int) ≠ 0 by omega); omega, by have := Int.emod_nonneg (pick / 2) (show (len : Int) ≠ 0 by omega); have := Int.emod_lt_of_pos (pick / 2) h0i; omega⟩
    have hjli : (jj : Int) < (len : Int) := by omega
    obtain ⟨sb, so, rfl, hsb, hc, WID⟩ := hs jj hjl
    clear h2
    go_enter Yba.func5, Yba.ntmps5
    go_wp2
    clear hjj
    go_loopg [10, 35] len (fun g p i wr => ∃ k : Nat, k + g = len ∧ i = .int .i64 k ∧ ∃ D, wr.ownsMap Yba.prog 23 nilElem w.heap.size k D ∧ Holds D z k ∧ p = .bool (Maps.has D (.int .u64 (z jj))) ∧ Below w.heap.size w wr)
    case atStart => exact ⟨0, by omega, rfl, .map [], World.ownsMap_made _ _ _ _, holds_start z, rfl, (Below.refl _ _).alloc (Nat.le_refl _) _⟩
    case round =>
      obtain ⟨k, hk, rfl, D, hown, hH, rfl, hbel⟩ := hrel
      by_cases hlt : k < len
      · have hki : (k : Int) < (len : Int) := by omega
        obtain ⟨sb', so', he, hsb, hc, hwf⟩ := hs k hlt
        obtain ⟨rfl, rfl⟩ : sb = sb' ∧ so = so' := by simpa using he
        clear he
        have hc' := (hbel.cell (p := ⟨sb, so + k, none⟩) hsb).trans hc
        have H1 := holds_step hH
        have hw0 : w.heap.size ≤ wr.heap.size := hbel.size
        by_cases hx : z k = z jj
        · have hx' : (z k == z jj) = true := by simp [hx]
          have hh : Hid (Maps.has (D.put (.int .u64 (z k)) .nil) (.int .u64 (z jj)) = true) := (H1.2 _).2 ⟨k, by omega, hx⟩
          have HX : Hid (z k = z jj) := hx
          clear hx
          go_wp2_with (at_mapUpdate; refine wpList_mapUpdate_own _ rfl _ _ _ 24 rfl 23 _ law Yba.underlying24 nilElem w.heap.size k D rfl hown (by unfold maxLen; omega) _ _ _ rfl rfl (keyOf_int_mk Yba.underlying23 hwf) .nil [] rfl ?_; intro w1 hown1 hgrow1)
          go_roundg (len - (k + 1))
          case rel => exact ⟨k + 1, by omega, by go_num, _, hown1, H1, by rw [hh.out], hbel.grown hgrow1 hw0 (fun j hj => by cases hj; exact Nat.le_refl _)⟩
          case measure => omega
        · have hx' : (z k == z jj) = false := by simp [hx]
          have hh : Hid (Maps.has (D.put (.int .u64 (z k)) .nil) (.int .u64 (z jj)) = Maps.has D (.int .u64 (z jj))) := Maps.has_put_other (by simpa using fun e => hx e.symm) _
          clear hx
          go_wp2_with (at_mapUpdate; refine wpList_mapUpdate_own _ rfl _ _ _ 24 rfl 23 _ law Yba.underlying24 nilElem w.heap.size k D rfl hown (by unfold maxLen; omega) _ _ _ rfl rfl (keyOf_int_mk Yba.underlying23 hwf) .nil [] rfl ?_; intro w1 hown1 hgrow1)
          go_roundg (len - (k + 1))
          case rel => exact ⟨k + 1, by omega, by go_num, _, hown1, H1, by rw [hh.out], hbel.grown hgrow1 hw0 (fun j hj => by cases hj; exact Nat.le_refl _)⟩
          case measure => omega
      · have hki : ¬ (k : Int) < (len : Int) := by omega
        obtain rfl : k = len := by omega
        go_wp2
        go_ret3
        exact ⟨z jj, D, rfl, WID, hown, hH, hbel⟩

  · have hp' : ((pick % 2 == 0) = false) ∨ ((pick % 2 == 0) = true ∧ len = 0) := by
      by_cases h2 : pick % 2 = 0
      · exact .inr ⟨by simp [h2], by omega⟩
      · exact .inl (by simp [h2])
    have WID := wid
    clear hp
    rcases hp' with h2 | ⟨h2, hl0⟩
    · go_enter Yba.func5, Yba.ntmps5
      go_wp2
      go_loopg [10, 35] len (fun g p i wr => ∃ k : Nat, k + g = len ∧ i = .int .i64 k ∧ ∃ D, wr.ownsMap Yba.prog 23 nilElem w.heap.size k D ∧ Holds D z k ∧ p = .bool (Maps.has D (.int .u64 (id))) ∧ Below w.heap.size w wr)
      case atStart => exact ⟨0, by omega, rfl, .map [], World.ownsMap_made _ _ _ _, holds_start z, rfl, (Below.refl _ _).alloc (Nat.le_refl _) _⟩
      case round =>
        obtain ⟨k, hk, rfl, D, hown, hH, rfl, hbel⟩ := hrel
        by_cases hlt : k < len
        · have hki : (k : Int) < (len : Int) := by omega
          obtain ⟨sb, so, rfl, hsb, hc, hwf⟩ := hs k hlt
          have hc' := (hbel.cell (p := ⟨sb, so + k, none⟩) hsb).trans hc
          have H1 := holds_step hH
          have hw0 : w.heap.size ≤ wr.heap.size := hbel.size
          by_cases hx : z k = id
          · have hx' : (z k == id) = true := by simp [hx]
            have hh : Hid (Maps.has (D.put (.int .u64 (z k)) .nil) (.int .u64 (id)) = true) := (H1.2 _).2 ⟨k, by omega, hx⟩
            have HX : Hid (z k = id) := hx
            clear hx
            go_wp2_with (at_mapUpdate; refine wpList_mapUpdate_own _ rfl _ _ _ 24 rfl 23 _ law Yba.underlying24 nilElem w.heap.size k D rfl hown (by unfold maxLen; omega) _ _ _ rfl rfl (keyOf_int_mk Yba.underlying23 hwf) .nil [] rfl ?_; intro w1 hown1 hgrow1)
            go_roundg (len - (k + 1))
            case rel => exact ⟨k + 1, by omega, by go_num, _, hown1, H1, by rw [hh.out], hbel.grown hgrow1 hw0 (fun j hj => by cases hj; exact Nat.le_refl _)⟩
            case measure => omega
          · have hx' : (z k == id) = false := by simp [hx]
            have hh : Hid (Maps.has (D.put (.int .u64 (z k)) .nil) (.int .u64 (id)) = Maps.has D (.int .u64 (id))) := Maps.has_put_other (by simpa using fun e => hx e.symm) _
            clear hx
            go_wp2_with (at_mapUpdate; refine wpList_mapUpdate_own _ rfl _ _ _ 24 rfl 23 _ law Yba.underlying24 nilElem w.heap.size k D rfl hown (by unfold maxLen; omega) _ _ _ rfl rfl (keyOf_int_mk Yba.underlying23 hwf) .nil [] rfl ?_; intro w1 hown1 hgrow1)
            go_roundg (len - (k + 1))
            case rel => exact ⟨k + 1, by omega, by go_num, _, hown1, H1, by rw [hh.out], hbel.grown hgrow1 hw0 (fun j hj => by cases hj; exact Nat.le_refl _)⟩
            case measure => omega
        · have hki : ¬ (k : Int) < (len : Int) := by omega
          obtain rfl : k = len := by omega
          go_wp2
          go_ret3
          exact ⟨id, D, rfl, WID, hown, hH, hbel⟩

    · subst hl0
      go_enter Yba.func5, Yba.ntmps5
      go_wp2
      refine wp_loop_rounds 1 ?_
      rw [rounds_succ]
      go_wp2
      go_ret3
      exact ⟨id, .map [], rfl, WID, World.ownsMap_made _ _ _ _, holds_start z, (Below.refl _ _).alloc (Nat.le_refl _) _⟩

theorem zeroE (w : World) : (zeroValue 79).run Yba.prog w = .ok (.pointer none) w := by kernel_rfl
theorem nilElem_inv {v : Value} {x : DataW Unit × List MemPlace} (h : nilElem v = some x) : v = .pointer none := by
  unfold nilElem at h
  split at h
  · rfl
  · cases h

/-- 'v, ok := m[k]' on such a map: the value's shape written out. -/
theorem lookup_nil {w : World} {ops : Array Oper} {rest : List Oper} {o : Oper} {a : Act} {Q : Exit → Act → World → Prop} (hg : o.guard = none) (m x : Operand) (hop : o.op = Op.lookup 24 m x true) (b n : Nat) (D : DataW Unit)
    (hm : a.eval m = .map (some b)) (hown : w.ownsMap Yba.prog 23 nilElem b n D) (key : Int) (hx : a.eval x = .int .u64 key) (hwf : (Lit.int .u64 key).wf = true)
    (hK : wpList Yba.prog ops Q rest (a.put o.dst (.tuple #[.pointer none, .bool (Maps.has D (.int .u64 key))])) w) : wpList Yba.prog ops Q (o :: rest) a w :=
  wpList_lookup_own_ok w hg m x 24 hop 23 79 law Yba.underlying24 nilElem (zeroE w) .nil [] rfl b n D hm hown _ _ hx (keyOf_int_mk Yba.underlying23 hwf) (fun v ps hv => by
    obtain rfl := nilElem_inv hv
    exact hK)

set_option maxRecDepth 100000 in
set_option maxHeartbeats 1000000 in
theorem ck_any (a : Option Addr) (len cap : Nat) (z : Nat → Int) (B n : Nat) (D : DataW Unit) (w : World) (hs : IsKeys w a len z) (hlen : len ≤ 1048576) (hown : w.ownsMap Yba.prog 23 nilElem B n D) (hH : Holds D z len) :
    Calls Yba.prog 7 #[.slice a len cap, .map (some B), .int .i64 (Maps.size D)] w fun e w' => e = .returned (.bool true) ∧ Below w.heap.size w w' := by
  have hli : (len : Int) ≤ 1048576 := by omega
  go_enter Yba.func7, Yba.ntmps7
  go_wp2_with (at_len; refine wpList_len_own _ rfl _ 24 rfl 23 _ Yba.underlying24 nilElem B n D rfl hown ?_)
  go_loopg [17] len (fun g i wr => ∃ k : Nat, k + g = len ∧ i = .int .i64 k ∧ wr = w)
  case atStart => exact ⟨0, by omega, rfl, rfl⟩
  case round =>
    obtain ⟨k, hk, rfl, rfl⟩ := hrel
    by_cases hlt : k < len
    · have hki : (k : Int) < (len : Int) := by omega
      obtain ⟨sb, so, rfl, hsb, hc, hwf⟩ := hs k hlt
      have hh : Maps.has D (.int .u64 (z k)) = true := (hH.2 _).2 ⟨k, hlt, rfl⟩
      go_wp2_with (at_lookup; refine lookup_nil rfl _ _ rfl B n D rfl hown _ rfl hwf ?_)
      go_roundg (len - (k + 1))
      case rel => exact ⟨k + 1, by omega, by go_num, rfl⟩
      case measure => omega
    · have hki : ¬ (k : Int) < (len : Int) := by omega
      go_wp2
      go_ret
      exact ⟨rfl, Below.refl _ _⟩

end Go.Proofs.Ybulkdtze.S
