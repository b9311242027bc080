/-
  'startHeader' (f4): behind it the receiver's buffer owns the twelve bytes; every block of cells that is no row of bytes is as it was, but for the receiver's second cell.
-/
import Derived.Test.YbulkdtzsHead
import Derived.Deep.RegionWith
namespace Go.Proofs.Ybulkdtzs.S
open Go.RowKit

def firstReg : Code → Option Nat
  | .region n _ _ => some n
  | .seq a _ => firstReg a
  | _ => none

/-- The rest of a body from the piece on that begins with region n. -/
def tailAt (n : Nat) : Code → Code
  | .seq a b => if firstReg a = some n then .seq a b else tailAt n b
  | c => c

theorem word_bits (fl rc : Nat) (h1 : fl < 65536) (h2 : rc < 65536) : ∃ A1 A2 A3 : Nat, bits .and .u16 (fl : Int) 30992 = (A1 : Int) ∧ bits .or .u16 32768 (A1 : Int) = (A2 : Int) ∧ bits .and .u16 (rc : Int) 15 = (A3 : Int) ∧ bits .or .u16 (A2 : Int) (A3 : Int) = (acc fl rc 16 : Int) := by
  have l1 : fl &&& 30992 < 65536 := Nat.lt_of_le_of_lt Nat.and_le_right (by decide)
  have l3 : rc &&& 15 < 65536 := Nat.lt_of_le_of_lt Nat.and_le_right (by decide)
  have l2 : 32768 ||| (fl &&& 30992) < 65536 := Nat.or_lt_two_pow (n := 16) (by decide) l1
  refine ⟨_, _, _, and16 fl 30992 h1 (by decide), or16 32768 _ (by decide) l1, and16 rc 15 h2 (by decide), ?_⟩
  rw [or16 _ _ l2 l3, acc_all]

abbrev zeros8 : Array Value := #[.int .u8 0, .int .u8 0, .int .u8 0, .int .u8 0, .int .u8 0, .int .u8 0, .int .u8 0, .int .u8 0]

theorem news8 (w : World) : ∀ (j : Nat) (u : Value), (zeros8.toList)[j]? = some u → (w.alloc (.cells zeros8 5)).cell? (Addr.add ⟨w.heap.size, 0, none⟩ j) = some u := by
  intro j u hj
  have h : (w.alloc (.cells zeros8 5)).heap[w.heap.size]? = some (.cells zeros8 5) := heap_alloc_new w _
  rw [Go.WideShapes.add_plain, Nat.zero_add]
  simp only [World.cell?, h]
  simpa using hj

theorem one8 : ∀ u ∈ zeros8.toList, u.oneCell' = true := by
  intro u hu
  simp at hu
  subst hu
  rfl

/-- Every block of cells that is no row of bytes is as it was. -/
def KeepT (w w' : World) : Prop := ∀ (k : Nat) (c : Array Value) (t : TypeId), t ≠ 5 → w.heap[k]? = some (.cells c t (0, 0)) → w'.heap[k]? = some (.cells c t (0, 0))

theorem lt_of_heap {w : World} {k : Nat} {o : Obj} (h : w.heap[k]? = some o) : k < w.heap.size := by
  rcases Nat.lt_or_ge k w.heap.size with h1 | h1
  · exact h1
  · rw [Array.getElem?_eq_none h1] at h; cases h

theorem keep_grown {w w' : World} {B n : Nat} {v : Value} {xs : List Value} (own : w.ownsRow B 5 1 v n xs) (g : w.grownBy w' v.ownBlock) : KeepT w w' := by
  intro k c t ht hk
  refine (g.block k (lt_of_heap hk) ?_).trans hk
  rintro he
  obtain ⟨-, ⟨rfl, -⟩ | ⟨gg, cap, cur, rfl, -, hg, -⟩⟩ := own
  · cases he
  · simp only [Value.ownBlock, Option.some.injEq] at he
    subst he
    rw [hk] at hg
    injection hg with hg
    injection hg with _ hg _
    exact ht hg

theorem own_some {w : World} {B n : Nat} {v : Value} {xs : List Value} (own : w.ownsRow B 5 1 v n xs) (hn : 0 < n) : ∃ g cap, v = .slice (some ⟨g, 0, none⟩) n cap := by
  obtain ⟨-, ⟨-, h⟩ | ⟨gg, cap, cur, h, -⟩⟩ := own
  · omega
  · exact ⟨gg, cap, h⟩

/-- The twelve bytes. -/
def body12 (fl rc : Nat) (xs : List Value) : List Value := xs ++ [Value.int .u8 ((acc fl rc 16 : Int) / 256), Value.int .u8 ((acc fl rc 16 : Int) % 256)] ++ zeros8.toList

theorem keep_alloc (w : World) (o : Obj) : KeepT w (w.alloc o) := fun _ _ _ _ hk => (Below.heap_alloc _ _ _ (lt_of_heap hk)).trans hk

set_option maxRecDepth 100000 in
set_option maxHeartbeats 2000000 in
theorem start_tail (u4 u5 u6 u7 u9 u10 u11 u12 u13 u14 u15 u16 u17 u18 u19 u20 u21 u22 u23 u24 u25 u26 u27 u28 u29 u30 u31 : Value) (B rb id fl rc : Nat) (v1 : Value) (xs : List Value) (h1 : fl < 65536) (h2 : rc < 65536) (w0 w : World) (own1 : w.ownsRow B 5 1 v1 2 xs) (hB : B ≤ w.heap.size) (cs : Array Value) (x1 : Value) (hrb : w.heap[rb]? = some (.cells cs 29 (0, 0))) (hx1 : cs[1]? = some x1)
    (hk0 : KeepT w0 w) (hb0 : Below B w0 w) :
    Code.wp Yba.prog (tailAt 1 (Yba.f4.body.getD .skip)) (bodyPost Yba.prog Yba.f4 fun e w' => e = .returned (.tuple #[]) ∧ ∃ w4 v3, w4.ownsRow B 5 1 v3 12 (body12 fl rc xs) ∧ KeepT w0 w4 ∧ Below B w0 w4 ∧ w' = w4.setCell ⟨rb, 1, none⟩ v3) ⟨#[.pointer (some ⟨rb, 0, none⟩), .int .u16 id, .int .u16 fl, .int .u16 rc, u4, u5, u6, u7, v1, u9, u10, u11, u12, u13, u14, u15, u16, u17, u18, u19, u20, u21, u22, u23, u24, u25, u26, u27, u28, u29, u30, u31], []⟩ w := by
  conv => arg 2; whnf
  obtain ⟨A1, A2, A3, e1, e2, e3, e4⟩ := word_bits fl rc h1 h2
  have hacc := acc_lt fl rc 16 (by omega)
  have h6 := app16 B 2 (acc fl rc 16) hacc v1 xs w own1 hB (by omega)
  obtain ⟨i0, hi, hz0, hz1, hz2⟩ := info_parts info5
  have hmax : 4 + 8 ≤ maxLen := by unfold maxLen; omega
  go_wp2_with (first | (go_at_call 6; refine h6.mono ?_; rintro e w2 ⟨v2, rfl, own2, gr2⟩) | (at_builtin; refine wpList_append_own _ rfl _ _ 23 rfl B 5 i0 (.int .u8 0) 1 1 Yba.underlying23 hi hz0 hz1 hz2 rfl (by decide) _ 4 _ rfl (own2.alloc _) _ 8 8 zeros8.toList rfl rfl (news8 w2) one8 hmax (by omega) (Nat.le_trans hB (Nat.le_trans gr2.size (by simp))) ?_; intro v3 w4 own3 gr3 _; have k2 := keep_grown own1 gr2; have k4 := keep_grown (own2.alloc _) gr3; have hr4 := k4 rb cs 29 (by decide) (keep_alloc w2 _ rb cs 29 (by decide) (k2 rb cs 29 (by decide) hrb)); have hc4 : w4.cell? ⟨rb, 1, none⟩ = some x1 := (by simp [World.cell?, hr4, hx1]); have hz4 : w4.frozen? ⟨rb, 1, none⟩ = false := (by simp [World.frozen?, hr4]); have own4 : w4.ownsRow B 5 1 v3 12 (body12 fl rc xs) := own3; obtain ⟨g3, cap3, rfl⟩ := own_some own4 (by decide)))
  go_end0
  refine ⟨rfl, _, _, own4, fun k c t ht hk => k4 k c t ht (keep_alloc w2 _ k c t ht (k2 k c t ht (hk0 k c t ht hk))), ?_, rfl⟩
  have hB2 := Nat.le_trans hB gr2.size
  exact ((hb0.grown gr2 hB (fun k hk => (own1.lt k hk).1)).alloc hB2 _).grown gr3 (by simp; omega) (fun k hk => (own2.lt k hk).1)

set_option maxRecDepth 100000 in
set_option maxHeartbeats 2000000 in
theorem start_any (B rb n id fl rc : Nat) (sv : Value) (ys : List Value) (h0 : id < 65536) (h1 : fl < 65536) (h2 : rc < 65536) (w : World) (hown : w.ownsRow B 5 1 sv n ys) (hB : B ≤ w.heap.size) (cs : Array Value) (hrb : w.heap[rb]? = some (.cells cs 29 (0, 0))) (hx1 : cs[1]? = some sv) :
    Calls Yba.prog 4 #[.pointer (some ⟨rb, 0, none⟩), .int .u16 id, .int .u16 fl, .int .u16 rc] w fun e w' => e = .returned (.tuple #[]) ∧ ∃ w4 v3, w4.ownsRow B 5 1 v3 12 (body12 fl rc [Value.int .u8 ((id : Int) / 256), Value.int .u8 ((id : Int) % 256)]) ∧ KeepT w w4 ∧ Below B w w4 ∧ w' = w4.setCell ⟨rb, 1, none⟩ v3 := by
  have hsv : w.cell? ⟨rb, 1, none⟩ = some sv := by simp [World.cell?, hrb, hx1]
  obtain ⟨-, ⟨rfl, -⟩ | ⟨g, cp, cur, rfl, hg, hh, hncp, hmx, hcs, -⟩⟩ := hown
  · have own0 : w.drew.ownsRow B 5 1 (.slice none 0 0) 0 [] := ⟨rfl, .inl ⟨rfl, rfl⟩⟩
    have h6 := app16 B 0 id h0 (.slice none 0 0) [] w.drew own0 hB (by omega)
    go_enter Yba.func4, Yba.ntmps4
    go_wp2
    go_region_with (go_at_call 6; refine h6.mono ?_; rintro e w1 ⟨v1, rfl, own1, gr1⟩)
    all_goals
      simp only [Exit.then]
      apply_assumption
      have k1 : KeepT w w1 := fun k c t ht hk => keep_grown own0 gr1 k c t ht hk
      have hb1 : Below B w w1 := ((Below.refl B w).drew).grown gr1 hB (fun k hk => (own0.lt k hk).1)
      exact start_tail _ _ _ _ _ _ _ _ _ _ _ _ _ _ _ _ _ _ _ _ _ _ _ _ _ _ _ B rb id fl rc v1 _ h1 h2 w w1 own1 (Nat.le_trans hB hb1.size) cs _ (k1 rb cs 29 (by decide) hrb) hx1 k1 hb1
  · have own0 : w.drew.ownsRow B 5 1 (.slice (some ⟨g, 0, none⟩) 0 cp) 0 [] := ⟨rfl, .inr ⟨g, cp, cur, rfl, hg, hh, Nat.zero_le _, hmx, hcs, by simp⟩⟩
    have h6 := app16 B 0 id h0 (.slice (some ⟨g, 0, none⟩) 0 cp) [] w.drew own0 hB (by omega)
    go_enter Yba.func4, Yba.ntmps4
    go_wp2
    go_region_with (go_at_call 6; refine h6.mono ?_; rintro e w1 ⟨v1, rfl, own1, gr1⟩)
    all_goals
      simp only [Exit.then]
      apply_assumption
      have k1 : KeepT w w1 := fun k c t ht hk => keep_grown own0 gr1 k c t ht hk
      have hb1 : Below B w w1 := ((Below.refl B w).drew).grown gr1 hB (fun k hk => (own0.lt k hk).1)
      exact start_tail _ _ _ _ _ _ _ _ _ _ _ _ _ _ _ _ _ _ _ _ _ _ _ _ _ _ _ B rb id fl rc v1 _ h1 h2 w w1 own1 (Nat.le_trans hB hb1.size) cs _ (k1 rb cs 29 (by decide) hrb) hx1 k1 hb1
end Go.Proofs.Ybulkdtzs.S
