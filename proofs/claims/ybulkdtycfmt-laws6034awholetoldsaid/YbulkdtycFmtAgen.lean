/-
  'zzs6034agen' (f7): the listing, by induction on the parties that are still wanted.
-/
import Derived.Test.YbulkdtycFmtLeaf
namespace Go.Proofs.YbulkdtycFmt.S
open Go.RowKit

/-- The sets that are added. -/
def added (n d m : Nat) (cur : List Nat) : List (List Nat) := (comb n d m).map (cur ++ ·)

theorem added_zero (n d : Nat) (cur : List Nat) : added n d 0 cur = [cur] := by simp [added, comb_zero]

theorem added_nil (n d m : Nat) (cur : List Nat) (h : d < m) : added n d m cur = [] := by simp [added, comb_nil n d m h]

theorem added_succ (n q m : Nat) (cur : List Nat) (h : q ≤ n) : added n (n + 1 - q) (m + 1) cur = added n (n - q) m (cur ++ [q]) ++ added n (n - q) (m + 1) cur := by
  rw [show n + 1 - q = (n - q) + 1 by omega]
  simp [added, comb_succ, show n - (n - q) = q by omega, Function.comp_def]

theorem added_length (n d m : Nat) (cur : List Nat) : (added n d m cur).length = ch d m := by simp [added, comb_length]

def GenPost (w : World) (gc size k : Nat) (cur : List Nat) (L : List (List Nat)) (e : Ending) (w' : World) : Prop := ∃ vo', e = .returned vo' ∧ Gen w' gc size k cur vo' L ∧ Below gc w w'

set_option maxRecDepth 100000 in
set_option maxHeartbeats 2000000 in
theorem gen_any (n size gc : Nat) (hn : n ≤ 4096) (hs : size ≤ n) : ∀ (m k start : Nat) (cur : List Nat) (vo : Value) (L : List (List Nat)) (w : World), k + m = size → cur.length = k → start ≤ n + 1 →
    (L ++ added n (n + 1 - start) m cur).length ≤ 1048576 → Gen w gc size k cur vo L →
    Calls Ybaf.prog 7 #[.int .i64 n, .int .i64 size, .int .i64 start, .slice (some ⟨gc, 0, none⟩) k size, vo] w (GenPost w gc size k cur (L ++ added n (n + 1 - start) m cur))
  | 0, k, start, cur, vo, L, w, hk, hl, hst, hL, G => by
    obtain rfl : k = size := by omega
    rw [added_zero] at hL ⊢
    exact gen_leaf n k gc start cur vo L w (by omega) hl (by simpa using hL) G
  | m + 1, k, start, cur, vo, L, w, hk, hl, hst, hL, G => by
    have IH := gen_any n size gc hn hs m (k + 1)
    have hne : ((k : Int) == (size : Int)) = false := by rw [beq_eq_false_iff_ne]; omega
    obtain ⟨i0, hi, hz0, hz1, hz2⟩ := info_parts info3
    go_enter Ybaf.func7, Ybaf.ntmps7
    go_wp2
    go_loopg [4, 13] (n + 2) (fun g v q wr => ∃ Q : Nat, Q + g = n + 2 + start ∧ start ≤ Q ∧ Q ≤ n + 1 ∧ q = .int .i64 Q ∧ ∃ L', L' ++ added n (n + 1 - Q) (m + 1) cur = L ++ added n (n + 1 - start) (m + 1) cur ∧ Gen wr gc size k cur v L' ∧ Below gc w wr)
    case atStart => exact ⟨start, by omega, Nat.le_refl _, hst, rfl, L, rfl, G, Below.refl _ _⟩
    case round =>
      obtain ⟨q, hq1, hq2, hq3, rfl, L', hLe, G', hb'⟩ := hrel
      by_cases hlast : q + m ≤ n
      · have hle : (q : Int) ≤ (n : Int) - ((size : Int) - (k : Int)) + 1 := by omega
        rw [added_succ n q m cur (by omega)] at hLe
        have hlen := congrArg List.length hLe
        simp only [List.length_append] at hlen hL
        have HL : Hid (L' ++ (added n (n - q) m (cur ++ [q]) ++ added n (n - q) (m + 1) cur) = L ++ added n (n + 1 - start) (m + 1) cur) := hLe
        clear hLe
        have hown0 := G'.cur
        go_wp2_with (at_builtin; refine wpList_append_fits _ rfl _ _ 27 rfl gc 3 i0 1 Ybaf.underlying27 hi hz1 gc k size (cur.map iv) rfl (hown0.alloc _) _ 1 1 [iv q] rfl rfl ?c1 ?c2 ?c3 ?_)
        case c1 =>
          intro j u hj
          match j, hj with
          | 0, hj => simp at hj; subst hj; simp [Addr.add]
        case c2 => intro u hu; simp at hu; subst hu; rfl
        case c3 => omega
        intro w2 hown2 hgr2
        have G2 := G'.push _ hgr2 hown2
        have hb2 : Below gc _ w2 := hb'.trans ⟨hgr2.os, hgr2.tape, hgr2.output, Nat.le_trans (by simp) hgr2.size, fun b hb => by
          have := own_lt hown0
          rw [hgr2.block b (by simp; omega) (by simp; omega), Below.heap_alloc _ _ _ (by omega)]⟩
        have hcall := IH (q + 1) (cur ++ [q]) _ L' w2 (by omega) (by simp; omega) (by omega) (by rw [List.length_append, show n + 1 - (q + 1) = n - q by omega]; omega) G2
        rw [show n + 1 - (q + 1) = n - q by omega] at hcall
        clear hgr2 hown2 G2 hown0 hb'
        go_wp2_with (go_at_call 7; refine hcall.mono ?_; rintro e w3 ⟨vo', rfl, G3, b3⟩)
        go_roundg (n + 2 + start - (q + 1))
        case rel => exact ⟨q + 1, by omega, by omega, by omega, by go_num, L' ++ added n (n - q) m (cur ++ [q]), by rw [show n + 1 - (q + 1) = n - q by omega, List.append_assoc]; exact HL.out, G3.pop, hb2.trans b3⟩
        case measure => omega
      · have hle : ¬ (q : Int) ≤ (n : Int) - ((size : Int) - (k : Int)) + 1 := by omega
        rw [added_nil n _ _ cur (by omega), List.append_nil] at hLe
        subst hLe
        go_wp2
        go_ret
        exact ⟨_, rfl, G', hb'⟩
end Go.Proofs.YbulkdtycFmt.S
