import Derived.Test.YbulkdtxoCFind
import Derived.Deep.RegionWith
namespace Go.Proofs.Ybulkdtxo.C
open Go.RowKit

theorem info48 : ∃ i, Yba.prog.info? 48 = some i ∧ i.size ≠ 0 := by
  have : (Yba.prog.info? 48).map (fun i => i.size) = some 28 := by kernel_rfl
  cases h : Yba.prog.info? 48 with
  | none => rw [h] at this; simp at this
  | some i => rw [h] at this; simp at this; exact ⟨i, rfl, by omega⟩

/-- Two tables' pointers compared: both lie at the heads of blocks of cells. -/
theorem eql_tab {w : World} {ta tb : Nat} {ca cb : Array Value} {ea eb : TypeId} (ha : w.heap[ta]? = some (.cells ca ea (0, 0))) (hb : w.heap[tb]? = some (.cells cb eb (0, 0))) :
    (binOp .eql 37 (.pointer (some ⟨ta, 0, none⟩)) (.pointer (some ⟨tb, 0, none⟩))).run Yba.prog w = .ok (.bool (decide (ta = tb))) w := by
  obtain ⟨i, hi, hs⟩ := info48
  by_cases h : ta = tb
  · subst h
    simpa using run_eql_ptr_same (P := Yba.prog) w ⟨ta, 0, none⟩ Yba.underlying37 hi
  · simp only [h, decide_false]
    exact run_eql_ptr_other (P := Yba.prog) w (a := ⟨ta, 0, none⟩) (b := ⟨tb, 0, none⟩) Yba.underlying37 hi hs (fun e => h (congrArg Addr.block e)) ha hb

theorem bcell {W w1 : World} (hb : Below W.heap.size W w1) : (∀ b o, b < W.heap.size → w1.cell? ⟨b, o, none⟩ = W.cell? ⟨b, o, none⟩) ∧ (∀ b o, b < W.heap.size → w1.frozen? ⟨b, o, none⟩ = W.frozen? ⟨b, o, none⟩) :=
  ⟨fun b o h => hb.cell (p := ⟨b, o, none⟩) h, fun b o h => hb.frozen (p := ⟨b, o, none⟩) h⟩

set_option maxRecDepth 100000 in
set_option maxHeartbeats 1000000 in
theorem app_plain (w : World) (base b tb : Nat) (es : List Ent) (X : List Rec) (alone : Bool) (outer : Int) (rv : Option Addr) (lt rc : Nat) (h : Inv w base b es X) (hb : b < base) (hbase : base ≤ w.heap.size) (hn : es.length ≤ 100000)
    (htb : tb < base) (hrows : w.cell? ⟨tb, 2, none⟩ = some (.slice rv lt rc)) (hout : w.cell? ⟨b, 3, none⟩ = some (.int .i64 outer))
    (hno : alone = false ∨ (alone = true ∧ (es.length : Int) ≤ outer)) :
    Calls Yba.prog 11 #[.pointer (some ⟨b, 0, none⟩), .pointer (some ⟨tb, 0, none⟩), .bool alone] w fun r w' => r = .returned (.tuple #[]) ∧ Inv w' base b (es ++ [⟨some ⟨tb, 0, none⟩, lt, none, 0, 0, none⟩]) X ∧ Kept w w' base b := by
  have hc := h.cnt
  have hbl : b < w.heap.size := by omega
  have htl : tb < w.heap.size := by omega
  have P := push_any w.drew base b es X ⟨some ⟨tb, 0, none⟩, lt, none, 0, 0, none⟩ (h.below (Below.refl _ _).drew hbl) hb hbase hn
  simp only [Ent.cells] at P
  rcases hno with rfl | ⟨rfl, hno⟩
  all_goals
    go_enter Yba.func11, Yba.ntmps11
    go_wp2_with (go_at_call 15; refine (len_any _ _ _ hc).mono ?_; rintro r w' ⟨rfl, rfl⟩)
    go_region_with (go_at_call 10; refine P.mono ?_; rintro r w' ⟨rfl, hi, hk⟩)
    all_goals go_wp2
    all_goals go_end0
    all_goals exact ⟨rfl, hi, (kept_below ((Below.refl _ _).drew) hbase hb).trans hk⟩

/-- What the two tests on the latest entry ask. -/
def hit (l : Ent) (tl tb : Nat) : Bool := decide (tl = tb) && l.ra.isNone && l.cl.isNone

set_option maxRecDepth 100000 in
set_option maxHeartbeats 1000000 in
theorem app_last (w : World) (base b tb tl : Nat) (es : List Ent) (l : Ent) (X : List Rec) (outer : Int) (rv : Option Addr) (lt rc : Nat) (h : Inv w base b (es ++ [l]) X) (hb : b < base) (hbase : base ≤ w.heap.size) (hn : es.length + 1 ≤ 100000)
    (htb : tb < base) (htl : tl < base) (hrows : w.cell? ⟨tb, 2, none⟩ = some (.slice rv lt rc)) (hout : w.cell? ⟨b, 3, none⟩ = some (.int .i64 outer))
    (hl : l.t = some ⟨tl, 0, none⟩) (ca cb : Array Value) (ea eb : TypeId) (ha : w.heap[tl]? = some (.cells ca ea (0, 0))) (hb' : w.heap[tb]? = some (.cells cb eb (0, 0)))
    (hno : outer < (es.length : Int) + 1) :
    Calls Yba.prog 11 #[.pointer (some ⟨b, 0, none⟩), .pointer (some ⟨tb, 0, none⟩), .bool true] w fun r w' => r = .returned (.tuple #[]) ∧
      Inv w' base b (if hit l tl tb then es ++ [l] else es ++ [l] ++ [⟨some ⟨tb, 0, none⟩, lt, none, 0, 0, none⟩]) X ∧ Kept w w' base b := by
  have hc := h.cnt
  have hbl : b < w.heap.size := by omega
  have htbl : tb < w.heap.size := by omega
  have hc' : w.cell? ⟨b, 6, none⟩ = some (.int .i64 ((es.length : Int) + 1)) := by rw [hc]; simp
  clear hc
  have AT := at_any h (i := es.length) (e := l) (by simp) (by simp; omega)
  have hcmp : Hid (∀ w1, Below w.heap.size w w1 → ∀ o, (binOp .eql 37 (.pointer (some ⟨tl, 0, none⟩)) (.pointer (some ⟨tb, 0, none⟩))).run Yba.prog (w1.alloc o) = .ok (.bool (decide (tl = tb))) (w1.alloc o)) := by
    intro w1 hw o
    have hs := hw.size
    refine eql_tab (ca := ca) (cb := cb) (ea := ea) (eb := eb) ?_ ?_
    · rw [Below.heap_alloc _ _ _ (by omega), hw.block _ (by omega)]; exact ha
    · rw [Below.heap_alloc _ _ _ (by omega), hw.block _ (by omega)]; exact hb'
  have P : Hid (∀ w1 o, Below w.heap.size w w1 → Calls Yba.prog 10 #[.pointer (some ⟨b, 4, none⟩), .agg #[.pointer (some ⟨tb, 0, none⟩), .int .i64 lt, .slice none 0 0, .pointer none]] (w1.alloc o).drew
      fun r w' => r = .returned (.tuple #[]) ∧ Inv w' base b (es ++ [l] ++ [⟨some ⟨tb, 0, none⟩, lt, none, 0, 0, none⟩]) X ∧ Kept w w' base b) := by
    intro w1 o hw
    have hB : Below w.heap.size w (w1.alloc o).drew := (hw.alloc hw.size o).drew
    refine (push_any (w1.alloc o).drew base b (es ++ [l]) X ⟨some ⟨tb, 0, none⟩, lt, none, 0, 0, none⟩ (h.below hB hbl) hb (Nat.le_trans hbase hB.size) (by simp; omega)).mono ?_
    rintro r w' ⟨h1, h2, h3⟩
    exact ⟨h1, h2, (kept_below hB hbase hb).trans h3⟩
  have H : Hid (Inv w base b (es ++ [l]) X) := h
  clear h
  obtain ⟨t, pos, ra, rl, rcc, cl⟩ := l
  simp only at hl
  subst hl
  simp only [Ent.cells] at AT
  have h50 := eql_slice_nil Yba.underlying50
  by_cases hhit : tl = tb ∧ ra = none ∧ cl = none
  · obtain ⟨rfl, rfl, rfl⟩ := hhit
    have hh : ∀ a b c d e, hit ⟨a, b, none, c, d, none⟩ e e = true := fun _ _ _ _ _ => by simp [hit]
    simp only [hh, if_true]
    clear P
    go_enter Yba.func11, Yba.ntmps11
    go_wp2_with (first | (go_at_call 15; refine (len_any _ _ _ hc').mono ?_; rintro r w' ⟨rfl, rfl⟩) | (go_at_call 16; refine AT.mono ?_; rintro r w1 ⟨rfl, hbel⟩; have hcm := hcmp.out _ hbel))
    refine bodyPost_ret (results_none rfl _ _ _) rfl ?_
    have hB := hbel.alloc hbel.size (Obj.cells #[.pointer (some ⟨tl, 0, none⟩), .int .i64 pos, .slice none rl rcc, .pointer none] 70)
    exact ⟨rfl, H.out.below hB hbl, kept_below hB hbase hb⟩
  · have hh : hit ⟨some ⟨tl, 0, none⟩, pos, ra, rl, rcc, cl⟩ tl tb = false := by
      simp only [hit, Bool.and_eq_false_iff, decide_eq_false_iff_not, Option.isNone_eq_false_iff, Option.isSome_iff_ne_none]
      by_cases h1 : tl = tb
      · by_cases h2 : ra = none
        · exact .inr (fun h3 => hhit ⟨h1, h2, h3⟩)
        · exact .inl (.inr h2)
      · exact .inl (.inl h1)
    rw [hh]
    simp only [Bool.false_eq_true, if_false]
    clear hh
    have ways : (¬ tl = tb) ∨ (tl = tb ∧ ∃ a, ra = some a) ∨ (tl = tb ∧ ra = none ∧ ∃ a, cl = some a) := by
      by_cases h1 : tl = tb
      · cases ra with
        | some a => exact .inr (.inl ⟨h1, a, rfl⟩)
        | none =>
          cases cl with
          | some a => exact .inr (.inr ⟨h1, rfl, a, rfl⟩)
          | none => exact absurd ⟨h1, rfl, rfl⟩ hhit
      · exact .inl h1
    clear hhit
    rcases ways with h1 | ⟨rfl, a, rfl⟩ | ⟨rfl, rfl, a, rfl⟩
    all_goals
      go_enter Yba.func11, Yba.ntmps11
      go_wp2_with (first | (go_at_call 15; refine (len_any _ _ _ hc').mono ?_; rintro r w' ⟨rfl, rfl⟩) | (go_at_call 16; refine AT.mono ?_; rintro r w1 ⟨rfl, hbel⟩; have hcm := hcmp.out _ hbel; obtain ⟨bc, bf⟩ := bcell hbel; have htb1 := Nat.lt_of_lt_of_le htbl hbel.size))
      go_region_with (go_at_call 10; refine (P.out _ _ hbel).mono ?_; rintro r w' ⟨rfl, hi, hk⟩)
      all_goals go_wp2
      all_goals go_end0
      all_goals exact ⟨rfl, hi, hk⟩

end Go.Proofs.Ybulkdtxo.C
