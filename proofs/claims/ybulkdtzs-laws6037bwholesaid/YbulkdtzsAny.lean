/-
  The law (f3), whole: the early return, a nil buffer, a copied buffer.
-/
import Derived.Test.YbulkdtzsLaw
import Derived.Laws.CopyOwn
import Derived.Laws.OwnMore
import Derived.Laws.Cover3
namespace Go.Proofs.Ybulkdtzs.S
open Go.RowKit

def Prior (w : World) (a : Option Addr) (n cp : Nat) (bs : Nat → Int) : Prop :=
  n ≤ maxLen ∧ (a = none → n = 0 ∧ cp = 0) ∧ ∀ j, j < n → ∃ b o, a = some ⟨b, o, none⟩ ∧ b < w.heap.size ∧ w.cell? ⟨b, o + j, none⟩ = some (.int .u8 (bs j))

theorem own_of_heap {w : World} {B g n : Nat} {cs : List Value} (h : w.heap[g]? = some (.cells cs.toArray 5 (0, 0))) (hl : cs.length = n) (hB : B ≤ g) (hn : n ≤ maxLen) : w.ownsRow B 5 1 (.slice (some ⟨g, 0, none⟩) n n) n cs :=
  ⟨by simpa using hl, .inr ⟨g, n, cs.toArray, rfl, hB, h, Nat.le_refl _, hn, by simpa using hl, by simp [List.take_of_length_le, hl]⟩⟩

set_option maxRecDepth 1000000 in
set_option maxHeartbeats 4000000 in
theorem law_any (a : Option Addr) (n cp id fl rc : Nat) (bs : Nat → Int) (t0 t5 t8 : Bool) (t1 t2 t3 t4 t6 t7 t9 : Int) (w : World) (h0 : id < 65536) (h1 : fl < 65536) (h2 : rc < 65536) (hp : Prior w a n cp bs) :
    Calls Yba.prog 3 #[.int .u16 id, .int .u16 fl, .int .u16 rc, .slice a n cp, .agg #[.bool t0, .int .i64 t1, .int .i64 t2, .int .i64 t3, .int .u16 t4, .bool t5, .int .i64 t6, .int .u16 t7, .bool t8, .int .u32 t9]] w fun e w' => e = .returned (.bool true) ∧ Below w.heap.size w w' := by
  obtain ⟨hn, hnil, hbs⟩ := hp
  have e23 := fun a l c w => run_neq_slice_nil (P := Yba.prog) w 23 5 a l c Yba.underlying23
  have hb1 : Below w.heap.size w (w.alloc (.cells #[.bool t0, .int .i64 t1, .int .i64 t2, .int .i64 t3, .int .u16 t4, .bool t5, .int .i64 t6, .int .u16 t7, .bool t8, .int .u32 t9] 26)) := (Below.refl _ w).alloc (Nat.le_refl _) _
  have tb1 : (w.alloc (.cells #[.bool t0, .int .i64 t1, .int .i64 t2, .int .i64 t3, .int .u16 t4, .bool t5, .int .i64 t6, .int .u16 t7, .bool t8, .int .u32 t9] 26)).heap[w.heap.size]? = some (.cells #[.bool t0, .int .i64 t1, .int .i64 t2, .int .i64 t3, .int .u16 t4, .bool t5, .int .i64 t6, .int .u16 t7, .bool t8, .int .u32 t9] 26) := heap_alloc_new w _
  by_cases hlen : 1048576 < n
  · have hlen' : (1048576 : Int) < n := by omega
    go_enter Yba.func3, Yba.ntmps3
    go_wp2
    go_ret
    exact ⟨rfl, hb1⟩
  · have hlen' : ¬ (1048576 : Int) < n := by omega
    cases a with
    | none =>
      obtain ⟨rfl, rfl⟩ := hnil rfl
      go_enter Yba.func3, Yba.ntmps3
      iterate 55 go_step
      apply law_tail (w0 := w) (ys := []) (t0 := t0) (t1 := t1) (t2 := t2) (t3 := t3) (t4 := t4) (t5 := t5) (t6 := t6) (t7 := t7) (t8 := t8) (t9 := t9)
      case h0 => exact h0
      case h1 => exact h1
      case h2 => exact h2
      case hown => exact ⟨rfl, .inl ⟨rfl, rfl⟩⟩
      case hb0 => exact hb1
      case htb => exact tb1
    | some ad =>
      obtain ⟨i0, hi, hz0, hz1, hz2⟩ := info_parts info5
      have hmk := run_make (P := Yba.prog) (w.alloc (.cells #[.bool t0, .int .i64 t1, .int .i64 t2, .int .i64 t3, .int .u16 t4, .bool t5, .int .i64 t6, .int .u16 t7, .bool t8, .int .u32 t9] 26)) 23 5 i0 (.int .u8 0) Yba.underlying23 hi hz0 .i64 .i64 n n (by omega) (Int.le_refl _) (by rw [hz2]; omega) (by omega)
      simp only [Int.toNat_natCast, hz1, Nat.mul_one] at hmk
      have hsz : (Yba.prog.info? 5).map (·.size) = some 1 := by rw [hi]; simp [hz1]
      go_enter Yba.func3, Yba.ntmps3
      iterate 76 go_step
      refine wpList_copy_splice rfl _ _ 23 23 rfl 5 Yba.underlying23 hsz _ _ _ _ _ _ rfl rfl (w.heap.size + 1) 0 (madeCells (Value.cells (.int .u8 0)) n).toList 5 ?g1 ((List.range n).map fun j => Value.int .u8 (bs j)) ?g2 ?g3 ?g4 ?g5 (w.heap.size + 1) (w.alloc (.cells #[.bool t0, .int .i64 t1, .int .i64 t2, .int .i64 t3, .int .u16 t4, .bool t5, .int .i64 t6, .int .u16 t7, .bool t8, .int .u32 t9] 26)) ?g6 ?g7 ?g8
      case g1 =>
        have h := heap_alloc_new (w.alloc (.cells #[.bool t0, .int .i64 t1, .int .i64 t2, .int .i64 t3, .int .u16 t4, .bool t5, .int .i64 t6, .int .u16 t7, .bool t8, .int .u32 t9] 26)) (.cells (madeCells #[Value.int .u8 0] n) 5)
        simpa [Value.cells] using h
      case g2 => simp
      case g3 =>
        intro hpos
        simp only [List.length_map, List.length_range] at hpos
        refine ⟨rfl, ad, rfl, fun j v hj => ?_⟩
        obtain ⟨b, o, hab, _, _⟩ := hbs 0 hpos
        cases hab
        have hjn : j < n := by
          rcases Nat.lt_or_ge j n with h | h
          · exact h
          · rw [List.getElem?_eq_none (by simpa using h)] at hj; cases hj
        obtain ⟨b', o', hab, hlt, hc⟩ := hbs j hjn
        cases hab
        simp [List.getElem?_range hjn] at hj
        subst hj
        rw [Go.WideShapes.add_plain]
        have hbb := hb1.alloc (Nat.le_trans hb1.size (Nat.le_refl _)) (.cells (madeCells #[Value.int .u8 0] n) 5)
        exact (hbb.cell (p := ⟨b, o + j, none⟩) hlt).trans hc
      case g4 => simp [size_madeCells]
      case g5 =>
        intro v hv
        simp at hv
        obtain ⟨x, _, rfl⟩ := hv
        rfl
      case g6 => exact (Below.refl _ _).alloc (by simp) _
      case g7 => exact Nat.le_refl _
      case g8 =>
        intro w4 hg4 hb4
        generalize goInt _ = gv
        simp only [go_sem]
        iterate 3 go_step
        apply law_tail (w0 := w) (ys := splice (madeCells (Value.cells (.int .u8 0)) n).toList 0 ((List.range n).map fun j => Value.int .u8 (bs j))) (t0 := t0) (t1 := t1) (t2 := t2) (t3 := t3) (t4 := t4) (t5 := t5) (t6 := t6) (t7 := t7) (t8 := t8) (t9 := t9)
        case h0 => exact h0
        case h1 => exact h1
        case h2 => exact h2
        case hown => exact own_of_heap hg4 (by rw [length_splice _ _ _ (by simp [size_madeCells])]; simp [size_madeCells]) (by omega) hn
        case hb0 => exact hb1.trans (hb4.mono (by omega))
        case htb => exact (hb4.block _ (by omega)).trans tb1
end Go.Proofs.Ybulkdtzs.S
