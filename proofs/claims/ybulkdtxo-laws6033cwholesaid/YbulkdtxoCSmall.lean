import Derived.Test.YbulkdtxoRows
import Derived.Test.YbulkdtxoCBase
import Derived.WalkKit
import Derived.LaidEqlPtr
import Derived.BigQuiet
import Derived.Deep.QuietTactic
namespace Go.Proofs.Ybulkdtxo.C
open Go.RowKit

set_option maxHeartbeats 400000 in
theorem block_zero (b : Nat) (w : World) :
    Calls Yba.prog 14 #[.pointer (some ⟨b, 4, none⟩), .int .i64 0] w fun e w' => e = .returned (.pointer (some ⟨b, 4, none⟩)) ∧ w' = w := by
  go_enter Yba.func14, Yba.ntmps14
  go_wp2
  go_ret
  exact ⟨rfl, rfl⟩

set_option maxHeartbeats 400000 in
theorem block_succ (b k gr m capr : Nat) (w : World) (h : w.cell? ⟨b, 5, none⟩ = some (.slice (some ⟨gr, 0, none⟩) m capr)) (hk : k < m) (hm : m ≤ 100000) :
    Calls Yba.prog 14 #[.pointer (some ⟨b, 4, none⟩), .int .i64 ((k : Int) + 1)] w fun e w' => e = .returned (.pointer (some ⟨gr, k, none⟩)) ∧ w' = w := by
  have h1 : ((k : Int) + 1 == 0) = false := by simp; omega
  have h2 : (k : Int) < (m : Int) := by omega
  go_enter Yba.func14, Yba.ntmps14
  go_wp2
  go_ret
  exact ⟨rfl, rfl⟩

set_option maxHeartbeats 400000 in
theorem len_any (b : Nat) (n : Int) (w : World) (h : w.cell? ⟨b, 6, none⟩ = some (.int .i64 n)) :
    Calls Yba.prog 15 #[.pointer (some ⟨b, 4, none⟩)] w fun e w' => e = .returned (.int .i64 n) ∧ w' = w := by
  go_enter Yba.func15, Yba.ntmps15
  go_wp2
  go_ret
  exact ⟨rfl, rfl⟩


theorem lt_of {w : World} {b o : Nat} {v : Value} (h : w.cell? ⟨b, o, none⟩ = some v) : b < w.heap.size := World.block_lt_of_cell? w ⟨b, o, none⟩ h

set_option maxHeartbeats 400000 in
theorem at_first (b i g n cap : Nat) (e : Ent) (w : World) (hi : i < 1024) (hn : i < n) (h : w.cell? ⟨b, 4, none⟩ = some (.slice (some ⟨g, 0, none⟩) n cap))
    (c0 : w.cell? ⟨g, i * 4, none⟩ = some (.pointer e.t)) (c1 : w.cell? ⟨g, i * 4 + 1, none⟩ = some (.int .i64 e.pos))
    (c2 : w.cell? ⟨g, i * 4 + 2, none⟩ = some (.slice e.ra e.rl e.rc)) (c3 : w.cell? ⟨g, i * 4 + 3, none⟩ = some (.pointer e.cl)) :
    Calls Yba.prog 16 #[.pointer (some ⟨b, 4, none⟩), .int .i64 i] w fun r w' => r = .returned (.agg e.cells.toArray) ∧ Below w.heap.size w w' := by
  have hb := lt_of h
  have hg := lt_of c0
  have hq : (i : Int) / 1024 = 0 := by omega
  have hr : (i : Int) % 1024 = i := by omega
  have hin : (i : Int) < (n : Int) := by omega
  go_enter Yba.func16, Yba.ntmps16
  go_wp2_with (go_at_call 14; refine (block_zero _ _).mono ?_; rintro e w' ⟨rfl, rfl⟩)
  exact bodyPost_ret (v := .agg e.cells.toArray) (by simp [results, Yba.results16, go_sem, Ent.cells]) rfl ⟨rfl, (Below.refl _ _).alloc (Nat.le_refl _) _⟩

set_option maxHeartbeats 400000 in
theorem at_rest (b i k j gr m capr g n cap : Nat) (e : Ent) (w : World) (hi : i = 1024 * (k + 1) + j) (hj : j < 1024) (hk : k < m) (hm : m ≤ 100000) (hn : j < n)
    (h : w.cell? ⟨b, 5, none⟩ = some (.slice (some ⟨gr, 0, none⟩) m capr))
    (hv : w.cell? ⟨gr, k, none⟩ = some (.slice (some ⟨g, 0, none⟩) n cap))
    (c0 : w.cell? ⟨g, j * 4, none⟩ = some (.pointer e.t)) (c1 : w.cell? ⟨g, j * 4 + 1, none⟩ = some (.int .i64 e.pos))
    (c2 : w.cell? ⟨g, j * 4 + 2, none⟩ = some (.slice e.ra e.rl e.rc)) (c3 : w.cell? ⟨g, j * 4 + 3, none⟩ = some (.pointer e.cl)) :
    Calls Yba.prog 16 #[.pointer (some ⟨b, 4, none⟩), .int .i64 i] w fun r w' => r = .returned (.agg e.cells.toArray) ∧ Below w.heap.size w w' := by
  have hb := lt_of h
  have hg := lt_of c0
  have hgr := lt_of hv
  have hq : (i : Int) / 1024 = (k : Int) + 1 := by omega
  have hr : (i : Int) % 1024 = j := by omega
  have hin : (j : Int) < (n : Int) := by omega
  have hi' : (i : Int) ≤ 200000000 := by omega
  have H : Hid (∀ o, (w.alloc o).cell? ⟨b, 5, none⟩ = some (.slice (some ⟨gr, 0, none⟩) m capr)) := fun o => (World.cell?_alloc_past o b 5 hb).trans h
  clear hi
  go_enter Yba.func16, Yba.ntmps16
  go_wp2_with (go_at_call 14; refine (block_succ b k gr m capr _ (H.out _) hk hm).mono ?_; rintro r w' ⟨rfl, rfl⟩)
  exact bodyPost_ret (v := .agg e.cells.toArray) (by simp [results, Yba.results16, go_sem, Ent.cells]) rfl ⟨rfl, (Below.refl _ _).alloc (Nat.le_refl _) _⟩

set_option maxRecDepth 100000 in
set_option maxHeartbeats 400000 in
theorem cat_first (b i g n cap : Nat) (e : Ent) (w : World) (hi : i < 1024) (hn : i < n) (h : w.cell? ⟨b, 4, none⟩ = some (.slice (some ⟨g, 0, none⟩) n cap))
    (c0 : w.cell? ⟨g, i * 4, none⟩ = some (.pointer e.t)) (c1 : w.cell? ⟨g, i * 4 + 1, none⟩ = some (.int .i64 e.pos))
    (c2 : w.cell? ⟨g, i * 4 + 2, none⟩ = some (.slice e.ra e.rl e.rc)) (c3 : w.cell? ⟨g, i * 4 + 3, none⟩ = some (.pointer e.cl)) :
    Calls Yba.prog 12 #[.pointer (some ⟨b, 4, none⟩), .int .i64 i] w fun r w' => r = .returned (.tuple #[.agg e.cells.toArray, .bool true]) ∧ Below w.heap.size w w' := by
  have hb := lt_of h
  have hg := lt_of c0
  have hin : (i : Int) < (n : Int) := by omega
  have hi' : (i : Int) < 1024 := by omega
  go_enter Yba.func12, Yba.ntmps12
  go_wp2
  exact bodyPost_ret (v := .tuple #[.agg e.cells.toArray, .bool true]) (by simp [results, Yba.results12, go_sem, Ent.cells]) rfl ⟨rfl, (Below.refl _ _).alloc (Nat.le_refl _) _⟩

set_option maxRecDepth 100000 in
set_option maxHeartbeats 400000 in
theorem cat_rest (b i k j gr m capr g n cap : Nat) (e : Ent) (w : World) (hi : i = 1024 * (k + 1) + j) (hj : j < 1024) (hk : k < m) (hm : m ≤ 100000) (hn : j < n)
    (h : w.cell? ⟨b, 5, none⟩ = some (.slice (some ⟨gr, 0, none⟩) m capr))
    (hv : w.cell? ⟨gr, k, none⟩ = some (.slice (some ⟨g, 0, none⟩) n cap))
    (c0 : w.cell? ⟨g, j * 4, none⟩ = some (.pointer e.t)) (c1 : w.cell? ⟨g, j * 4 + 1, none⟩ = some (.int .i64 e.pos))
    (c2 : w.cell? ⟨g, j * 4 + 2, none⟩ = some (.slice e.ra e.rl e.rc)) (c3 : w.cell? ⟨g, j * 4 + 3, none⟩ = some (.pointer e.cl)) :
    Calls Yba.prog 12 #[.pointer (some ⟨b, 4, none⟩), .int .i64 i] w fun r w' => r = .returned (.tuple #[.agg e.cells.toArray, .bool true]) ∧ Below w.heap.size w w' := by
  have hb := lt_of h
  have hg := lt_of c0
  have hgr := lt_of hv
  have hq : (i : Int) / 1024 = (k : Int) + 1 := by omega
  have hr : (i : Int) % 1024 = j := by omega
  have hin : (j : Int) < (n : Int) := by omega
  have hkm : (k : Int) < (m : Int) := by omega
  have hi' : (i : Int) ≤ 200000000 := by omega
  have hlo : 1024 ≤ (i : Int) := by omega
  clear hi
  go_enter Yba.func12, Yba.ntmps12
  go_wp2
  exact bodyPost_ret (v := .tuple #[.agg e.cells.toArray, .bool true]) (by simp [results, Yba.results12, go_sem, Ent.cells]) rfl ⟨rfl, (Below.refl _ _).alloc (Nat.le_refl _) _⟩


/-- What an entry's row may be: nil, or a slice of one element at the head of a block. -/
def Ent.ok (e : Ent) : Prop := (e.ra = none ∧ e.rl = 0 ∧ e.rc = 0) ∨ ∃ g, e.ra = some ⟨g, 0, none⟩ ∧ e.rl = 1 ∧ e.rc = 1

theorem info37 : ∃ i, Yba.prog.info? 48 = some i := Option.isSome_iff_exists.1 (by kernel_rfl)
theorem info68 : ∃ i, Yba.prog.info? 41 = some i := Option.isSome_iff_exists.1 (by kernel_rfl)
theorem info85 : ∃ i, Yba.prog.info? 25 = some i := Option.isSome_iff_exists.1 (by kernel_rfl)

theorem neq_same {tp te : TypeId} (hp : Yba.prog.underlying tp = some (.pointer te)) (hte : ∃ i, Yba.prog.info? te = some i) (p : Option Addr) (w : World) :
    (binOp .neq tp (.pointer p) (.pointer p)).run Yba.prog w = .ok (.bool false) w := by
  obtain ⟨j, hj⟩ := hte
  cases p with
  | none =>
    have h : ∀ d : Nat, (Op.equalIn (d + 1) tp (.pointer none) (.pointer none)).run Yba.prog w = .ok true w := fun d => by simp [Op.equalIn, run_underlying hp]
    simp only [binOp]
    simp [Op.equal, Op.maxDepth, h 9999]
  | some a =>
    have h : ∀ d : Nat, (Op.equalIn (d + 1) tp (.pointer (some a)) (.pointer (some a))).run Yba.prog w = .ok true w := fun d => by
      simp [Op.equalIn, run_underlying hp, sizeOf, typeInfo, hj, run_sameAddr_same]
    simp only [binOp]
    simp [Op.equal, Op.maxDepth, h 9999]

theorem equal_slice_nil {t e : TypeId} (hp : Yba.prog.underlying t = some (.slice e)) (p : Option Addr) (l c : Nat) (w : World) :
    (Op.equal t (.slice p l c) (.slice none 0 0)).run Yba.prog w = .ok p.isNone w := by
  have h : ∀ d : Nat, (Op.equalIn (d + 1) t (.slice p l c) (.slice none 0 0)).run Yba.prog w = .ok p.isNone w := fun d => by
    cases p <;> simp [Op.equalIn, run_underlying hp]
  exact h 9999

theorem eql_slice_nil {t e : TypeId} (hp : Yba.prog.underlying t = some (.slice e)) (p : Option Addr) (l c : Nat) (w : World) :
    (binOp .eql t (.slice p l c) (.slice none 0 0)).run Yba.prog w = .ok (.bool p.isNone) w := by
  simp only [binOp]
  simp [equal_slice_nil hp]

theorem neq_slice_nil {t e : TypeId} (hp : Yba.prog.underlying t = some (.slice e)) (p : Option Addr) (l c : Nat) (w : World) :
    (binOp .neq t (.slice p l c) (.slice none 0 0)).run Yba.prog w = .ok (.bool (!p.isNone)) w := by
  simp only [binOp]
  simp [equal_slice_nil hp]

set_option maxRecDepth 100000 in
set_option maxHeartbeats 400000 in
theorem ceq_same (e : Ent) (he : e.ok) (w : World) :
    Calls Yba.prog 13 #[.agg e.cells.toArray, .agg e.cells.toArray] w fun r w' => r = .returned (.bool true) ∧ Below w.heap.size w w' := by
  obtain ⟨t, pos, ra, rl, rc, cl⟩ := e
  rcases he with ⟨h1, h2, h3⟩ | ⟨g, h1, h2, h3⟩
  · simp only at h1 h2 h3
    subst h1 h2 h3
    simp only [Ent.cells]
    have h37 := neq_same Yba.underlying37 info37
    have h68 := neq_same Yba.underlying68 info68
    have h85 := neq_same Yba.underlying85 info85
    have h50 := eql_slice_nil Yba.underlying50
    go_enter Yba.func13, Yba.ntmps13
    go_wp2
    go_quiet (fail)
    go_wp2
    go_ret
    exact ⟨rfl, below_drewN (((Below.refl _ _).alloc (Nat.le_refl _) _).alloc (by simp) _) _⟩
  · simp only at h1 h2 h3
    subst h1 h2 h3
    simp only [Ent.cells]
    have h37 := neq_same Yba.underlying37 info37
    have h68 := neq_same Yba.underlying68 info68
    have h85 := neq_same Yba.underlying85 info85
    have h50 := eql_slice_nil Yba.underlying50
    go_enter Yba.func13, Yba.ntmps13
    go_wp2
    go_quiet (fail)
    go_wp2
    go_ret
    exact ⟨rfl, below_drewN (((Below.refl _ _).alloc (Nat.le_refl _) _).alloc (by simp) _) _⟩

end Go.Proofs.Ybulkdtxo.C
