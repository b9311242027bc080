/-
  A proof of 'Rows.LawS6033CWholeSaid': the frame is the guide's (a row a parameter), the walk is in the texts 'YbulkdtxoC..'.
-/
import Derived.Test.YbulkdtxoCLaw
import Derived.WalkKit
import Derived.ProofKit
import Derived.OpenShut
import Derived.ShutString
import Derived.ChangeOld
import Derived.Below
import Derived.Deep.Slices
namespace Go.Proofs.Ybulkdtxo.lawS6033CWhole
open Go.ChangeShapes Go.WideShapes Go.ChangeAt Go.RowKit
set_option linter.unusedVariables false

theorem own : ownKnob Yba.prog.godebug = none := by kernel_rfl
theorem laidOut : laidOutB Yba.prog = true := by kernel_rfl
theorem cells73 : Yba.prog.cellsOf 73 = 3 := by kernel_rfl
theorem cells5 : Yba.prog.cellsOf 5 = 1 := by kernel_rfl
theorem cells3 : Yba.prog.cellsOf 3 = 1 := by kernel_rfl

/-- The script that came in, element by element. -/
def IsScript (w : World) (a : Option Addr) (len : Nat) (sT sA sK : Nat → Int) : Prop :=
  ∀ k, k < len → ∃ sb so, a = some ⟨sb, so, none⟩ ∧ sb < w.heap.size ∧ w.cell? ⟨sb, so + k * 3, none⟩ = some (.int .u8 (sT k)) ∧ w.cell? ⟨sb, so + k * 3 + 1, none⟩ = some (.int .i64 (sA k)) ∧
    w.cell? ⟨sb, so + k * 3 + 2, none⟩ = some (.int .u8 (sK k)) ∧ 0 ≤ sT k ∧ sT k ≤ 255 ∧ 0 ≤ sK k ∧ sK k ≤ 255

set_option maxRecDepth 100000 in
theorem open_script {H : Type} {enc : TypeId × Value → H} {W : World} {base : Nat} {spare : Nat → Bool} {held : Bool} {a : Option Addr} {len cap : Nat} {d : DataW H} {p : List MemPlace}
    (h : DataW.Trod enc Yba.prog W base spare held 35 (.slice a len cap) d p) : len ≤ maxLen ∧ ∃ sT sA sK, IsScript W a len sT sA sK := by
  obtain ⟨fuel, hf⟩ := h
  rcases Go.Deep.open_slice Yba.underlying35 hf with ⟨hcs, _⟩ | ⟨x, l, c, m, n, D, Pl, hcs, _, hl, hm, hmm, _, hx⟩
  · simp [Value.cells] at hcs
    obtain ⟨rfl, rfl, rfl⟩ := hcs
    exact ⟨Nat.zero_le _, fun _ => 0, fun _ => 0, fun _ => 0, fun k hk => absurd hk (Nat.not_lt_zero _)⟩
  · simp [Value.cells] at hcs
    obtain ⟨rfl, rfl, rfl⟩ := hcs
    refine ⟨Nat.le_trans hl hm, ?_⟩
    have hlm : len ≤ m := by rw [hmm]; split <;> omega
    have each : ∀ k, k < len → ∃ q : Int × Int × Int, W.cell? (x.add (k * 3)) = some (.int .u8 q.1) ∧ W.cell? (x.add (k * 3 + 1)) = some (.int .i64 q.2.1) ∧ W.cell? (x.add (k * 3 + 2)) = some (.int .u8 q.2.2) ∧
        (Lit.int .u8 q.1).wf = true ∧ (Lit.int .u8 q.2.2).wf = true := by
      intro k hk
      obtain ⟨cs', h1, h2⟩ := hx k (by omega)
      rw [cells73] at h1
      obtain ⟨_, hlen, hcell⟩ := World.cells?_some h1
      obtain ⟨xs, j, _, _, _, hxl, hfs⟩ := DataW.trod_struct Yba.underlying73 h2
      match xs, hxl, cs', hlen with
      | [y0, y1, y2], _, [v0, v1, v2], _ =>
        have g0 := hfs 0 _ rfl
        have g1 := hfs 1 _ rfl
        have g2 := hfs 2 _ rfl
        simp [cells5, cells3] at g0 g1 g2
        obtain ⟨n0, e0, _, w0⟩ := DataW.trod_int Yba.underlying5 g0
        obtain ⟨n1, e1, _, w1⟩ := DataW.trod_int Yba.underlying3 g1
        obtain ⟨n2, e2, _, w2⟩ := DataW.trod_int Yba.underlying5 g2
        simp at e0 e1 e2
        subst e0 e1 e2
        have c0 := hcell 0 (by omega)
        have c1 := hcell 1 (by omega)
        have c2 := hcell 2 (by omega)
        rw [Go.Deep.add_add] at c0 c1 c2
        exact ⟨(n0, n1, n2), by simpa using c0, by simpa using c1, by simpa using c2, w0, w2⟩
    obtain ⟨q, hq⟩ := Go.Deep.choose_lt each
    refine ⟨fun k => (q k).1, fun k => (q k).2.1, fun k => (q k).2.2, fun k hk => ?_⟩
    obtain ⟨h0, h1, h2, w0, w2⟩ := hq k hk
    have hq0 := (hq 0 (by omega)).1
    obtain ⟨sb, so, spot⟩ := x
    have hspot : spot = none := by simpa [Addr.add] using World.cell?_spot hq0
    subst hspot
    rw [Go.WideShapes.add_plain] at h0 h1 h2
    have b0 := bounds_u8 w0
    have b2 := bounds_u8 w2
    exact ⟨sb, so, rfl, World.block_lt_of_cell? W _ h0, h0, by rw [Nat.add_assoc]; exact h1, by rw [Nat.add_assoc]; exact h2, b0.1, b0.2, b2.1, b2.2⟩

theorem walk (a0 a1 a2 a3 : Int) (ad : Option Addr) (len cap : Nat) (a5 a6 : Int) (a7 : Bool) (w : World) (sT sA sK : Nat → Int) (hl : len ≤ maxLen) (hs : IsScript w ad len sT sA sK)
    (w0 : (Lit.int .u8 a0).wf = true) (w1 : (Lit.int .u8 a1).wf = true) (w2 : (Lit.int .u8 a2).wf = true) (w3 : (Lit.int .u16 a3).wf = true) (w6 : (Lit.int .u8 a6).wf = true) :
    Calls Yba.prog 5 #[.int .u8 a0, .int .u8 a1, .int .u8 a2, .int .u16 a3, .slice ad len cap, .int .i64 a5, .int .u8 a6, .bool a7] w fun e w' => e = .returned (.bool true) ∧ Below w.heap.size w w' := by
  by_cases hlen : 65536 < len
  · exact C.walk_long a0 a1 a2 a3 a5 a6 a7 ad len cap w hlen hl
  · have b3 := bounds_u16 w3
    obtain ⟨np, hnp⟩ : ∃ np : Nat, a3 % 2100 = (np : Int) := ⟨(a3 % 2100).toNat, by omega⟩
    exact C.walk_main a0 a1 a2 a3 a5 a6 a7 ad len cap w (by omega) (bounds_u8 w0) (bounds_u8 w1) (bounds_u8 w2) np b3.1 b3.2 hnp sT sA sK (bounds_u8 w6).1 (bounds_u8 w6).2 hs

/-! ### The row's step. -/
set_option maxRecDepth 100000 in
theorem lifted (os : Os) (started : os.Started) (H : Type) (enc : TypeId × Value → H) :
    ReturnsInHanded {} Yba.checked os 5 .any (Rows.lawS6033CWholeSpec.pre6 enc Yba.prog Yba.f5 Rows.lawS6033CWholeRow.domain false) (Rows.lawS6033CWholeSpec.post enc Yba.prog Yba.f5 false true false false) := by
  refine returnsInHanded_of_change (C := Yba.checked) own started (by kernel_rfl) Yba.func5
    (ChangeSpec.witness6 (enc := enc) (C := Yba.checked) false ⟨#[], #[.int .u8 0, .int .u8 0, .int .u8 0, .int .u16 0, .slice none 0 0, .int .i64 0, .int .u8 0, .bool false], []⟩ 8 (by kernel_rfl) (by kernel_rfl) (by kernel_rfl) (by kernel_rfl)) ?_
  intro W base args ds gs before hval0 hW hcnd _
  have hval : ∀ (j : Nat) t v, Yba.f5.params[j]? = some t → args[j]? = some v → Value.okWide Yba.prog W .any base t v := hval0
  have hW' := hW
  obtain ⟨p, q, hA0, hV, rfl, hfz, hnd⟩ := hW
  have hA : DataW.TrodAll enc Yba.prog W 0 (fun _ => true) true Yba.f5.params.toList args.toList ds p := hA0
  rw [Yba.params5] at hA hval
  obtain ⟨v0, vs0, d0, ds0, p0, q0, hargs, rfl, rfl, h0, r0⟩ := trodAll_cons hA
  obtain ⟨v1, vs1, d1, ds1, p1, q1, rfl, rfl, rfl, h1, r1⟩ := trodAll_cons r0
  obtain ⟨v2, vs2, d2, ds2, p2, q2, rfl, rfl, rfl, h2, r2⟩ := trodAll_cons r1
  obtain ⟨v3, vs3, d3, ds3, p3, q3, rfl, rfl, rfl, h3, r3⟩ := trodAll_cons r2
  obtain ⟨v4, vs4, d4, ds4, p4, q4, rfl, rfl, rfl, h4, r4⟩ := trodAll_cons r3
  obtain ⟨v5, vs5, d5, ds5, p5, q5, rfl, rfl, rfl, h5, r5⟩ := trodAll_cons r4
  obtain ⟨v6, vs6, d6, ds6, p6, q6, rfl, rfl, rfl, h6, r6⟩ := trodAll_cons r5
  obtain ⟨v7, vs7, d7, ds7, p7, q7, rfl, rfl, rfl, h7, r7⟩ := trodAll_cons r6
  obtain ⟨rfl, rfl, rfl⟩ := trodAll_nil r7
  obtain rfl : args = #[v0, v1, v2, v3, v4, v5, v6, v7] := by cases args; simp_all
  obtain ⟨rfl, rfl⟩ := trodVars_none hV
  obtain ⟨a0, rfl, rfl, rfl, w0⟩ := open_int Yba.underlying5 (hval 0 5 v0 rfl rfl) h0
  obtain ⟨a1, rfl, rfl, rfl, w1⟩ := open_int Yba.underlying5 (hval 1 5 v1 rfl rfl) h1
  obtain ⟨a2, rfl, rfl, rfl, w2⟩ := open_int Yba.underlying5 (hval 2 5 v2 rfl rfl) h2
  obtain ⟨a3, rfl, rfl, rfl, w3⟩ := open_int Yba.underlying34 (hval 3 34 v3 rfl rfl) h3
  obtain ⟨a4, len4, cap4, rfl⟩ := okWide_slice Yba.underlying35 (hval 4 35 v4 rfl rfl)
  have k4 := h4
  have lt4 : ∀ x ∈ p4, x.block < W.heap.size := by obtain ⟨m, hm⟩ := k4; exact DataW.trod_lt m _ _ _ hm
  obtain ⟨hl4, sT, sA, sK, hs4⟩ := open_script h4
  obtain ⟨a5, rfl, rfl, rfl, w5⟩ := open_int Yba.underlying3 (hval 5 3 v5 rfl rfl) h5
  obtain ⟨a6, rfl, rfl, rfl, w6⟩ := open_int Yba.underlying5 (hval 6 5 v6 rfl rfl) h6
  obtain ⟨a7, rfl, rfl, rfl⟩ := open_bool Yba.underlying4 (hval 7 4 v7 rfl rfl) h7
  clear hA0 hval0
  refine (walk a0 a1 a2 a3 a4 len4 cap4 a5 a6 a7 W sT sA sK hl4 hs4 w0 w1 w2 w3 w6).mono fun e W' ⟨he, bel⟩ => ?_
  subst he
  exact ⟨_, rfl, _, _, _, [], _, [], hW', trodAll_mk1 (shut_bool Yba.underlying4 _), (trodAll_cons_mk (shut_int Yba.underlying5 w0) (trodAll_cons_mk (shut_int Yba.underlying5 w1) (trodAll_cons_mk (shut_int Yba.underlying5 w2) (trodAll_cons_mk (shut_int Yba.underlying34 w3) (trodAll_cons_mk (Below.trod laidOut (by kernel_rfl) (of_decide_eq_true (by kernel_rfl)) k4 bel lt4) (trodAll_cons_mk (shut_int Yba.underlying3 w5) (trodAll_cons_mk (shut_int Yba.underlying5 w6) (trodAll_cons_mk (shut_bool Yba.underlying4 _) trodAll_mk0)))))))), rfl, bel.frame _, fun h => by cases h⟩

theorem over : Rows.lawS6033CWholeRow.holds Yba.pinned (OpenSpec.ofChange Rows.lawS6033CWholeSpec) :=
  OpenClaim.holds_of_wide 5 Yba.f5 rfl rfl rfl rfl rfl rfl rfl ⟨rfl, rfl, rfl, rfl, rfl⟩ rfl rfl rfl rfl rfl (by kernel_rfl) Yba.func5 (by kernel_rfl)
    (of_decide_eq_true (by kernel_rfl)) (by unfold Func.isWrapper; first | (rw [if_pos (by decide +kernel)]; kernel_rfl) | (rw [if_neg (by decide +kernel)]; exact ⟨rfl, rfl⟩))
    (fun os started H enc _ => lifted os started H enc)

/-- The given statement. -/
theorem proved : Rows.LawS6033CWholeSaid :=
  over
end Go.Proofs.Ybulkdtxo.lawS6033CWhole
