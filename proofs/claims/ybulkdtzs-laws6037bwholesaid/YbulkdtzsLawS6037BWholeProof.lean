/-
  A proof of 'Rows.LawS6037BWholeSaid': the frame is the guide's (a row a parameter), the walk is in the texts 'Ybulkdtzs..'.
-/
import Derived.Test.YbulkdtzsAny
import Derived.Test.YbulkdtzsRows
import Derived.WalkKit
import Derived.ProofKit
import Derived.OpenShut
import Derived.ShutString
import Derived.ChangeOld
import Derived.Below
import Derived.Deep.Slices
namespace Go.Proofs.Ybulkdtzs.lawS6037BWhole
open Go.ChangeShapes Go.WideShapes Go.ChangeAt Go.RowKit
set_option linter.unusedVariables false

theorem own : ownKnob Yba.prog.godebug = none := by kernel_rfl
theorem laidOut : laidOutB Yba.prog = true := by kernel_rfl
theorem cells5 : Yba.prog.cellsOf 5 = 1 := by kernel_rfl
theorem cells3 : Yba.prog.cellsOf 3 = 1 := by kernel_rfl
theorem cells4 : Yba.prog.cellsOf 4 = 1 := by kernel_rfl
theorem cells22 : Yba.prog.cellsOf 22 = 1 := by kernel_rfl
theorem cells24 : Yba.prog.cellsOf 24 = 1 := by kernel_rfl
theorem cells26 : Yba.prog.cellsOf 26 = 10 := by kernel_rfl

set_option maxRecDepth 100000 in
theorem open_prior {H : Type} {enc : TypeId × Value → H} {W : World} {base : Nat} {spare : Nat → Bool} {held : Bool} {a : Option Addr} {len cap : Nat} {d : DataW H} {p : List MemPlace}
    (h : DataW.Trod enc Yba.prog W base spare held 23 (.slice a len cap) d p) : ∃ bs, S.Prior W a len cap bs := by
  obtain ⟨fuel, hf⟩ := h
  rcases Go.Deep.open_slice Yba.underlying23 hf with ⟨hcs, _⟩ | ⟨x, l, c, m, n, D, Pl, hcs, _, hl, hm, hmm, _, hx⟩
  · simp [Value.cells] at hcs
    obtain ⟨rfl, rfl, rfl⟩ := hcs
    exact ⟨fun _ => 0, Nat.zero_le _, fun _ => ⟨rfl, rfl⟩, fun k hk => absurd hk (Nat.not_lt_zero _)⟩
  · simp [Value.cells] at hcs
    obtain ⟨rfl, rfl, rfl⟩ := hcs
    have hlm : len ≤ m := by rw [hmm]; split <;> omega
    have each : ∀ k, k < len → ∃ q : Int, W.cell? (x.add k) = some (.int .u8 q) := by
      intro k hk
      obtain ⟨cs', h1, h2⟩ := hx k (by omega)
      rw [cells5] at h1
      obtain ⟨_, hlen, hcell⟩ := World.cells?_some h1
      match cs', hlen with
      | [v0], _ =>
        obtain ⟨n0, e0, _, w0⟩ := DataW.trod_int Yba.underlying5 h2
        simp at e0
        subst e0
        have c0 := hcell 0 (by omega)
        rw [Go.Deep.add_add] at c0
        exact ⟨n0, by simpa using c0⟩
    obtain ⟨q, hq⟩ := Go.Deep.choose_lt each
    refine ⟨q, Nat.le_trans hl hm, (fun h => by cases h), fun k hk => ?_⟩
    have h0 := hq k hk
    have hq0 := hq 0 (by omega)
    obtain ⟨sb, so, spot⟩ := x
    have hspot : spot = none := by simpa [Addr.add] using World.cell?_spot hq0
    subst hspot
    rw [Go.WideShapes.add_plain] at h0
    exact ⟨sb, so, rfl, World.block_lt_of_cell? W _ h0, h0⟩

set_option maxRecDepth 100000 in
theorem open_state {H : Type} {enc : TypeId × Value → H} {W : World} {base : Nat} {spare : Nat → Bool} {held : Bool} {cs : Array Value} {d : DataW H} {p : List MemPlace}
    (h : DataW.Trod enc Yba.prog W base spare held 26 (.agg cs) d p) (hsz : cs.size = 10) : ∃ (t0 t5 t8 : Bool) (t1 t2 t3 t4 t6 t7 t9 : Int), cs = #[.bool t0, .int .i64 t1, .int .i64 t2, .int .i64 t3, .int .u16 t4, .bool t5, .int .i64 t6, .int .u16 t7, .bool t8, .int .u32 t9] := by
  obtain ⟨fuel, hf⟩ := h
  obtain ⟨xs, j, _, _, _, hxl, hfs⟩ := DataW.trod_struct Yba.underlying26 hf
  obtain ⟨cs⟩ := cs
  match xs, hxl, cs, hsz with
  | [y0, y1, y2, y3, y4, y5, y6, y7, y8, y9], _, [v0, v1, v2, v3, v4, v5, v6, v7, v8, v9], _ =>
      have g0 := hfs 0 _ rfl
      have g1 := hfs 1 _ rfl
      have g2 := hfs 2 _ rfl
      have g3 := hfs 3 _ rfl
      have g4 := hfs 4 _ rfl
      have g5 := hfs 5 _ rfl
      have g6 := hfs 6 _ rfl
      have g7 := hfs 7 _ rfl
      have g8 := hfs 8 _ rfl
      have g9 := hfs 9 _ rfl
      simp [Value.cells, cells3, cells4, cells22, cells24] at g0 g1 g2 g3 g4 g5 g6 g7 g8 g9
      obtain ⟨n0, e0, _⟩ := DataW.trod_bool Yba.underlying4 g0
      obtain ⟨n1, e1, _, _⟩ := DataW.trod_int Yba.underlying3 g1
      obtain ⟨n2, e2, _, _⟩ := DataW.trod_int Yba.underlying3 g2
      obtain ⟨n3, e3, _, _⟩ := DataW.trod_int Yba.underlying3 g3
      obtain ⟨n4, e4, _, _⟩ := DataW.trod_int Yba.underlying22 g4
      obtain ⟨n5, e5, _⟩ := DataW.trod_bool Yba.underlying4 g5
      obtain ⟨n6, e6, _, _⟩ := DataW.trod_int Yba.underlying3 g6
      obtain ⟨n7, e7, _, _⟩ := DataW.trod_int Yba.underlying22 g7
      obtain ⟨n8, e8, _⟩ := DataW.trod_bool Yba.underlying4 g8
      obtain ⟨n9, e9, _, _⟩ := DataW.trod_int Yba.underlying24 g9
      simp at e0 e1 e2 e3 e4 e5 e6 e7 e8 e9
      subst e0 e1 e2 e3 e4 e5 e6 e7 e8 e9
      exact ⟨n0, n5, n8, n1, n2, n3, n4, n6, n7, n9, rfl⟩

theorem walk (a0 a1 a2 : Int) (ad : Option Addr) (len cap : Nat) (bs : Nat → Int) (t0 t5 t8 : Bool) (t1 t2 t3 t4 t6 t7 t9 : Int) (w : World) (hs : S.Prior w ad len cap bs)
    (w0 : (Lit.int .u16 a0).wf = true) (w1 : (Lit.int .u16 a1).wf = true) (w2 : (Lit.int .u16 a2).wf = true) :
    Calls Yba.prog 3 #[.int .u16 a0, .int .u16 a1, .int .u16 a2, .slice ad len cap, .agg #[.bool t0, .int .i64 t1, .int .i64 t2, .int .i64 t3, .int .u16 t4, .bool t5, .int .i64 t6, .int .u16 t7, .bool t8, .int .u32 t9]] w fun e w' => e = .returned (.bool true) ∧ Below w.heap.size w w' := by
  have b0 := bounds_u16 w0
  have b1 := bounds_u16 w1
  have b2 := bounds_u16 w2
  obtain ⟨x0, rfl⟩ := Int.eq_ofNat_of_zero_le b0.1
  obtain ⟨x1, rfl⟩ := Int.eq_ofNat_of_zero_le b1.1
  obtain ⟨x2, rfl⟩ := Int.eq_ofNat_of_zero_le b2.1
  exact S.law_any ad len cap x0 x1 x2 bs t0 t5 t8 t1 t2 t3 t4 t6 t7 t9 w (by omega) (by omega) (by omega) hs

/-! ### The row's step. -/
set_option maxRecDepth 100000 in
theorem lifted (os : Os) (started : os.Started) (H : Type) (enc : TypeId × Value → H) :
    ReturnsInHanded {} Yba.checked os 3 .any (Rows.lawS6037BWholeSpec.pre6 enc Yba.prog Yba.f3 Rows.lawS6037BWholeRow.domain false) (Rows.lawS6037BWholeSpec.post enc Yba.prog Yba.f3 false true false false) := by
  refine returnsInHanded_of_change (C := Yba.checked) own started (by kernel_rfl) Yba.func3
    (ChangeSpec.witness6 (enc := enc) (C := Yba.checked) false ⟨#[], #[.int .u16 0, .int .u16 0, .int .u16 0, .slice none 0 0, .agg #[.bool false, .int .i64 0, .int .i64 0, .int .i64 0, .int .u16 0, .bool false, .int .i64 0, .int .u16 0, .bool false, .int .u32 0]], []⟩ 8 (by kernel_rfl) (by kernel_rfl) (by kernel_rfl) (by kernel_rfl)) ?_
  intro W base args ds gs before hval0 hW hcnd _
  have hval : ∀ (j : Nat) t v, Yba.f3.params[j]? = some t → args[j]? = some v → Value.okWide Yba.prog W .any base t v := hval0
  have hW' := hW
  obtain ⟨p, q, hA0, hV, rfl, hfz, hnd⟩ := hW
  have hA : DataW.TrodAll enc Yba.prog W 0 (fun _ => true) true Yba.f3.params.toList args.toList ds p := hA0
  rw [Yba.params3] at hA hval
  obtain ⟨v0, vs0, d0, ds0, p0, q0, hargs, rfl, rfl, h0, r0⟩ := trodAll_cons hA
  obtain ⟨v1, vs1, d1, ds1, p1, q1, rfl, rfl, rfl, h1, r1⟩ := trodAll_cons r0
  obtain ⟨v2, vs2, d2, ds2, p2, q2, rfl, rfl, rfl, h2, r2⟩ := trodAll_cons r1
  obtain ⟨v3, vs3, d3, ds3, p3, q3, rfl, rfl, rfl, h3, r3⟩ := trodAll_cons r2
  obtain ⟨v4, vs4, d4, ds4, p4, q4, rfl, rfl, rfl, h4, r4⟩ := trodAll_cons r3
  obtain ⟨rfl, rfl, rfl⟩ := trodAll_nil r4
  obtain rfl : args = #[v0, v1, v2, v3, v4] := by cases args; simp_all
  obtain ⟨rfl, rfl⟩ := trodVars_none hV
  obtain ⟨a0, rfl, rfl, rfl, w0⟩ := open_int Yba.underlying22 (hval 0 22 v0 rfl rfl) h0
  obtain ⟨a1, rfl, rfl, rfl, w1⟩ := open_int Yba.underlying22 (hval 1 22 v1 rfl rfl) h1
  obtain ⟨a2, rfl, rfl, rfl, w2⟩ := open_int Yba.underlying22 (hval 2 22 v2 rfl rfl) h2
  obtain ⟨a3, len3, cap3, rfl⟩ := okWide_slice Yba.underlying23 (hval 3 23 v3 rfl rfl)
  have k3 := h3
  have lt3 : ∀ x ∈ p3, x.block < W.heap.size := by obtain ⟨m, hm⟩ := k3; exact DataW.trod_lt m _ _ _ hm
  obtain ⟨bs, hs3⟩ := open_prior h3
  obtain ⟨cs, rfl, hsz⟩ := okWide_struct Yba.underlying26 (hval 4 26 v4 rfl rfl)
  have k4 := h4
  have lt4 : ∀ x ∈ p4, x.block < W.heap.size := by obtain ⟨m, hm⟩ := k4; exact DataW.trod_lt m _ _ _ hm
  rw [cells26] at hsz
  obtain ⟨t0, t5, t8, t1, t2, t3, t4, t6, t7, t9, rfl⟩ := open_state h4 hsz
  clear hA0 hval0
  refine (walk a0 a1 a2 a3 len3 cap3 bs t0 t5 t8 t1 t2 t3 t4 t6 t7 t9 W hs3 w0 w1 w2).mono fun e W' ⟨he, bel⟩ => ?_
  subst he
  exact ⟨_, rfl, _, _, _, [], _, [], hW', trodAll_mk1 (shut_bool Yba.underlying4 _), (trodAll_cons_mk (shut_int Yba.underlying22 w0) (trodAll_cons_mk (shut_int Yba.underlying22 w1) (trodAll_cons_mk (shut_int Yba.underlying22 w2) (trodAll_cons_mk (Below.trod laidOut (by kernel_rfl) (of_decide_eq_true (by kernel_rfl)) k3 bel lt3) (trodAll_cons_mk (Below.trod laidOut (by kernel_rfl) (of_decide_eq_true (by kernel_rfl)) k4 bel lt4) trodAll_mk0))))), rfl, bel.frame _, fun h => by cases h⟩

theorem over : Rows.lawS6037BWholeRow.holds Yba.pinned (OpenSpec.ofChange Rows.lawS6037BWholeSpec) :=
  OpenClaim.holds_of_wide 3 Yba.f3 rfl rfl rfl rfl rfl rfl rfl ⟨rfl, rfl, rfl, rfl, rfl⟩ rfl rfl rfl rfl rfl (by kernel_rfl) Yba.func3 (by kernel_rfl)
    (of_decide_eq_true (by kernel_rfl)) (by unfold Func.isWrapper; first | (rw [if_pos (by decide +kernel)]; kernel_rfl) | (rw [if_neg (by decide +kernel)]; exact ⟨rfl, rfl⟩))
    (fun os started H enc _ => lifted os started H enc)

/-- The given statement. -/
theorem proved : Rows.LawS6037BWholeSaid :=
  over
end Go.Proofs.Ybulkdtzs.lawS6037BWhole
