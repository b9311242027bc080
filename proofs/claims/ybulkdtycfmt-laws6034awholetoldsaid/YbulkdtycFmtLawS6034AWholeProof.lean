/-
  A proof of 'Rows.LawS6034AWholeToldSaid': the told and tied card. The walk is in the texts 'YbulkdtycFmt..'; the frame is after the guide's worked texts (GuardTold, PortSeven, MapyProofs).
-/
import Derived.Test.YbulkdtycFmtLaw3
import Derived.Test.YbulkdtycFmtCards
import Derived.Test.YbulkdtycFmtTie
import Derived.ProofKit
import Derived.LaidMore
import Derived.OpenShut
import Derived.Stop.Joined
import Derived.Stop.JoinedTold
import Derived.Stop.LaidErr
import Derived.RowKitTokens
import Derived.SevenTiedAt
namespace Go.Proofs.YbulkdtycFmt.lawS6034AWhole
open Go.ChangeShapes Go.WideShapes Go.ChangeAt Go.RowKit
open Go.Extern.Stop Go.Stop Go.Extern
set_option linter.unusedVariables false

theorem own : ownKnob Ybaf.prog.godebug = none := by kernel_rfl
theorem laidOut : laidOutB Ybaf.pinned.checked.prog = true := by kernel_rfl
theorem stops : Ybaf.pinned.checked.prog.stops = ["fmt.errorf"] := by kernel_rfl
theorem stopKnobs : Ybaf.pinned.checked.prog.stopKnobs = [] := by kernel_rfl
theorem quiet (os : Os) : Stop.quiet Ybaf.pinned.checked.prog os := by
  intro k hk
  rw [stopKnobs] at hk
  cases hk
/-- The sentinel's name, and its type's name, as the row has them. -/
abbrev nmE : String := Rows.lawS6034AWholeSpec.vars.headD ""
abbrev nmT : String := match (Rows.laid_example_com_coterie_coterie_ErrMalformed : DataW Unit) with
  | .iface nm _ => nm
  | _ => ""
theorem gE : Ybaf.prog.globalNamed nmE = some 0 := by kernel_rfl
theorem gEType : (Ybaf.prog.globals[0]?).map (·.type) = some 24 := by kernel_rfl
theorem cells57 : Ybaf.prog.cellsOf 57 = 1 := by kernel_rfl
theorem cells9 : Ybaf.prog.cellsOf 9 = 1 := by kernel_rfl
theorem row55 (u : TypeId) (h : Ybaf.prog.typeName? 3 u = some nmT) : u = 55 :=
  typeName_ptr_named (nm := "errors.errorString") (by kernel_rfl) (by kernel_rfl) (by decide) u (h.trans (congrArg some (by decide)))

/-- The door's own heap meets the condition. -/
theorem door_met (os : Os) (args : Array Value) : laidMetH Ybaf.prog Rows.lawS6034AWholeRow.laid ((World.doorLaid Ybaf.prog 400 os).forCall (fun _ _ => 0) ⟨#[], args, []⟩).memory :=
  laidMetH_of_parts3 (fuel := 8) (laidMet_of_run' 8 (by kernel_rfl) (by kernel_rfl)) (by kernel_rfl) (by kernel_rfl)

/-- The law, whole. -/
theorem walk (F : Interp) (n size : Int) (a : Addr) (s : ByteArray) (w : World) (hF : F.answers w.tape) (hg : w.cell? ⟨0, 0, none⟩ = some (.iface 55 (.pointer (some a)))) (hs : w.cell? a = some (.string s)) :
    Calls Ybaf.prog 3 #[.int .i64 n, .int .i64 size] w fun e w' => e = .returned (.bool true) ∧ Below w.heap.size w w' := by
  have hg0 : 0 < w.heap.size := World.block_lt_of_cell? w ⟨0, 0, none⟩ hg
  by_cases hr : n < 0 ∨ 4096 < n ∨ size < 0 ∨ 4096 < size
  · exact S.law_out n size w hr
  · obtain ⟨N, rfl⟩ := Int.eq_ofNat_of_zero_le (show 0 ≤ n by omega)
    obtain ⟨Z, rfl⟩ := Int.eq_ofNat_of_zero_le (show 0 ≤ size by omega)
    by_cases hns : N < Z
    · exact S.law_over N Z w (by omega) hns
    · have hb := S.bin_in N Z (by omega) (by omega) w
      by_cases hc : S.ch N Z ≤ 1048576
      · by_cases he : S.ch N Z * Z ≤ 16777216
        · exact S.law_in N Z w (by omega) (by omega) hc he
        · have hb' := hb.mono (R' := fun e w' => e = .returned (.tuple #[.int .i64 (S.ch N Z : Nat), .bool true]) ∧ w' = w) fun e w' h => ⟨h.1 hc, h.2.2⟩
          refine S.law_no N Z (S.ch N Z) a w (by omega) (by omega) hg hg0 (S.subs_big F N Z (S.ch N Z) a s w hF hg hs (by omega) hc (by omega) hb') (fun w1 => ?_) (by omega) (.inr ⟨hc, by omega⟩)
          have h := S.pas_any N Z (by omega) (by omega) w1
          rwa [S.sat, Nat.min_eq_left (by omega)] at h
      · have hb' := hb.mono (R' := fun e w' => e = .returned (.tuple #[.int .i64 0, .bool false]) ∧ w' = w) fun e w' h => ⟨h.2.1 (by omega), h.2.2⟩
        refine S.law_no N Z 1048577 a w (by omega) (by omega) hg hg0 (S.subs_many F N Z a s w hF hg hs hb') (fun w1 => ?_) (by omega) (.inl (by omega))
        have h := S.pas_any N Z (by omega) (by omega) w1
        rwa [S.sat, Nat.min_eq_right (by omega)] at h

theorem var?_below {P : Program} {B g : Nat} {W W' : World} {n : String} {cs : Array Value} (h : Below B W W') (hg : P.globalNamed n = some g) (hgB : g < B) (hv : W.var? P n = some cs) : W'.var? P n = some cs := by
  simp only [World.var?, hg, Option.bind_some] at hv ⊢
  rw [h.block g hgB]
  exact hv

set_option maxRecDepth 100000 in
theorem lifted (os : Os) (started : os.Started) (H : Type) (enc : TypeId × Value → H) :
    ReturnsInTold none {} Ybaf.checked os 3 .any Input.okWide ((OpenSpec.ofChange Rows.lawS6034AWholeSpec).preRow enc Ybaf.prog Ybaf.f3 [] false Rows.lawS6034AWholeRow.laid) (fun F => ((OpenSpec.ofChange Rows.lawS6034AWholeSpec).at F).post enc Ybaf.prog Ybaf.f3 false true false false) (aloneAtReturn Ybaf.prog) nothingAlways := by
  refine returnsInTold_of_row (C := Ybaf.checked) (s := OpenSpec.ofChange Rows.lawS6034AWholeSpec) (by kernel_rfl) own started (by kernel_rfl) Ybaf.func3
    (OpenSpec.witness_stopped_at (enc := enc) (C := Ybaf.checked) false (World.doorLaid Ybaf.prog 400 os) #[.int .i64 0, .int .i64 0] rfl (by kernel_rfl) (by kernel_rfl) (by kernel_rfl)
      (OpenSpec.preRow_of_B rfl 8 (by kernel_rfl) (by kernel_rfl) (door_met os _))) ?_
  intro F W base args ds gs before _ hF hval0 hW _ _ _ hL _
  have hval : ∀ (j : Nat) t v, Ybaf.f3.params[j]? = some t → args[j]? = some v → Value.okWide Ybaf.prog W .any base t v := hval0
  have hW' := hW
  obtain ⟨p, q, hA0, hV0, rfl, hfz, hnd⟩ := hW
  have hA : DataW.TrodAll enc Ybaf.prog W 0 (fun _ => true) true Ybaf.f3.params.toList args.toList ds p := hA0
  have hV : DataW.TrodVars enc Ybaf.prog W (fun _ => true) [nmE] gs q := hV0
  rw [Ybaf.params3] at hA hval
  obtain ⟨v0, vs0, d0, ds0, p0, q0, hargs, rfl, rfl, h0, r0⟩ := trodAll_cons hA
  obtain ⟨v1, vs1, d1, ds1, p1, q1, rfl, rfl, rfl, h1, r1⟩ := trodAll_cons r0
  obtain ⟨rfl, rfl, rfl⟩ := trodAll_nil r1
  obtain rfl : args = #[v0, v1] := by cases args; simp_all
  obtain ⟨a0, rfl, rfl, rfl, w0⟩ := open_int Ybaf.underlying3 (hval 0 3 v0 rfl rfl) h0
  obtain ⟨a1, rfl, rfl, rfl, w1⟩ := open_int Ybaf.underlying3 (hval 1 3 v1 rfl rfl) h1
  obtain ⟨ad, sd, hv1, hc1, hs1, hz1⟩ := laid_sentinel hL gE gEType Ybaf.underlying24 row55 Ybaf.underlying55 Ybaf.underlying57 rfl rfl Ybaf.underlying9 cells57 cells9
  obtain ⟨rfl, rfl⟩ := hV.unique (vars_read1 enc gE gEType Ybaf.underlying24 hv1 trivial _)
  clear hA0 hV0 hval0
  have hg1 : W.cell? ⟨0, 0, none⟩ = some (.iface 55 (.pointer (some ad))) := by simpa using World.var?_cell gE hv1 0
  have hg0 : 0 < W.heap.size := World.block_lt_of_cell? W ⟨0, 0, none⟩ hg1
  refine (walk F.told a0 a1 ad sd W hF hg1 hc1).mono fun e W' ⟨he, bel⟩ => ?_
  subst he
  refine ⟨_, rfl, _, _, _, [], [], [.cell 0 0], hW', ?_, ?_, ?_, bel.frame _, fun h => by cases h⟩
  · exact trodAll_mk1 (shut_bool Ybaf.underlying4 _)
  · exact trodAll_cons_mk (shut_int Ybaf.underlying3 w0) (trodAll_cons_mk (shut_int Ybaf.underlying3 w1) trodAll_mk0)
  · exact vars_read1 enc gE gEType Ybaf.underlying24 (var?_below bel gE hg0 hv1) trivial _

/-- The given statement. -/
theorem proved : Rows.LawS6034AWholeToldSaid :=
  Claim7.holds_of_told_tied_any_at .later 3 Ybaf.f3 "fmt.errorf" [] [] _ _ _ _ _ (by kernel_rfl) rfl rfl rfl laidOut (by kernel_rfl) rfl ⟨rfl, rfl, rfl, rfl, rfl, rfl, rfl⟩ rfl rfl (by kernel_rfl) (by kernel_rfl) Ybaf.func3 (by kernel_rfl)
    (of_decide_eq_true (by kernel_rfl)) (of_decide_eq_true (by kernel_rfl)) stops.symm rfl stopKnobs.symm (by kernel_rfl)
    (by kernel_rfl) (by kernel_rfl) (by kernel_rfl) (by kernel_rfl) (by kernel_rfl) (by kernel_rfl) (by kernel_rfl) (by kernel_rfl) (by kernel_rfl) rfl (by kernel_rfl) rfl rfl
    rfl rfl
    rfl (by kernel_rfl) (by kernel_rfl) (by kernel_rfl) (by decide) (by kernel_rfl) lawS6034AWhole_row_tie
    (OpenClaim.moreEntering_of (by kernel_rfl) (by kernel_rfl) (by kernel_rfl) (by kernel_rfl) (by kernel_rfl) (by kernel_rfl) (by kernel_rfl) (by kernel_rfl) (by kernel_rfl) (by kernel_rfl))
    ⟨_, WideRow.started_initial, quiet _⟩
    (fun os started _ H enc _ => lifted os started H enc)
end Go.Proofs.YbulkdtycFmt.lawS6034AWhole
