/-
  NARROWER THAN 'FOR EVERY INPUT', by the rows' own cells (each row's printed sentence says how): LawS6034AWhole: ifaces, laid.
  DERIVED. THE GIVEN ROWS OF THIS SEAT. 1 by the template 'for every input the law returns true; each argument reads behind the call as it read before'; 0 by the template 'total and deterministic' (their statements: YbulkdtycFmtTotals.lean).
  GIVEN WITH THE SEED: the statements are not yours to turn. If you find one false, say at which input.
  Laid BY PROGRAM, IN A SANDBOX (cutbox-rows.mjs): the forced cells as the released guide's own fill.sh prints them over the translation c061b4a7e5de3cf7… (all of the seat's roots in one cut). By AI agents, Wed Nov 11 2026. No macro, syntax, notation, axiom, sorry.
-/
import Derived.Test.YbulkdtycFmtChecked
import GoSem.Claim
import GoSem.ClaimJoined
import GoSem.ClaimMapViews
import Derived.JoinedTies
import Derived.KernelRfl
namespace Go.Proofs.YbulkdtycFmt
/- THE CELL 'sum', in the pinned program and in every row, IS THE sha256 OF THE DUMP (.gsa) THAT YbulkdtycFmtProg.lean LOADS. Nothing in Lean hashes anything: it is a label: what it is worth is what the hold of that sum in a sandbox is worth. -/
noncomputable def Ybaf.pinned : Pinned := { name := "ybulkdtycfmt", sum := "c061b4a7e5de3cf71bb84cb3aba218d60c3cfd721a70b445d86518b57d2800d9", checked := Ybaf.checked }
namespace Rows
def none {H : Type} : Left H := { results := [], args := [] }

/- WHAT THE LISTED PACKAGE-LEVEL VARIABLES READ AS WHEN THE CALL BEGINS. Each datum BY PROGRAM (the guide's laid-datum.mjs) off the statement by which the dump's own 'gosem.cut.vars' lays the variable. In a bare row this is a premise. The card (YbulkdtycFmtCards.lean) ties it to the program's text. -/
def laid_example_com_coterie_coterie_ErrMalformed {H : Type} : DataW H := .iface "*errors.errorString" (.ptr (.agg [.lit (.string [109, 97, 108, 102, 111, 114, 109, 101, 100])]))

/-- 'coterie.LawS6034AWhole': WHATEVER THE INPUT: true; the input reads as it did. -/
def lawS6034AWholeSpec : ChangeSpec := { name := "lawS6034AWhole", vars := ["example.com/coterie/coterie.ErrMalformed"], fn := fun _ => fun
  | [d1, d2, g1] => { results := [.lit (.bool true)], args := [d1, d2], vars := [g1] }
  | _ => none }
def lawS6034AWholeRow : OpenClaim := { program := "ybulkdtycfmt", sum := "c061b4a7e5de3cf71bb84cb3aba218d60c3cfd721a70b445d86518b57d2800d9", func := "example.com/coterie/coterie.LawS6034AWhole", spec := "lawS6034AWhole", stops := ["fmt.errorf"], inPlace := ["fmt.errorf", "internal/reflectlite.TypeOf"], unfollowed := true, recurses := true, named := ["example.com/coterie/coterie.ErrMalformed"], ifaces := true, apart := false, laid := [("example.com/coterie/coterie.ErrMalformed", laid_example_com_coterie_coterie_ErrMalformed)] }
/-- NO THEOREM (fmt's text is open here; it may be false): for the released tool's asking of the row's closed facts alone. THE STATEMENT IS 'LawS6034AWholeToldSaid' (YbulkdtycFmtCards.lean). -/
def LawS6034AWholeFormAsk : Prop := lawS6034AWholeRow.holds Ybaf.pinned (OpenSpec.ofChange lawS6034AWholeSpec)

/-- ITS FALSE NEIGHBOUR: 'it returns false'. Refute it at one input. -/
def lawS6034AWholeWrong : ChangeSpec := { name := "lawS6034AWhole", vars := ["example.com/coterie/coterie.ErrMalformed"], fn := fun _ => fun
  | [d1, d2, g1] => { results := [.lit (.bool false)], args := [d1, d2], vars := [g1] }
  | _ => none }
def LawS6034AWholeWrongFormAsk : Prop := lawS6034AWholeRow.holds Ybaf.pinned (OpenSpec.ofChange lawS6034AWholeWrong)

end Rows
end Go.Proofs.YbulkdtycFmt
