/-
  No cell of these rows narrows 'for every input' (looked for: loops, veiled, ifaces, maps, wideKeys, modest, calm, conditions, laid).
  DERIVED. THE GIVEN ROWS OF THIS SEAT. 1 by the template 'for every input the law returns true; each argument reads behind the call as it read before'; 0 by the template 'total and deterministic' (their statements: YbulkdtzsTotals.lean).
  GIVEN WITH THE SEED: the statements are not yours to turn. If you find one false, say at which input.
  Laid BY PROGRAM, IN A SANDBOX (cutbox-rows.mjs): the forced cells as the released guide's own fill.sh prints them over the translation 4a3df2f6a6a90698… (all of the seat's roots in one cut). By AI agents, Wed Nov 11 2026. No macro, syntax, notation, axiom, sorry.
-/
import Derived.Test.YbulkdtzsChecked
import GoSem.Claim
import GoSem.ClaimJoined
import GoSem.ClaimMapViews
import Derived.JoinedTies
import Derived.KernelRfl
namespace Go.Proofs.Ybulkdtzs
/- THE CELL 'sum', in the pinned program and in every row, IS THE sha256 OF THE DUMP (.gsa) THAT YbulkdtzsProg.lean LOADS. Nothing in Lean hashes anything: it is a label: what it is worth is what the hold of that sum in a sandbox is worth. -/
noncomputable def Yba.pinned : Pinned := { name := "ybulkdtzs", sum := "4a3df2f6a6a9069804bdd27c6fd5350ccbac8b9b67d8bcb0a3e6c81e7f18a190", checked := Yba.checked }
namespace Rows
def none {H : Type} : Left H := { results := [], args := [] }

/-- 'dns.LawS6037BWhole': WHATEVER THE INPUT: true; the input reads as it did. -/
def lawS6037BWholeSpec : ChangeSpec := { name := "lawS6037BWhole", fn := fun _ => fun
  | [d1, d2, d3, d4, d5] => { results := [.lit (.bool true)], args := [d1, d2, d3, d4, d5] }
  | _ => none }
def lawS6037BWholeRow : OpenClaim := { program := "ybulkdtzs", sum := "4a3df2f6a6a9069804bdd27c6fd5350ccbac8b9b67d8bcb0a3e6c81e7f18a190", func := "example.com/rollcall/rollcall/internal/dns.LawS6037BWhole", spec := "lawS6037BWhole", named := ["encoding/binary.BigEndian"], apart := false }
def LawS6037BWholeSaid : Prop := lawS6037BWholeRow.holds Yba.pinned (OpenSpec.ofChange lawS6037BWholeSpec)

/-- ITS FALSE NEIGHBOUR: 'it returns false'. Refute it at one input. -/
def lawS6037BWholeWrong : ChangeSpec := { name := "lawS6037BWhole", fn := fun _ => fun
  | [d1, d2, d3, d4, d5] => { results := [.lit (.bool false)], args := [d1, d2, d3, d4, d5] }
  | _ => none }
def LawS6037BWholeWrongFalsely : Prop := lawS6037BWholeRow.holds Yba.pinned (OpenSpec.ofChange lawS6037BWholeWrong)

end Rows
end Go.Proofs.Ybulkdtzs
