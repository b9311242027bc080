/-
  No cell of these rows narrows 'for every input' (looked for: loops, veiled, ifaces, maps, wideKeys, modest, calm, conditions, laid).
  DERIVED. THE GIVEN ROWS OF THIS SEAT. 3 by the template 'for every input the law returns true; each argument reads behind the call as it read before'; 0 by the template 'total and deterministic' (their statements: YbulkdtxoTotals.lean).
  GIVEN WITH THE SEED: the statements are not yours to turn. If you find one false, say at which input.
  Laid BY PROGRAM, IN A SANDBOX (cutbox-rows.mjs): the forced cells as the released guide's own fill.sh prints them over the translation ac984c7d8800409a… (all of the seat's roots in one cut). By AI agents, Wed Nov 11 2026. No macro, syntax, notation, axiom, sorry.
-/
import Derived.Test.YbulkdtxoChecked
import GoSem.Claim
import GoSem.ClaimJoined
import GoSem.ClaimMapViews
import Derived.JoinedTies
import Derived.KernelRfl
namespace Go.Proofs.Ybulkdtxo
/- THE CELL 'sum', in the pinned program and in every row, IS THE sha256 OF THE DUMP (.gsa) THAT YbulkdtxoProg.lean LOADS. Nothing in Lean hashes anything: it is a label: what it is worth is what the hold of that sum in a sandbox is worth. -/
noncomputable def Yba.pinned : Pinned := { name := "ybulkdtxo", sum := "ac984c7d8800409a836e6c8eafdd6895b347224324b53a6d1d927705ac980c32", checked := Yba.checked }
namespace Rows
def none {H : Type} : Left H := { results := [], args := [] }

/-- 'rowfire.LawS6033BWhole': WHATEVER THE INPUT: true; the input reads as it did. -/
def lawS6033BWholeSpec : ChangeSpec := { name := "lawS6033BWhole", fn := fun _ => fun
  | [d1, d2, d3] => { results := [.lit (.bool true)], args := [d1, d2, d3] }
  | _ => none }
def lawS6033BWholeRow : OpenClaim := { program := "ybulkdtxo", sum := "ac984c7d8800409a836e6c8eafdd6895b347224324b53a6d1d927705ac980c32", func := "example.com/rowfire/rowfire.LawS6033BWhole", spec := "lawS6033BWhole", inPlace := ["math.Float64frombits", "math.Float64bits"], apart := false }
def LawS6033BWholeSaid : Prop := lawS6033BWholeRow.holds Yba.pinned (OpenSpec.ofChange lawS6033BWholeSpec)

/-- ITS FALSE NEIGHBOUR: 'it returns false'. Refute it at one input. -/
def lawS6033BWholeWrong : ChangeSpec := { name := "lawS6033BWhole", fn := fun _ => fun
  | [d1, d2, d3] => { results := [.lit (.bool false)], args := [d1, d2, d3] }
  | _ => none }
def LawS6033BWholeWrongFalsely : Prop := lawS6033BWholeRow.holds Yba.pinned (OpenSpec.ofChange lawS6033BWholeWrong)

/-- 'rowfire.LawS6033BRoundTrip': WHATEVER THE INPUT: true; the input reads as it did. -/
def lawS6033BRoundTripSpec : ChangeSpec := { name := "lawS6033BRoundTrip", fn := fun _ => fun
  | [d] => { results := [.lit (.bool true)], args := [d] }
  | _ => none }
def lawS6033BRoundTripRow : OpenClaim := { program := "ybulkdtxo", sum := "ac984c7d8800409a836e6c8eafdd6895b347224324b53a6d1d927705ac980c32", func := "example.com/rowfire/rowfire.LawS6033BRoundTrip", spec := "lawS6033BRoundTrip", inPlace := ["math.Float64frombits", "math.Float64bits"], apart := false }
def LawS6033BRoundTripSaid : Prop := lawS6033BRoundTripRow.holds Yba.pinned (OpenSpec.ofChange lawS6033BRoundTripSpec)

/-- ITS FALSE NEIGHBOUR: 'it returns false'. Refute it at one input. -/
def lawS6033BRoundTripWrong : ChangeSpec := { name := "lawS6033BRoundTrip", fn := fun _ => fun
  | [d] => { results := [.lit (.bool false)], args := [d] }
  | _ => none }
def LawS6033BRoundTripWrongFalsely : Prop := lawS6033BRoundTripRow.holds Yba.pinned (OpenSpec.ofChange lawS6033BRoundTripWrong)

/-- 'rowfire.LawS6033CWhole': WHATEVER THE INPUT: true; the input reads as it did. -/
def lawS6033CWholeSpec : ChangeSpec := { name := "lawS6033CWhole", fn := fun _ => fun
  | [d1, d2, d3, d4, d5, d6, d7, d8] => { results := [.lit (.bool true)], args := [d1, d2, d3, d4, d5, d6, d7, d8] }
  | _ => none }
def lawS6033CWholeRow : OpenClaim := { program := "ybulkdtxo", sum := "ac984c7d8800409a836e6c8eafdd6895b347224324b53a6d1d927705ac980c32", func := "example.com/rowfire/rowfire.LawS6033CWhole", spec := "lawS6033CWhole", apart := false }
def LawS6033CWholeSaid : Prop := lawS6033CWholeRow.holds Yba.pinned (OpenSpec.ofChange lawS6033CWholeSpec)

/-- ITS FALSE NEIGHBOUR: 'it returns false'. Refute it at one input. -/
def lawS6033CWholeWrong : ChangeSpec := { name := "lawS6033CWhole", fn := fun _ => fun
  | [d1, d2, d3, d4, d5, d6, d7, d8] => { results := [.lit (.bool false)], args := [d1, d2, d3, d4, d5, d6, d7, d8] }
  | _ => none }
def LawS6033CWholeWrongFalsely : Prop := lawS6033CWholeRow.holds Yba.pinned (OpenSpec.ofChange lawS6033CWholeWrong)

end Rows
end Go.Proofs.Ybulkdtxo
