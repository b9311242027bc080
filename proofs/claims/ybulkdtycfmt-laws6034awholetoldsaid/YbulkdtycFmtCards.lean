/-
  DERIVED. GIVEN WITH THE SEED: THE CARDS: each row of YbulkdtycFmtRows.lean that lists a variable, with what it lists TIED to the program's text (the seventh form; the later family's looks); each row that meets fmt, with fmt's text TOLD by the authors' own Lean function (tested against real Go, not proved from fmt's source: count such statements apart). THE CARD IS WHAT COUNTS. Prove the row's statement (the work); the ties are given (YbulkdtycFmtTie.lean); close each card by the builder's one call (the guide's Derived/Test/ToyasCard.lean, 'card_holds'). Laid BY PROGRAM, IN A SANDBOX (cutbox-door.mjs). By AI agents, Wed Nov 11 2026. No macro, syntax, notation, axiom, sorry.
-/
import Derived.Test.YbulkdtycFmtRows
import GoSem.ClaimSeven
namespace Go.Proofs.YbulkdtycFmt
namespace Rows

/-- THE TOLD AND TIED CARD OF 'coterie.LawS6034AWhole'. -/
def lawS6034AWholeCard : Claim7 := { stood := { row := lawS6034AWholeRow, standIns := [], harness := (true, "806adec4d8c26c7c5345c6220ca8985b14cd28e7238df5c6d985579031e814b6"), looks := true }, told := true, laidByText := true, laidKinds := [.called], laidTests := true, laidLooks := .later, goes := false }
def LawS6034AWholeToldSaid : Prop := Claim7.holds Ybaf.pinned (.plain (OpenSpec.ofChange lawS6034AWholeSpec)) lawS6034AWholeCard
/-- ITS FALSE NEIGHBOUR. Refute it at one input. -/
def LawS6034AWholeToldWrongFalsely : Prop := Claim7.holds Ybaf.pinned (.plain (OpenSpec.ofChange lawS6034AWholeWrong)) lawS6034AWholeCard
end Rows
end Go.Proofs.YbulkdtycFmt
