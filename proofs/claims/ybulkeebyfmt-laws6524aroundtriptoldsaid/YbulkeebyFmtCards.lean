/-
  DERIVED. GIVEN WITH THE SEED: THE CARDS: each row of YbulkeebyFmtRows.lean that lists a variable, with what it lists TIED to the program's text (the seventh form; the later family's looks); each row that meets fmt, with fmt's text TOLD by the authors' own Lean function (tested against real Go, not proved from fmt's source: count such statements apart). THE CARD IS WHAT COUNTS. Prove the row's statement (the work); the ties are given (YbulkeebyFmtTie.lean); close each card by the builder's one call (the guide's Derived/Test/ToyasCard.lean, 'card_holds'). Laid BY PROGRAM, IN A SANDBOX (cutbox-door.mjs). By AI agents, Wed Nov 11 2026. No macro, syntax, notation, axiom, sorry.
-/
import Derived.Test.YbulkeebyFmtRows
import GoSem.ClaimSeven
namespace Go.Proofs.YbulkeebyFmt
namespace Rows

/-- THE TOLD AND TIED CARD OF 'ringleap.LawS6524ARoundTrip'. -/
def lawS6524ARoundTripCard : Claim7 := { stood := { row := lawS6524ARoundTripRow, standIns := [], harness := (true, "395607acbb17ab4c86ec0e36dcdbc3cff6587ab439f801dff5053bab29345044"), looks := false }, told := true, laidByText := true, laidKinds := [.data, .data, .data], laidTests := true, laidLooks := .later, goes := false }
def LawS6524ARoundTripToldSaid : Prop := Claim7.holds Ybaf.pinned (.plain (OpenSpec.ofChange lawS6524ARoundTripSpec)) lawS6524ARoundTripCard
/-- ITS FALSE NEIGHBOUR. Refute it at one input. -/
def LawS6524ARoundTripToldWrongFalsely : Prop := Claim7.holds Ybaf.pinned (.plain (OpenSpec.ofChange lawS6524ARoundTripWrong)) lawS6524ARoundTripCard
end Rows
end Go.Proofs.YbulkeebyFmt
