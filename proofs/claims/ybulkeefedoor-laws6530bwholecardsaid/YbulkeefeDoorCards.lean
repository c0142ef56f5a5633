/-
  DERIVED. GIVEN WITH THE SEED: THE CARDS: each row of YbulkeefeDoorRows.lean that lists a variable, with what it lists TIED to the program's text (the seventh form; the later family's looks); each row that meets fmt, with fmt's text TOLD by the authors' own Lean function (tested against real Go, not proved from fmt's source: count such statements apart). THE CARD IS WHAT COUNTS. Prove the row's statement (the work); the ties are given (YbulkeefeDoorTie.lean); close each card by the builder's one call (the guide's Derived/Test/ToyasCard.lean, 'card_holds'). Laid BY PROGRAM, IN A SANDBOX (cutbox-door.mjs). By AI agents, Wed Nov 11 2026. No macro, syntax, notation, axiom, sorry.
-/
import Derived.Test.YbulkeefeDoorRows
import GoSem.ClaimSeven
namespace Go.Proofs.YbulkeefeDoor
namespace Rows

/-- THE TIED CARD OF 'proto.LawS6530BWhole'. -/
def lawS6530BWholeCard : Claim7 := { stood := { row := lawS6530BWholeRow, standIns := [], harness := (true, "8ff03e6ad5890c9955d2883bfd1d0a4efcb9af434d822abd8197b0d34acb01de"), looks := true }, kinds := [], alts := [], laidByText := true, laidKinds := [.sentinel], laidTests := true, laidLooks := .later }
def LawS6530BWholeCardSaid : Prop := Claim7.holds Ybad.pinned (.plain (OpenSpec.ofChange lawS6530BWholeSpec)) lawS6530BWholeCard
end Rows
end Go.Proofs.YbulkeefeDoor
