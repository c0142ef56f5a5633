/-
  DERIVED. GIVEN WITH THE SEED: THE CARDS: each row of YbulkeeawFmtRows.lean that lists a variable, with what it lists TIED to the program's text (the seventh form; the later family's looks); each row that meets fmt, with fmt's text TOLD by the authors' own Lean function (tested against real Go, not proved from fmt's source: count such statements apart). THE CARD IS WHAT COUNTS. Prove the row's statement (the work); the ties are given (YbulkeeawFmtTie.lean); close each card by the builder's one call (the guide's Derived/Test/ToyasCard.lean, 'card_holds'). Laid BY PROGRAM, IN A SANDBOX (cutbox-door.mjs). By AI agents, Wed Nov 11 2026. No macro, syntax, notation, axiom, sorry.
-/
import Derived.Test.YbulkeeawFmtRows
import GoSem.ClaimSeven
namespace Go.Proofs.YbulkeeawFmt
namespace Rows

/-- THE TOLD CARD OF 'stratabin.LawS6522BWhole'. -/
def lawS6522BWholeCard : Claim7 := { stood := { row := lawS6522BWholeRow, standIns := [], harness := (true, "ffe11d25371f34cc47106d1351bc4c82c87fa13dc772105264816761078c3623"), looks := false }, told := true, goes := false }
def LawS6522BWholeToldSaid : Prop := Claim7.holds Ybaf.pinned (.plain (OpenSpec.ofChange lawS6522BWholeSpec)) lawS6522BWholeCard
/-- ITS FALSE NEIGHBOUR. Refute it at one input. -/
def LawS6522BWholeToldWrongFalsely : Prop := Claim7.holds Ybaf.pinned (.plain (OpenSpec.ofChange lawS6522BWholeWrong)) lawS6522BWholeCard
end Rows
end Go.Proofs.YbulkeeawFmt
