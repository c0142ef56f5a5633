/-
  No cell of these rows narrows 'for every input' (looked for: loops, veiled, ifaces, maps, wideKeys, modest, calm, conditions, laid).
  DERIVED. THE GIVEN ROWS OF THIS SEAT. 1 by the template 'for every input the law returns true; each argument reads behind the call as it read before'; 0 by the template 'total and deterministic' (their statements: YbulkeeawFmtTotals.lean).
  GIVEN WITH THE SEED: the statements are not yours to turn. If you find one false, say at which input.
  Laid BY PROGRAM, IN A SANDBOX (cutbox-rows.mjs): the forced cells as the released guide's own fill.sh prints them over the translation 2d0437d729c6aa2c… (all of the seat's roots in one cut). By AI agents, Wed Nov 11 2026. No macro, syntax, notation, axiom, sorry.
-/
import Derived.Test.YbulkeeawFmtChecked
import GoSem.Claim
import GoSem.ClaimJoined
import GoSem.ClaimMapViews
import Derived.JoinedTies
import Derived.KernelRfl
namespace Go.Proofs.YbulkeeawFmt
/- THE CELL 'sum', in the pinned program and in every row, IS THE sha256 OF THE DUMP (.gsa) THAT YbulkeeawFmtProg.lean LOADS. Nothing in Lean hashes anything: it is a label: what it is worth is what the hold of that sum in a sandbox is worth. -/
noncomputable def Ybaf.pinned : Pinned := { name := "ybulkeeawfmt", sum := "2d0437d729c6aa2c8a5bdb42585fbc133a41c51fccd7262c88602bab5a851ec0", checked := Ybaf.checked }
namespace Rows
def none {H : Type} : Left H := { results := [], args := [] }

/-- 'stratabin.LawS6522BWhole': WHATEVER THE INPUT: true; the input reads as it did. -/
def lawS6522BWholeSpec : ChangeSpec := { name := "lawS6522BWhole", fn := fun _ => fun
  | [d1, d2, d3, d4, d5, d6, d7, d8, d9, d10, d11] => { results := [.lit (.bool true)], args := [d1, d2, d3, d4, d5, d6, d7, d8, d9, d10, d11] }
  | _ => none }
def lawS6522BWholeRow : OpenClaim := { program := "ybulkeeawfmt", sum := "2d0437d729c6aa2c8a5bdb42585fbc133a41c51fccd7262c88602bab5a851ec0", func := "example.com/stratabin/stratabin.LawS6522BWhole", spec := "lawS6522BWhole", stops := ["fmt.Sprintf"], inPlace := ["fmt.Sprintf"], unfollowed := true, recurses := true, named := ["math/bits.divideError", "math/bits.overflowError"], apart := false }
/-- NO THEOREM (fmt's text is open here; it may be false): for the released tool's asking of the row's closed facts alone. THE STATEMENT IS 'LawS6522BWholeToldSaid' (YbulkeeawFmtCards.lean). -/
def LawS6522BWholeFormAsk : Prop := lawS6522BWholeRow.holds Ybaf.pinned (OpenSpec.ofChange lawS6522BWholeSpec)

/-- ITS FALSE NEIGHBOUR: 'it returns false'. Refute it at one input. -/
def lawS6522BWholeWrong : ChangeSpec := { name := "lawS6522BWhole", fn := fun _ => fun
  | [d1, d2, d3, d4, d5, d6, d7, d8, d9, d10, d11] => { results := [.lit (.bool false)], args := [d1, d2, d3, d4, d5, d6, d7, d8, d9, d10, d11] }
  | _ => none }
def LawS6522BWholeWrongFormAsk : Prop := lawS6522BWholeRow.holds Ybaf.pinned (OpenSpec.ofChange lawS6522BWholeWrong)

end Rows
end Go.Proofs.YbulkeeawFmt
