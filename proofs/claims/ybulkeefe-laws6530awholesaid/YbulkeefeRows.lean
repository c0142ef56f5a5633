/-
  No cell of these rows narrows 'for every input' (looked for: loops, veiled, ifaces, maps, wideKeys, modest, calm, conditions, laid).
  DERIVED. THE GIVEN ROWS OF THIS SEAT. 1 by the template 'for every input the law returns true; each argument reads behind the call as it read before'; 0 by the template 'total and deterministic' (their statements: YbulkeefeTotals.lean).
  GIVEN WITH THE SEED: the statements are not yours to turn. If you find one false, say at which input.
  Laid BY PROGRAM, IN A SANDBOX (cutbox-rows.mjs): the forced cells as the released guide's own fill.sh prints them over the translation 50e36e8de2848cc1… (all of the seat's roots in one cut). By AI agents, Wed Nov 11 2026. No macro, syntax, notation, axiom, sorry.
-/
import Derived.Test.YbulkeefeChecked
import GoSem.Claim
import GoSem.ClaimJoined
import GoSem.ClaimMapViews
import Derived.JoinedTies
import Derived.KernelRfl
namespace Go.Proofs.Ybulkeefe
/- THE CELL 'sum', in the pinned program and in every row, IS THE sha256 OF THE DUMP (.gsa) THAT YbulkeefeProg.lean LOADS. Nothing in Lean hashes anything: it is a label: what it is worth is what the hold of that sum in a sandbox is worth. -/
noncomputable def Yba.pinned : Pinned := { name := "ybulkeefe", sum := "50e36e8de2848cc1229f99e917b7a4c12773f19eb4908e6a4cbc5babbfcff63a", checked := Yba.checked }
namespace Rows
def none {H : Type} : Left H := { results := [], args := [] }

/-- 'coterie.LawS6530AWhole': WHATEVER THE INPUT: true; the input reads as it did. -/
def lawS6530AWholeSpec : ChangeSpec := { name := "lawS6530AWhole", fn := fun _ => fun
  | [d] => { results := [.lit (.bool true)], args := [d] }
  | _ => none }
def lawS6530AWholeRow : OpenClaim := { program := "ybulkeefe", sum := "50e36e8de2848cc1229f99e917b7a4c12773f19eb4908e6a4cbc5babbfcff63a", func := "example.com/coterie/coterie.LawS6530AWhole", spec := "lawS6530AWhole", unfollowed := true, recurses := true, plainKeys := false, apart := false }
def LawS6530AWholeSaid : Prop := lawS6530AWholeRow.holds Yba.pinned (OpenSpec.ofChange lawS6530AWholeSpec)

/-- ITS FALSE NEIGHBOUR: 'it returns false'. Refute it at one input. -/
def lawS6530AWholeWrong : ChangeSpec := { name := "lawS6530AWhole", fn := fun _ => fun
  | [d] => { results := [.lit (.bool false)], args := [d] }
  | _ => none }
def LawS6530AWholeWrongFalsely : Prop := lawS6530AWholeRow.holds Yba.pinned (OpenSpec.ofChange lawS6530AWholeWrong)

end Rows
end Go.Proofs.Ybulkeefe
