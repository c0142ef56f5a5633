/-
  No cell of these rows narrows 'for every input' (looked for: loops, veiled, ifaces, maps, wideKeys, modest, calm, conditions, laid).
  DERIVED. THE GIVEN ROWS OF THIS SEAT. 2 by the template 'for every input the law returns true; each argument reads behind the call as it read before'; 0 by the template 'total and deterministic' (their statements: YbulkeebyTotals.lean).
  GIVEN WITH THE SEED: the statements are not yours to turn. If you find one false, say at which input.
  Laid BY PROGRAM, IN A SANDBOX (cutbox-rows.mjs): the forced cells as the released guide's own fill.sh prints them over the translation 9fe2c83c29cb257c… (all of the seat's roots in one cut). By AI agents, Wed Nov 11 2026. No macro, syntax, notation, axiom, sorry.
-/
import Derived.Test.YbulkeebyChecked
import GoSem.Claim
import GoSem.ClaimJoined
import GoSem.ClaimMapViews
import Derived.JoinedTies
import Derived.KernelRfl
namespace Go.Proofs.Ybulkeeby
/- THE CELL 'sum', in the pinned program and in every row, IS THE sha256 OF THE DUMP (.gsa) THAT YbulkeebyProg.lean LOADS. Nothing in Lean hashes anything: it is a label: what it is worth is what the hold of that sum in a sandbox is worth. -/
noncomputable def Yba.pinned : Pinned := { name := "ybulkeeby", sum := "9fe2c83c29cb257ce234d6b8fcc860b55a9d0eac992122a22a71ec31e9591e30", checked := Yba.checked }
namespace Rows
def none {H : Type} : Left H := { results := [], args := [] }

/-- 'ringleap.LawS6524BWhole': WHATEVER THE INPUT: true; the input reads as it did. -/
def lawS6524BWholeSpec : ChangeSpec := { name := "lawS6524BWhole", fn := fun _ => fun
  | [d] => { results := [.lit (.bool true)], args := [d] }
  | _ => none }
def lawS6524BWholeRow : OpenClaim := { program := "ybulkeeby", sum := "9fe2c83c29cb257ce234d6b8fcc860b55a9d0eac992122a22a71ec31e9591e30", func := "example.com/ringleap/ringleap.LawS6524BWhole", spec := "lawS6524BWhole", apart := false }
def LawS6524BWholeSaid : Prop := lawS6524BWholeRow.holds Yba.pinned (OpenSpec.ofChange lawS6524BWholeSpec)

/-- ITS FALSE NEIGHBOUR: 'it returns false'. Refute it at one input. -/
def lawS6524BWholeWrong : ChangeSpec := { name := "lawS6524BWhole", fn := fun _ => fun
  | [d] => { results := [.lit (.bool false)], args := [d] }
  | _ => none }
def LawS6524BWholeWrongFalsely : Prop := lawS6524BWholeRow.holds Yba.pinned (OpenSpec.ofChange lawS6524BWholeWrong)

/-- 'ringleap.LawS6524CWhole': WHATEVER THE INPUT: true; the input reads as it did. -/
def lawS6524CWholeSpec : ChangeSpec := { name := "lawS6524CWhole", fn := fun _ => fun
  | [d1, d2, d3] => { results := [.lit (.bool true)], args := [d1, d2, d3] }
  | _ => none }
def lawS6524CWholeRow : OpenClaim := { program := "ybulkeeby", sum := "9fe2c83c29cb257ce234d6b8fcc860b55a9d0eac992122a22a71ec31e9591e30", func := "example.com/ringleap/ringleap.LawS6524CWhole", spec := "lawS6524CWhole", apart := false }
def LawS6524CWholeSaid : Prop := lawS6524CWholeRow.holds Yba.pinned (OpenSpec.ofChange lawS6524CWholeSpec)

/-- ITS FALSE NEIGHBOUR: 'it returns false'. Refute it at one input. -/
def lawS6524CWholeWrong : ChangeSpec := { name := "lawS6524CWhole", fn := fun _ => fun
  | [d1, d2, d3] => { results := [.lit (.bool false)], args := [d1, d2, d3] }
  | _ => none }
def LawS6524CWholeWrongFalsely : Prop := lawS6524CWholeRow.holds Yba.pinned (OpenSpec.ofChange lawS6524CWholeWrong)

end Rows
end Go.Proofs.Ybulkeeby
