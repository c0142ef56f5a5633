/-
  NARROWER THAN 'FOR EVERY INPUT', by the rows' own cells (each row's printed sentence says how): LawS6530BWhole: ifaces, laid.
  DERIVED. THE GIVEN ROWS OF THIS SEAT. 1 by the template 'for every input the law returns true; each argument reads behind the call as it read before'; 0 by the template 'total and deterministic' (their statements: YbulkeefeDoorTotals.lean).
  GIVEN WITH THE SEED: the statements are not yours to turn. If you find one false, say at which input.
  Laid BY PROGRAM, IN A SANDBOX (cutbox-rows.mjs): the forced cells as the released guide's own fill.sh prints them over the translation 0e186896ea1fe4e3… (all of the seat's roots in one cut). By AI agents, Wed Nov 11 2026. No macro, syntax, notation, axiom, sorry.
-/
import Derived.Test.YbulkeefeDoorChecked
import GoSem.Claim
import GoSem.ClaimJoined
import GoSem.ClaimMapViews
import Derived.JoinedTies
import Derived.KernelRfl
namespace Go.Proofs.YbulkeefeDoor
/- THE CELL 'sum', in the pinned program and in every row, IS THE sha256 OF THE DUMP (.gsa) THAT YbulkeefeDoorProg.lean LOADS. Nothing in Lean hashes anything: it is a label: what it is worth is what the hold of that sum in a sandbox is worth. -/
noncomputable def Ybad.pinned : Pinned := { name := "ybulkeefedoor", sum := "0e186896ea1fe4e38a831fd5d5ed3771fb466e5526a5324e36c2f552179e0dbb", checked := Ybad.checked }
namespace Rows
def none {H : Type} : Left H := { results := [], args := [] }

/- WHAT THE LISTED PACKAGE-LEVEL VARIABLES READ AS WHEN THE CALL BEGINS. Each datum BY PROGRAM (the guide's laid-datum.mjs) off the statement by which the dump's own 'gosem.cut.vars' lays the variable. In a bare row this is a premise. The card (YbulkeefeDoorCards.lean) ties it to the program's text. -/
def laid_example_com_coterie_coterie_internal_wire_ErrMalformed {H : Type} : DataW H := .iface "*errors.errorString" (.ptr (.agg [.lit (.string [119, 105, 114, 101, 58, 32, 109, 97, 108, 102, 111, 114, 109, 101, 100, 32, 100, 97, 116, 97, 103, 114, 97, 109])]))

/-- 'proto.LawS6530BWhole': WHATEVER THE INPUT: true; the input reads as it did. -/
def lawS6530BWholeSpec : ChangeSpec := { name := "lawS6530BWhole", vars := ["example.com/coterie/coterie/internal/wire.ErrMalformed"], fn := fun _ => fun
  | [d1, d2, d3, g1] => { results := [.lit (.bool true)], args := [d1, d2, d3], vars := [g1] }
  | _ => none }
def lawS6530BWholeRow : OpenClaim := { program := "ybulkeefedoor", sum := "0e186896ea1fe4e38a831fd5d5ed3771fb466e5526a5324e36c2f552179e0dbb", func := "example.com/coterie/coterie/internal/proto.LawS6530BWhole", spec := "lawS6530BWhole", named := ["example.com/coterie/coterie/internal/wire.ErrMalformed"], ifaces := true, apart := false, laid := [("example.com/coterie/coterie/internal/wire.ErrMalformed", laid_example_com_coterie_coterie_internal_wire_ErrMalformed)] }
def LawS6530BWholeSaid : Prop := lawS6530BWholeRow.holds Ybad.pinned (OpenSpec.ofChange lawS6530BWholeSpec)

/-- ITS FALSE NEIGHBOUR: 'it returns false'. Refute it at one input. -/
def lawS6530BWholeWrong : ChangeSpec := { name := "lawS6530BWhole", vars := ["example.com/coterie/coterie/internal/wire.ErrMalformed"], fn := fun _ => fun
  | [d1, d2, d3, g1] => { results := [.lit (.bool false)], args := [d1, d2, d3], vars := [g1] }
  | _ => none }
def LawS6530BWholeWrongFalsely : Prop := lawS6530BWholeRow.holds Ybad.pinned (OpenSpec.ofChange lawS6530BWholeWrong)

end Rows
end Go.Proofs.YbulkeefeDoor
