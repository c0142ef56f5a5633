/-
  No cell of these rows narrows 'for every input' (looked for: loops, veiled, ifaces, maps, wideKeys, modest, calm, conditions, laid).
  DERIVED. THE GIVEN ROWS OF THIS SEAT. 2 by the template 'for every input the law returns true; each argument reads behind the call as it read before'; 0 by the template 'total and deterministic' (their statements: YbulkeeeqTotals.lean).
  GIVEN WITH THE SEED: the statements are not yours to turn. If you find one false, say at which input.
  Laid BY PROGRAM, IN A SANDBOX (cutbox-rows.mjs): the forced cells as the released guide's own fill.sh prints them over the translation 4ec8f1fa90bec83a… (all of the seat's roots in one cut). By AI agents, Wed Nov 11 2026. No macro, syntax, notation, axiom, sorry.
-/
import Derived.Test.YbulkeeeqChecked
import GoSem.Claim
import GoSem.ClaimJoined
import GoSem.ClaimMapViews
import Derived.JoinedTies
import Derived.KernelRfl
namespace Go.Proofs.Ybulkeeeq
/- THE CELL 'sum', in the pinned program and in every row, IS THE sha256 OF THE DUMP (.gsa) THAT YbulkeeeqProg.lean LOADS. Nothing in Lean hashes anything: it is a label: what it is worth is what the hold of that sum in a sandbox is worth. -/
noncomputable def Yba.pinned : Pinned := { name := "ybulkeeeq", sum := "4ec8f1fa90bec83ae8c01ef5169f312ed6e0c39cfa5a7e1b7278ca8f0fed7e66", checked := Yba.checked }
namespace Rows
def none {H : Type} : Left H := { results := [], args := [] }

/-- 'sim.LawS6529AWhole': WHATEVER THE INPUT: true; the input reads as it did. -/
def lawS6529AWholeSpec : ChangeSpec := { name := "lawS6529AWhole", fn := fun _ => fun
  | [d1, d2, d3, d4] => { results := [.lit (.bool true)], args := [d1, d2, d3, d4] }
  | _ => none }
def lawS6529AWholeRow : OpenClaim := { program := "ybulkeeeq", sum := "4ec8f1fa90bec83ae8c01ef5169f312ed6e0c39cfa5a7e1b7278ca8f0fed7e66", func := "example.com/circlet/circlet/internal/sim.LawS6529AWhole", spec := "lawS6529AWhole", unfollowed := true, recurses := true, plainKeys := false, apart := false }
def LawS6529AWholeSaid : Prop := lawS6529AWholeRow.holds Yba.pinned (OpenSpec.ofChange lawS6529AWholeSpec)

/-- ITS FALSE NEIGHBOUR: 'it returns false'. Refute it at one input. -/
def lawS6529AWholeWrong : ChangeSpec := { name := "lawS6529AWhole", fn := fun _ => fun
  | [d1, d2, d3, d4] => { results := [.lit (.bool false)], args := [d1, d2, d3, d4] }
  | _ => none }
def LawS6529AWholeWrongFalsely : Prop := lawS6529AWholeRow.holds Yba.pinned (OpenSpec.ofChange lawS6529AWholeWrong)

/-- 'circlet.LawS6529BWhole': WHATEVER THE INPUT: true; the input reads as it did. -/
def lawS6529BWholeSpec : ChangeSpec := { name := "lawS6529BWhole", fn := fun _ => fun
  | [d1, d2, d3, d4, d5, d6, d7, d8] => { results := [.lit (.bool true)], args := [d1, d2, d3, d4, d5, d6, d7, d8] }
  | _ => none }
def lawS6529BWholeRow : OpenClaim := { program := "ybulkeeeq", sum := "4ec8f1fa90bec83ae8c01ef5169f312ed6e0c39cfa5a7e1b7278ca8f0fed7e66", func := "example.com/circlet/circlet.LawS6529BWhole", spec := "lawS6529BWhole", inPlace := ["internal/bytealg.abigen_runtime_cmpstring", "(*internal/sync.Mutex).Lock", "internal/race.Disable", "sync/atomic.CompareAndSwapInt32", "internal/race.Enable", "internal/race.Acquire", "(*internal/sync.Mutex).lockSlow", "internal/sync.runtime_canSpin", "internal/sync.runtime_doSpin", "internal/sync.throw", "internal/sync.runtime_nanotime", "internal/sync.runtime_SemacquireMutex", "sync/atomic.AddInt32", "(*internal/sync.Mutex).Unlock", "internal/race.ReleaseMerge", "(*internal/sync.Mutex).unlockSlow", "internal/sync.fatal", "internal/sync.runtime_Semrelease", "math/bits.Add64", "math/bits.Sub64", "(*internal/sync.Mutex).TryLock"], unfollowed := true, recurses := true, named := ["encoding/binary.BigEndian"], plainKeys := false, apart := false }
def LawS6529BWholeSaid : Prop := lawS6529BWholeRow.holds Yba.pinned (OpenSpec.ofChange lawS6529BWholeSpec)

/-- ITS FALSE NEIGHBOUR: 'it returns false'. Refute it at one input. -/
def lawS6529BWholeWrong : ChangeSpec := { name := "lawS6529BWhole", fn := fun _ => fun
  | [d1, d2, d3, d4, d5, d6, d7, d8] => { results := [.lit (.bool false)], args := [d1, d2, d3, d4, d5, d6, d7, d8] }
  | _ => none }
def LawS6529BWholeWrongFalsely : Prop := lawS6529BWholeRow.holds Yba.pinned (OpenSpec.ofChange lawS6529BWholeWrong)

end Rows
end Go.Proofs.Ybulkeeeq
