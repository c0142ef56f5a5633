import Derived.Test.YbulkeeeqLawS1
import Derived.Test.YbulkeeeqLawS3
import Derived.Test.YbulkeeeqLawS4
import Derived.Test.YbulkeeeqLawS5
import Derived.Test.YbulkeeeqLawS8
import Derived.Test.YbulkeeeqLawS9
import Derived.Test.YbulkeeeqLawS10
namespace Go.Proofs.Ybulkeeeq
open Go.RowKit
set_option linter.unusedVariables false

theorem lawB_main (N cap : Nat) (a : Option Addr) (en : Nat → Ent) (vb : Nat → Nat → Nat) (sh sl eh el sp st : Nat) (s : ByteArray) (w : World) (hN : N ≤ 65536) (hread : ERead N en w a) (hvals : ∀ i, i < N → Reads w (en i).va (en i).vn (fun j => .int .u8 (vb i j : Nat))) (hvn : ∀ i, i < N → (en i).vn ≤ 9223372036854775807) (hkz : ∀ i, i < N → (en i).key.size ≤ maxLen) (hby : ∀ i, i < N → (en i).hi ≤ 255 ∧ (en i).lo ≤ 255 ∧ (en i).wh ≤ 255 ∧ (en i).ver < 18446744073709551616) (b1 : sh ≤ 255) (b2 : sl ≤ 255) (b3 : eh ≤ 255) (b4 : el ≤ 255) (b5 : sp ≤ 255) (b6 : st ≤ 255) :
    Calls Yba.prog 4 #[.slice a N cap, .int .u8 sh, .int .u8 sl, .int .u8 eh, .int .u8 el, .string s, .int .u8 sp, .int .u8 st] w fun e w' => e = .returned (.bool true) ∧ Below w.heap.size w w' :=
  trunkB.law ⟨sec1, sec3, sec4, sec5, sec8, sec9, sec10⟩ N cap a en vb sh sl eh el sp st s w hN hread hvals hvn hkz hby b1 b2 b3 b4 b5 b6
end Go.Proofs.Ybulkeeeq
