/-
  DERIVED: THE SHELF's CONTRACTS AT THIS DUMP, IN PLAIN WORDS (tools/lay-plain.mjs out of 'YbulkeebyFmtShelf.lean', which tools/lay-shelf.mjs wrote): THE SAME DECLARATIONS UNDER THE SAME NAMES: 'import', 'namespace', 'open', 'def', 'theorem' AND NOTHING ELSE: no command of the shelf's: FOR A HAND-IN. Each laying: the table of numbers ('.._ren') and one theorem, a field a fact of the dump's own or the kernel's comparison; each contract: ONE APPLICATION.
-/
import Derived.Shelf.Strconv.Itoa0
import Derived.Shelf.Strconv.Itoa1
import Derived.Shelf.LaysM
import Derived.Shelf.Strconv.Itoa2
import Derived.Shelf.Strconv.Itoa3
import Derived.Test.YbulkeebyFmtProg
namespace Go.Proofs
open Go.Shelf
def Ybaf.laysM171_ren : Go.Shelf.Ren := ⟨fun | 171 => 6 | 243 => 8 | 246 => 11 | 283 => 12 | 284 => 13 | 285 => 14 | 286 => 15 | 129 => 17 | 317 => 16 | 318 => 18 | 319 => 19 | 320 => 20 | 337 => 21 | 338 => 22 | n => n, fun | 3 => 3 | 9 => 9 | 2 => 2 | 4 => 4 | 171 => 39 | 0 => 0 | 53 => 40 | 37 => 27 | 5 => 5 | 173 => 43 | 212 => 47 | 51 => 48 | 20 => 20 | 213 => 49 | 46 => 51 | 232 => 54 | 233 => 55 | n => n, fun | 17 => 0 | 18 => 1 | 19 => 2 | n => n⟩
theorem Ybaf.laysM171 : Go.Proofs.LaysM.n171 Ybaf.prog Ybaf.laysM171_ren := {
  mixed := by kernel_rfl
  f129 := Ybaf.func17.trans (congrArg some (by kernel_rfl))
  f171 := Ybaf.func6.trans (congrArg some (by kernel_rfl))
  f243 := Ybaf.func8.trans (congrArg some (by kernel_rfl))
  f246 := Ybaf.func11.trans (congrArg some (by kernel_rfl))
  f283 := Ybaf.func12.trans (congrArg some (by kernel_rfl))
  f284 := Ybaf.func13.trans (congrArg some (by kernel_rfl))
  f285 := Ybaf.func14.trans (congrArg some (by kernel_rfl))
  f286 := Ybaf.func15.trans (congrArg some (by kernel_rfl))
  f317 := Ybaf.func16.trans (congrArg some (by kernel_rfl))
  f318 := Ybaf.func18.trans (congrArg some (by kernel_rfl))
  f319 := Ybaf.func19.trans (congrArg some (by kernel_rfl))
  f320 := Ybaf.func20.trans (congrArg some (by kernel_rfl))
  f337 := Ybaf.func21.trans (congrArg some (by kernel_rfl))
  f338 := Ybaf.func22.trans (congrArg some (by kernel_rfl))
  t0 := Ybaf.underlying0
  a0 := Ybaf.isAgg0
  z0 := Ybaf.sizeOf0
  v0 := Ybaf.zeroValue0
  t2 := Ybaf.underlying2
  a2 := Ybaf.isAgg2
  z2 := Ybaf.sizeOf2
  v2 := Ybaf.zeroValue2
  t3 := Ybaf.underlying3
  a3 := Ybaf.isAgg3
  z3 := Ybaf.sizeOf3
  v3 := Ybaf.zeroValue3
  t4 := Ybaf.underlying4
  a4 := Ybaf.isAgg4
  z4 := Ybaf.sizeOf4
  v4 := Ybaf.zeroValue4
  t5 := Ybaf.underlying5
  a5 := Ybaf.isAgg5
  z5 := Ybaf.sizeOf5
  v5 := Ybaf.zeroValue5
  t9 := Ybaf.underlying9
  a9 := Ybaf.isAgg9
  z9 := Ybaf.sizeOf9
  v9 := Ybaf.zeroValue9
  t20 := Ybaf.underlying20
  a20 := Ybaf.isAgg20
  z20 := Ybaf.sizeOf20
  v20 := Ybaf.zeroValue20
  t37 := Ybaf.underlying27
  a37 := Ybaf.isAgg27
  z37 := Ybaf.sizeOf27
  v37 := Ybaf.zeroValue27
  t46 := Ybaf.underlying51
  a46 := Ybaf.isAgg51
  z46 := Ybaf.sizeOf51
  v46 := Ybaf.zeroValue51
  t51 := Ybaf.underlying48
  a51 := Ybaf.isAgg48
  z51 := Ybaf.sizeOf48
  v51 := Ybaf.zeroValue48
  t53 := Ybaf.underlying40
  a53 := Ybaf.isAgg40
  z53 := Ybaf.sizeOf40
  v53 := Ybaf.zeroValue40
  t171 := Ybaf.underlying39
  a171 := Ybaf.isAgg39
  z171 := Ybaf.sizeOf39
  v171 := Ybaf.zeroValue39
  t173 := Ybaf.underlying43
  a173 := Ybaf.isAgg43
  z173 := Ybaf.sizeOf43
  v173 := Ybaf.zeroValue43
  t212 := Ybaf.underlying47
  a212 := Ybaf.isAgg47
  z212 := Ybaf.sizeOf47
  v212 := Ybaf.zeroValue47
  t213 := Ybaf.underlying49
  a213 := Ybaf.isAgg49
  z213 := Ybaf.sizeOf49
  t232 := Ybaf.underlying54
  a232 := Ybaf.isAgg54
  z232 := Ybaf.sizeOf54
  v232 := Ybaf.zeroValue54
  t233 := Ybaf.underlying55
  a233 := Ybaf.isAgg55
  z233 := Ybaf.sizeOf55
  v233 := Ybaf.zeroValue55
  g17 := by kernel_rfl
  g18 := by kernel_rfl
  g19 := by kernel_rfl
  i0 := by kernel_rfl
  i2 := by kernel_rfl
  i3 := by kernel_rfl
  i4 := by kernel_rfl
  i5 := by kernel_rfl
  i9 := by kernel_rfl
  i20 := by kernel_rfl
  i37 := by kernel_rfl
  i46 := by kernel_rfl
  i51 := by kernel_rfl
  i53 := by kernel_rfl
  i171 := by kernel_rfl
  i173 := by kernel_rfl
  i212 := by kernel_rfl
  i232 := by kernel_rfl
  i233 := by kernel_rfl
  m17 := by kernel_rfl
  m18 := by kernel_rfl
  m19 := by kernel_rfl }
open Go.RowKit Go.Sort Go.Lib in
/-- strconv.Itoa: "Itoa is equivalent to FormatInt(int64(i), 10).": i's DECIMAL NUMERAL ('Lib.itoa': a '-' where i is negative, then the digits), FOR EVERY int. The world behind the call: the world before it, new blocks behind the heap (the library's 'var a [24]byte'), draws. (LAID: no walk: one application.) -/
theorem Ybaf.strconv_Itoa (n : Int) (h0 : -9223372036854775808 ≤ n) (h1 : n ≤ 9223372036854775807) (w : World) (htab : Lib.TabIs Ybaf.prog w "internal/strconv.uint64pow10" .u64 Lib.pow10Tab) :
    Calls Ybaf.prog 6 #[.int .i64 n] w fun e w' => e = .returned (.string ⟨(Lib.itoa n).toArray⟩) ∧ ∃ k os, w' = grow (w.drewN k) os := Any.strconv_Itoa Ybaf.laysM171 n h0 h1 w htab
end Go.Proofs
