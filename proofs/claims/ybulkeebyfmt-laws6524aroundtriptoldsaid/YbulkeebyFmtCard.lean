import Derived.Test.YbulkeebyFmtRows
import Derived.Test.YbulkeebyFmtTie
import Derived.Test.YbulkeebyFmtCards
import Derived.Test.YbulkeebyFmtWalks
import Derived.ProofKit
import Derived.OpenShut
import Derived.Stop.JoinedAt
import Derived.Stop.JoinedTold
import Derived.Lib.LaidTab
import Derived.Lib.LaidIn
import Derived.LaidLaws
import Derived.Stop.LaidErr
namespace Go.Proofs.YbulkeebyFmt
open Go.ChangeShapes Go.WideShapes Go.ChangeAt Go.RowKit
open Go.Extern.Stop Go.Stop Go.Extern
set_option linter.unusedVariables false

theorem ownA : ownKnob Ybaf.prog.godebug = none := by kernel_rfl
theorem laidOutA : laidOutB Ybaf.pinned.checked.prog = true := by kernel_rfl
theorem stopsA : Ybaf.pinned.checked.prog.stops = ["fmt.errorf"] := by kernel_rfl
theorem stopKnobsA : Ybaf.pinned.checked.prog.stopKnobs = [] := by kernel_rfl
theorem quietA (os : Os) : Stop.quiet Ybaf.pinned.checked.prog os := by
  intro k hk
  rw [stopKnobsA] at hk
  cases hk

theorem cells40 : Ybaf.prog.cellsOf 40 = 1 := by kernel_rfl
theorem cells47 : Ybaf.prog.cellsOf 47 = 20 := by kernel_rfl
theorem gPow : Ybaf.prog.globalNamed "internal/strconv.uint64pow10" = some 0 := by kernel_rfl
theorem gPowT : (Ybaf.prog.globals[0]?).map (·.type) = some 47 := by kernel_rfl

def deB32 : List Int := [0, 1, 28, 2, 29, 14, 24, 3, 30, 22, 20, 15, 25, 17, 4, 8, 31, 27, 13, 23, 21, 19, 16, 7, 26, 12, 18, 6, 11, 5, 10, 9]
def deB64 : List Int := [0, 1, 56, 2, 57, 49, 28, 3, 61, 58, 42, 50, 38, 29, 17, 4, 62, 47, 59, 36, 45, 43, 51, 22, 53, 39, 33, 30, 24, 18, 12, 5, 63, 55, 48, 27, 60, 41, 37, 16, 46, 35, 44, 21, 52, 32, 23, 11, 54, 26, 40, 15, 34, 20, 31, 10, 25, 14, 19, 9, 13, 8, 7, 6]

/-- The block g of a heap, its cells laid anew. -/
def put (h : Array Obj) (g : Nat) (cs : Array Value) : Array Obj := h.modify g fun
  | .cells _ t frozen => .cells cs t frozen
  | o => o
/-- A world in which the three tables hold what their initialisers lay. -/
def laidFrom (w0 : World) : World :=
  { w0 with heap := put (put (put w0.heap 0 (Lib.pow10Tab.map (Value.int .u64)).toArray) 1 (deB32.map (Value.int .u8)).toArray) 2 (deB64.map (Value.int .u8)).toArray }

set_option maxRecDepth 1000000 in
theorem laid_met (os : Os) (args : Array Value) : laidMet Ybaf.prog Rows.lawS6524ARoundTripRow.laid ((laidFrom (World.holding Ybaf.prog os ⟨#[], #[], []⟩)).forCall (fun _ _ => 0) ⟨#[], args, []⟩).memory :=
  (LaidIn.of_run [1, 2, 0] 10 (by kernel_rfl) (by kernel_rfl) (by kernel_rfl) (by kernel_rfl)).met

theorem tab_of {W : World} (h : laidMet Ybaf.prog Rows.lawS6524ARoundTripRow.laid W) : Lib.TabIs Ybaf.prog W "internal/strconv.uint64pow10" .u64 Lib.pow10Tab := by
  have h2 : laidMet Ybaf.prog [("internal/strconv.uint64pow10", Lib.tabData .u64 Lib.pow10Tab)] W := by
    have h1 : laidMet Ybaf.prog [("math/bits.deBruijn32tab", Rows.laid_math_bits_deBruijn32tab), ("math/bits.deBruijn64tab", Rows.laid_math_bits_deBruijn64tab), ("internal/strconv.uint64pow10", Rows.laid_internal_strconv_uint64pow10)] W := h
    exact laidMet.tail (laidMet.tail h1)
  exact Lib.tabIs_of_head gPow gPowT Ybaf.underlying47 Ybaf.underlying40 cells40 cells47 h2

theorem law_any (F : Interp) (n start : Int) (w : World) (hF : F.answers w.tape) (hn0 : -9223372036854775808 ≤ n) (hn1 : n ≤ 9223372036854775807) (htab : Lib.TabIs Ybaf.prog w "internal/strconv.uint64pow10" .u64 Lib.pow10Tab) :
    Calls Ybaf.prog 3 #[.int .i64 n, .int .i64 start] w fun e w' => e = .returned (.bool true) ∧ Below w.heap.size w w' := by
  by_cases h0 : n = 0
  · subst h0; exact law_0 start w
  · by_cases h1 : n = 1
    · subst h1; exact law_1 start w
    · exact law_other F n start w hF (by simpa using h0) (by simpa using h1) hn0 hn1 htab

set_option maxRecDepth 100000 in
theorem lifted (os : Os) (started : os.Started) (H : Type) (enc : TypeId × Value → H) :
    ReturnsInTold none {} Ybaf.checked os 3 .any Input.okWide ((OpenSpec.ofChange Rows.lawS6524ARoundTripSpec).preRow enc Ybaf.prog Ybaf.f3 Rows.lawS6524ARoundTripRow.domain false Rows.lawS6524ARoundTripRow.laid) (fun F => ((OpenSpec.ofChange Rows.lawS6524ARoundTripSpec).at F).post enc Ybaf.prog Ybaf.f3 false true false false) (aloneAtReturn Ybaf.prog) nothingAlways := by
  refine returnsInTold_of_row (C := Ybaf.checked) (s := OpenSpec.ofChange Rows.lawS6524ARoundTripSpec) (by kernel_rfl) ownA started (by kernel_rfl) Ybaf.func3
    (OpenSpec.witness_stopped_at (enc := enc) (C := Ybaf.checked) false (laidFrom (World.holding Ybaf.prog os ⟨#[], #[], []⟩)) #[.int .i64 0, .int .i64 0] rfl (by kernel_rfl) (by kernel_rfl) (by kernel_rfl)
      (OpenSpec.preRow_of_B rfl 8 (by kernel_rfl) (by kernel_rfl) (laid_met os _))) ?_
  intro F W base args ds gs before _ hF hval0 hW _ _ _ hL _
  have hval : ∀ (j : Nat) t v, Ybaf.f3.params[j]? = some t → args[j]? = some v → Value.okWide Ybaf.prog W .any base t v := hval0
  have hW' := hW
  obtain ⟨p, q, hA0, hV, rfl, hfz, hnd⟩ := hW
  have hA : DataW.TrodAll enc Ybaf.prog W 0 (fun _ => true) true Ybaf.f3.params.toList args.toList ds p := hA0
  rw [Ybaf.params3] at hA hval
  obtain ⟨v0, vs0, d0, ds0, p0, q0, hargs, rfl, rfl, h0, r0⟩ := trodAll_cons hA
  obtain ⟨v1, vs1, d1, ds1, p1, q1, rfl, rfl, rfl, h1, r1⟩ := trodAll_cons r0
  obtain ⟨rfl, rfl, rfl⟩ := trodAll_nil r1
  obtain rfl : args = #[v0, v1] := by cases args; simp_all
  obtain ⟨rfl, rfl⟩ := trodVars_none hV
  obtain ⟨n, rfl, rfl, rfl, w0⟩ := open_int Ybaf.underlying3 (hval 0 3 v0 rfl rfl) h0
  obtain ⟨st, rfl, rfl, rfl, w1⟩ := open_int Ybaf.underlying3 (hval 1 3 v1 rfl rfl) h1
  clear hA0 hval0
  have hL' : laidMet Ybaf.prog Rows.lawS6524ARoundTripRow.laid W := hL
  have hb : -9223372036854775808 ≤ n ∧ n ≤ 9223372036854775807 := by
    have e1 : IntKind.i64.min = -9223372036854775808 := rfl
    have e2 : IntKind.i64.max = 9223372036854775807 := rfl
    simpa [Lit.wf, e1, e2] using w0
  refine (law_any F.told n st W hF hb.1 hb.2 (tab_of hL')).mono fun e W' ⟨he, bel⟩ => ?_
  subst he
  exact ⟨_, rfl, _, _, _, [], [], [], hW', trodAll_mk1 (shut_bool Ybaf.underlying4 _), (trodAll_cons_mk (shut_int Ybaf.underlying3 w0) (trodAll_cons_mk (shut_int Ybaf.underlying3 w1) trodAll_mk0)), rfl, bel.frame _, fun h => by cases h⟩

theorem lawA_proved : Rows.LawS6524ARoundTripToldSaid :=
  Claim7.holds_of_told_tied_any_at .later 3 Ybaf.f3 "fmt.errorf" [] [] _ _ _ _ _ (by kernel_rfl) rfl rfl rfl laidOutA (by kernel_rfl) rfl ⟨rfl, rfl, rfl, rfl, rfl, rfl, rfl⟩ rfl rfl (by kernel_rfl) (by kernel_rfl) Ybaf.func3 (by kernel_rfl)
    (of_decide_eq_true (by kernel_rfl)) (of_decide_eq_true (by kernel_rfl)) stopsA.symm rfl stopKnobsA.symm (by kernel_rfl)
    (by kernel_rfl) (by kernel_rfl) (by kernel_rfl) (by kernel_rfl) (by kernel_rfl) (by kernel_rfl) (by kernel_rfl) (by kernel_rfl) (by kernel_rfl) rfl (by kernel_rfl) rfl rfl
    rfl rfl
    rfl (by kernel_rfl) (by kernel_rfl) (by kernel_rfl) (by decide) (by kernel_rfl) lawS6524ARoundTrip_row_tie
    (OpenClaim.moreEntering_of (by kernel_rfl) (by kernel_rfl) (by kernel_rfl) (by kernel_rfl) (by kernel_rfl) (by kernel_rfl) (by kernel_rfl) (by kernel_rfl) (by kernel_rfl) (by kernel_rfl))
    ⟨_, WideRow.started_initial, quietA _⟩
    (fun os started _ H enc _ => lifted os started H enc)

end Go.Proofs.YbulkeebyFmt
