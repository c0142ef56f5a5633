import Derived.Test.YbulkeefeDoorRows
import Derived.Test.YbulkeefeDoorTie
import Derived.Test.YbulkeefeDoorCards
import Derived.Test.YbulkeefeDoorLaw
import Derived.ProofKit
import Derived.OpenShut
import Derived.ShutString
import Derived.ChangeOld
import Derived.SliceStrings
import Derived.SizedLaws
import Derived.WalkSmall
import Derived.LaidLaws
import Derived.Stop.LaidErr
import Derived.SevenTiedAt
namespace Go.Proofs.YbulkeefeDoor
open Go.ChangeShapes Go.WideShapes Go.ChangeAt Go.RowKit
set_option linter.unusedVariables false

theorem own : ownKnob Ybad.prog.godebug = none := by kernel_rfl
theorem laidOut : laidOutB Ybad.prog = true := by kernel_rfl
theorem bytes9 : Ybad.prog.bytesOf 9 = 16 := by kernel_rfl
theorem bytes5 : Ybad.prog.bytesOf 5 = 1 := by kernel_rfl
theorem gE : Ybad.prog.globalNamed "example.com/coterie/coterie/internal/wire.ErrMalformed" = some 0 := by kernel_rfl
theorem gEType : (Ybad.prog.globals[0]?).map (·.type) = some 33 := by kernel_rfl
theorem cells65 : Ybad.prog.cellsOf 65 = 1 := by kernel_rfl
theorem cells9 : Ybad.prog.cellsOf 9 = 1 := by kernel_rfl
theorem star : "*" ++ "errors.errorString" = "*errors.errorString" := by decide
theorem row49 (u : TypeId) (h : Ybad.prog.typeName? 3 u = some "*errors.errorString") : u = 49 :=
  typeName_ptr_named (nm := "errors.errorString") (by rw [star]; kernel_rfl) (by kernel_rfl) (by decide) u (by rw [star]; exact h)

/-- A world in which the sentinel holds what its initialiser lays. -/
def laidFrom (w0 : World) (low : Nat) : World :=
  { w0 with heap := w0.heap.modify 0 fun
      | .cells _ t frozen => .cells #[.iface 49 (.pointer (some ⟨low, 0, none⟩))] t frozen
      | o => o }
def malS : ByteArray := ⟨#[119, 105, 114, 101, 58, 32, 109, 97, 108, 102, 111, 114, 109, 101, 100, 32, 100, 97, 116, 97, 103, 114, 97, 109]⟩

theorem laid_met (os : Os) (args : Array Value) : laidMet Ybad.prog Rows.lawS6530BWholeRow.laid ((laidFrom (World.holding Ybad.prog os ⟨#[.cells #[.string malS] 65], #[], []⟩) (World.holding Ybad.prog default ⟨#[], #[], []⟩).heap.size).forCall (fun _ _ => 0) ⟨#[], args, []⟩).memory :=
  laidMet_of_run (ps := [.cell 0 0, .cell (World.holding Ybad.prog default ⟨#[], #[], []⟩).heap.size 0]) 8 (by kernel_rfl) (by kernel_rfl) (by kernel_rfl)

theorem weights_all_mem {H : Type} {P : Program} {e : TypeId} : ∀ {l : List (DataW H)} {d : DataW H}, d ∈ l → ∀ n ∈ d.weights P e, n ∈ DataW.weightsAll P e l
  | x :: r, d, h, n, hn => by
    rcases List.mem_cons.1 h with rfl | h
    · simp only [DataW.weightsAll]; exact List.mem_append_left _ hn
    · simp only [DataW.weightsAll]; exact List.mem_append_right _ (weights_all_mem h n hn)

set_option maxRecDepth 100000 in
theorem lifted (os : Os) (started : os.Started) (H : Type) (enc : TypeId × Value → H) :
    ReturnsInHanded {} Ybad.checked os 3 .any (fun w args => (Rows.lawS6530BWholeSpec.pre enc Ybad.prog Ybad.f3 Rows.lawS6530BWholeRow.domain false w args ∧ laidMet Ybad.prog Rows.lawS6530BWholeRow.laid w) ∧ sizedMet enc Ybad.prog Ybad.f3 (OpenSpec.ofChange Rows.lawS6530BWholeSpec) false w args)
      (Rows.lawS6530BWholeSpec.post enc Ybad.prog Ybad.f3 false true false false) := by
  refine returnsInHanded_of_change_and (C := Ybad.checked) (X := fun w _ => laidMet Ybad.prog Rows.lawS6530BWholeRow.laid w) (fun _ _ _ hh h => h.of_heap hh) own started (by kernel_rfl) Ybad.func3
    (ChangeSpec.witness_at (enc := enc) (C := Ybad.checked) (os := os) (X := fun w _ => laidMet Ybad.prog Rows.lawS6530BWholeRow.laid w) false (laidFrom (World.holding Ybad.prog os ⟨#[.cells #[.string malS] 65], #[], []⟩) (World.holding Ybad.prog default ⟨#[], #[], []⟩).heap.size) #[.slice none 0 0, .slice none 0 0, .bool false] 8 rfl (by kernel_rfl) (by kernel_rfl) (by kernel_rfl) (by kernel_rfl) (by kernel_rfl) (laid_met os _)) ?_
  intro W base args ds gs before hval0 hW _ hsz0 hL _
  have hsz : (DataW.weightsEach Ybad.prog (Ybad.f3.params.toList ++ Rows.lawS6530BWholeSpec.plain.varTypes Ybad.prog) (ds ++ gs)).all (· ≤ reachBytes) = true := hsz0
  clear hsz0
  have hval : ∀ (j : Nat) t v, Ybad.f3.params[j]? = some t → args[j]? = some v → Value.okWide Ybad.prog W .any base t v := hval0
  have hW' := hW
  obtain ⟨p, q, hA0, hV0, rfl, hfz, hnd⟩ := hW
  have hA : DataW.TrodAll enc Ybad.prog W 0 (fun _ => true) true Ybad.f3.params.toList args.toList ds p := hA0
  have hV : DataW.TrodVars enc Ybad.prog W (fun _ => true) ["example.com/coterie/coterie/internal/wire.ErrMalformed"] gs q := hV0
  rw [Ybad.params3] at hA hval hsz
  obtain ⟨v0, vs0, d0, ds0, p0, q0, hargs, rfl, rfl, h0, r0⟩ := trodAll_cons hA
  obtain ⟨v1, vs1, d1, ds1, p1, q1, rfl, rfl, rfl, h1, r1⟩ := trodAll_cons r0
  obtain ⟨v2, vs2, d2, ds2, p2, q2, rfl, rfl, rfl, h2, r2⟩ := trodAll_cons r1
  obtain ⟨rfl, rfl, rfl⟩ := trodAll_nil r2
  obtain rfl : args = #[v0, v1, v2] := by cases args; simp_all
  obtain ⟨a0, len0, cap0, rfl⟩ := okWide_slice Ybad.underlying22 (hval 0 22 v0 rfl rfl)
  obtain ⟨a1, len1, cap1, rfl⟩ := okWide_slice Ybad.underlying23 (hval 1 23 v1 rfl rfl)
  have k0 := h0
  have k1 := h1
  have lt0 : ∀ x ∈ p0, x.block < W.heap.size := by obtain ⟨m, hm⟩ := k0; exact DataW.trod_lt m _ _ _ hm
  have lt1 : ∀ x ∈ p1, x.block < W.heap.size := by obtain ⟨m, hm⟩ := k1; exact DataW.trod_lt m _ _ _ hm
  obtain ⟨am, sm, hvm, hcm, hsm, hzm⟩ := laid_sentinel hL gE gEType Ybad.underlying33 row49 Ybad.underlying49 Ybad.underlying65 rfl rfl Ybad.underlying9 cells65 cells9
  obtain ⟨rfl, rfl⟩ := hV.unique (vars_read1 enc gE gEType Ybad.underlying33 hvm trivial _)
  have hg : W.cell? ⟨0, 0, none⟩ = some (.iface 49 (.pointer (some am))) := by simpa using World.var?_cell gE hvm 0
  obtain ⟨lr, hlr, hbys, hcr, hnil, hbig⟩ : ∃ lr : List UInt8, len0 = lr.length ∧ Bys W a0 lr ∧ len0 ≤ cap0 ∧ (a0 = none → cap0 = 0) ∧ len0 ≤ 140737488355328 := by
    obtain ⟨fuel, hf⟩ := h0
    rcases open_ints Ybad.underlying22 Ybad.underlying5 (by kernel_rfl) hf with ⟨hcs, _⟩ | ⟨x, l, c, zs, hcs, _, hl, hm, hz, hx, hcell, hwz⟩
    · simp [Value.cells] at hcs
      obtain ⟨rfl, rfl, rfl⟩ := hcs
      exact ⟨[], rfl, Bys.nil _ _, Nat.le_refl _, fun _ => rfl, by omega⟩
    · simp [Value.cells] at hcs
      obtain ⟨rfl, rfl, rfl⟩ := hcs
      have hz' : zs.length = cap0 := by simpa using hz
      simp only [Prod.mk.injEq] at hx
      obtain ⟨rfl, _⟩ := hx
      have := sized_slice hsz (j := 0) (t := 22) (e := 5) rfl rfl Ybad.underlying22
      rw [bytes5] at this
      simp only [lits, List.length_map, List.length_take, List.length_drop, reachBytes] at this
      refine ⟨(List.range len0).map (fun i => UInt8.ofNat (zs.getD i 0).toNat), by simp, ?_, hl, fun h => by simp at h, by omega⟩
      have hrd : Reads W (some x) len0 (fun i => .int .u8 (zs.getD i 0)) := reads_in (n := zs.length) (by omega) hcell
      unfold Bys
      rw [List.length_map, List.length_range]
      refine hrd.congr fun i hi => ?_
      have hb : 0 ≤ zs.getD i 0 ∧ zs.getD i 0 ≤ 255 := by
        have hi2 : i < zs.length := by omega
        have := hwz (zs.getD i 0) (by simp [hi2])
        have e1 : IntKind.u8.min = 0 := rfl
        have e2 : IntKind.u8.max = 255 := rfl
        simpa [Lit.wf, e1, e2] using this
      rw [getD_lt (by simpa using hi)]
      simp only [List.getElem_map, List.getElem_range, UInt8.toNat_ofNat']
      congr 1
      omega
  obtain ⟨nm, hnm, hnz⟩ : ∃ nm : Nat → ByteArray, Reads W a1 len1 (fun i => .string (nm i)) ∧ ∀ i, i < len1 → (nm i).size ≤ 140737488355328 := by
    obtain ⟨fuel, hf⟩ := h1
    rcases open_strings Ybad.underlying23 Ybad.underlying9 (by kernel_rfl) hf with ⟨hcs, _⟩ | ⟨x, l, c, zs, hcs, _, hl, hm, hz, hx, hcell, hwz⟩
    · simp [Value.cells] at hcs
      obtain ⟨rfl, rfl, rfl⟩ := hcs
      exact ⟨fun _ => ByteArray.empty, fun i hi => absurd hi (by omega), fun i hi => absurd hi (by omega)⟩
    · simp [Value.cells] at hcs
      obtain ⟨rfl, rfl, rfl⟩ := hcs
      have hz' : zs.length = cap1 := by simpa using hz
      simp only [Prod.mk.injEq] at hx
      obtain ⟨rfl, _⟩ := hx
      refine ⟨fun i => zs.getD i ByteArray.empty, reads_in (n := zs.length) (by omega) hcell, fun i hi => ?_⟩
      have hi2 : i < zs.length := by omega
      have e0 : zs.getD i ByteArray.empty = zs[i] := by simp [List.getD_eq_getElem?_getD, List.getElem?_eq_getElem hi2]
      have hmem : (DataW.lit (.string (zs[i]).data.toList) : DataW H) ∈ strs (H := H) (zs.take len1) := by
        unfold strs
        exact List.mem_map.2 ⟨zs[i], List.mem_take_iff_getElem.2 ⟨i, by omega, rfl⟩, rfl⟩
      have h3 : (zs[i]).data.toList.length ∈ (DataW.slice (strs (H := H) (zs.take len1)) (strs (H := H) (zs.drop len1))).weights Ybad.prog 23 := by
        simp only [DataW.weights, Ybad.underlying23]
        exact List.mem_cons_of_mem _ (List.mem_append_left _ (weights_all_mem hmem _ (by simp [DataW.weights])))
      have h5 := List.all_eq_true.1 hsz _ (DataW.weights_mem_each (j := 1) (t := 23) rfl rfl _ h3)
      have h5' : (zs[i]).data.toList.length ≤ reachBytes := by simpa using h5
      unfold reachBytes at h5'
      show (zs.getD i ByteArray.empty).size ≤ 140737488355328
      rw [e0]
      have e1 : (zs[i]).data.toList.length = (zs[i]).size := rfl
      rw [e1] at h5'
      exact Nat.le_trans h5' (by decide)
  obtain ⟨u, rfl, rfl, rfl⟩ := open_bool Ybad.underlying4 (hval 2 4 v2 rfl rfl) h2
  clear hA0 hval0
  refine (law_calls a0 cap0 lr len0 a1 len1 cap1 nm u am W hlr hbys hcr hnil hnm hbig hnz hg).mono fun e W' ⟨he, bel⟩ => ?_
  subst he
  have hw0 : 0 < W.heap.size := lt_of_cell hg
  refine ⟨_, rfl, _, _, _, [], _, [.cell 0 0], hW', trodAll_mk1 (shut_bool Ybad.underlying4 _), (trodAll_cons_mk (Below.trod laidOut (by kernel_rfl) (of_decide_eq_true (by kernel_rfl)) k0 bel lt0) (trodAll_cons_mk (Below.trod laidOut (by kernel_rfl) (of_decide_eq_true (by kernel_rfl)) k1 bel lt1) (trodAll_cons_mk (shut_bool Ybad.underlying4 _) trodAll_mk0))), ?_, bel.frame _, fun h => by cases h⟩
  exact vars_read1 enc gE gEType Ybad.underlying33 (var?_below bel gE hw0 hvm) trivial _

theorem row_proved : Rows.LawS6530BWholeSaid :=
  OpenClaim.holds_of_wide 3 Ybad.f3 rfl rfl rfl rfl rfl rfl rfl ⟨rfl, rfl, rfl, rfl, rfl⟩ rfl rfl rfl rfl rfl (by kernel_rfl) Ybad.func3 (by kernel_rfl)
    (of_decide_eq_true (by kernel_rfl)) (by unfold Func.isWrapper; first | (rw [if_pos (by decide +kernel)]; kernel_rfl) | (rw [if_neg (by decide +kernel)]; exact ⟨rfl, rfl⟩))
    (fun os started H enc _ => lifted os started H enc)

theorem lawB_proved : Rows.LawS6530BWholeCardSaid :=
  Claim7.holds_tied_plain_at .later [] [.sentinel] true (true, "8ff03e6ad5890c9955d2883bfd1d0a4efcb9af434d822abd8197b0d34acb01de") true
    row_proved (fun _ h => by cases h) (by kernel_rfl) (fun _ h => by cases h) lawS6530BWhole_row_tie rfl ⟨rfl, rfl⟩ (by kernel_rfl) rfl
    (fun f fn hf hfn => by
      obtain rfl : f = 3 := Option.some.inj ((show Ybad.prog.funcNamed "example.com/coterie/coterie/internal/proto.LawS6530BWhole" = some 3 by kernel_rfl).symm.trans hf) |>.symm
      obtain rfl : fn = Ybad.f3 := (Option.some.inj (Ybad.func3.symm.trans hfn)).symm
      exact ⟨by kernel_rfl, fun j t ht => by
        rw [Ybad.params3] at ht
        rcases j with _ | _ | _ | j
        · obtain rfl : t = 22 := by simpa using ht.symm
          exact (show Ybad.prog.wantsStandIn 22 = false by kernel_rfl)
        · obtain rfl : t = 23 := by simpa using ht.symm
          exact (show Ybad.prog.wantsStandIn 23 = false by kernel_rfl)
        · obtain rfl : t = 4 := by simpa using ht.symm
          exact (show Ybad.prog.wantsStandIn 4 = false by kernel_rfl)
        · simp at ht⟩)
    (by kernel_rfl)
end Go.Proofs.YbulkeefeDoor
