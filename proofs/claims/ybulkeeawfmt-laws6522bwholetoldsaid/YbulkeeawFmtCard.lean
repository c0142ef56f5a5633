import Derived.Test.YbulkeeawFmtRows
import Derived.Test.YbulkeeawFmtCards
import Derived.Test.YbulkeeawFmtLaw
import Derived.ProofKit
import Derived.OpenShut
import Derived.ChangeSlices
import Derived.Deep.Grids
import Derived.Stop.JoinedAt
import Derived.Stop.JoinedTold
import Derived.SevenToldRow
namespace Go.Proofs.YbulkeeawFmt
open Go.ChangeShapes Go.WideShapes Go.ChangeAt Go.RowKit
open Go.Extern.Stop Go.Stop Go.Extern
set_option linter.unusedVariables false

theorem ownA : ownKnob Ybaf.prog.godebug = none := by kernel_rfl
theorem laidOutA : laidOutB Ybaf.pinned.checked.prog = true := by kernel_rfl
theorem stopsA : Ybaf.pinned.checked.prog.stops = ["fmt.Sprintf"] := by kernel_rfl
theorem stopKnobsA : Ybaf.pinned.checked.prog.stopKnobs = [] := by kernel_rfl
theorem quietA (os : Os) : Stop.quiet Ybaf.pinned.checked.prog os := by
  intro k hk
  rw [stopKnobsA] at hk
  cases hk

theorem nat_reads {W : World} {x : Addr} {len : Nat} {zs : List Int} {k : IntKind} {M : Nat} (hl : len ≤ zs.length) (hcell : ∀ i, i < zs.length → W.cell? (x.add i) = some (.int k (zs.getD i 0))) (hb : ∀ n ∈ zs, 0 ≤ n ∧ n ≤ M) :
    Reads W (some x) len (fun i => .int k (((zs.getD i 0).toNat : Nat) : Int)) ∧ ∀ i, i < len → (zs.getD i 0).toNat ≤ M := by
  have hbi : ∀ i, i < len → 0 ≤ zs.getD i 0 ∧ zs.getD i 0 ≤ M := fun i hi => by
    have hi2 : i < zs.length := by omega
    have e0 : zs.getD i 0 = zs[i] := by simp [List.getD_eq_getElem?_getD, List.getElem?_eq_getElem hi2]
    rw [e0]; exact hb _ (List.getElem_mem hi2)
  have h := reads_in (n := zs.length) (f := fun i => .int k (zs.getD i 0)) hl hcell
  refine ⟨fun i hi => ?_, fun i hi => by have := hbi i hi; omega⟩
  obtain ⟨b, off, e, hlt, hc⟩ := h i hi
  refine ⟨b, off, e, hlt, ?_⟩
  rw [hc]
  have := (hbi i hi).1
  show some (Value.int k (zs.getD i 0)) = some (.int k (((zs.getD i 0).toNat : Nat) : Int))
  rw [Int.toNat_of_nonneg this]

theorem u8_wf {n : Int} (h : (Lit.int .u8 n).wf = true) : 0 ≤ n ∧ n ≤ (255 : Nat) := by
  have e1 : IntKind.u8.min = 0 := rfl
  have e2 : IntKind.u8.max = 255 := rfl
  simpa [Lit.wf, e1, e2] using h
theorem u16_wf {n : Int} (h : (Lit.int .u16 n).wf = true) : 0 ≤ n ∧ n ≤ (65535 : Nat) := by
  have e1 : IntKind.u16.min = 0 := rfl
  have e2 : IntKind.u16.max = 65535 := rfl
  simpa [Lit.wf, e1, e2] using h

theorem cells5 : Ybaf.prog.cellsOf 5 = 1 := by kernel_rfl
theorem cells24 : Ybaf.prog.cellsOf 24 = 1 := by kernel_rfl
theorem cells4 : Ybaf.prog.cellsOf 4 = 1 := by kernel_rfl

theorem in_u8 {H : Type} {enc : TypeId × Value → H} {W : World} {a : Option Addr} {len cap : Nat} {x : DataW H × List MemPlace} {held : Bool} (h : ∃ fuel, DataW.trod enc Ybaf.prog W 0 (fun _ => true) held fuel 22 (Value.slice a len cap).cells.toList = some x) :
    ∃ r : Nat → Nat, Reads W a len (fun i => .int .u8 (r i : Nat)) ∧ ∀ i, i < len → r i ≤ 255 := by
  obtain ⟨fuel, hf⟩ := h
  rcases open_ints Ybaf.underlying22 Ybaf.underlying5 cells5 hf with ⟨hcs, _⟩ | ⟨x, l, c, zs, hcs, _, hl, hm, hz, hx, hcell, hwz⟩
  · simp [Value.cells] at hcs
    obtain ⟨rfl, rfl, rfl⟩ := hcs
    exact ⟨fun _ => 0, fun i hi => by omega, fun i hi => by omega⟩
  · simp [Value.cells] at hcs
    obtain ⟨rfl, rfl, rfl⟩ := hcs
    have hz' : zs.length = cap := by simpa using hz
    exact ⟨_, nat_reads (by omega) hcell fun n hn => u8_wf (hwz n hn)⟩
theorem in_u16 {H : Type} {enc : TypeId × Value → H} {W : World} {a : Option Addr} {len cap : Nat} {x : DataW H × List MemPlace} {held : Bool} (h : ∃ fuel, DataW.trod enc Ybaf.prog W 0 (fun _ => true) held fuel 23 (Value.slice a len cap).cells.toList = some x) :
    ∃ r : Nat → Nat, Reads W a len (fun i => .int .u16 (r i : Nat)) ∧ ∀ i, i < len → r i ≤ 65535 := by
  obtain ⟨fuel, hf⟩ := h
  rcases open_ints Ybaf.underlying23 Ybaf.underlying24 cells24 hf with ⟨hcs, _⟩ | ⟨x, l, c, zs, hcs, _, hl, hm, hz, hx, hcell, hwz⟩
  · simp [Value.cells] at hcs
    obtain ⟨rfl, rfl, rfl⟩ := hcs
    exact ⟨fun _ => 0, fun i hi => by omega, fun i hi => by omega⟩
  · simp [Value.cells] at hcs
    obtain ⟨rfl, rfl, rfl⟩ := hcs
    have hz' : zs.length = cap := by simpa using hz
    exact ⟨_, nat_reads (by omega) hcell fun n hn => u16_wf (hwz n hn)⟩
theorem in_bool {H : Type} {enc : TypeId × Value → H} {W : World} {a : Option Addr} {len cap : Nat} {x : DataW H × List MemPlace} {held : Bool} (h : ∃ fuel, DataW.trod enc Ybaf.prog W 0 (fun _ => true) held fuel 25 (Value.slice a len cap).cells.toList = some x) :
    ∃ r : Nat → Bool, Reads W a len (fun i => .bool (r i)) := by
  obtain ⟨fuel, hf⟩ := h
  rcases Deep.open_bools Ybaf.underlying25 Ybaf.underlying4 cells4 hf with ⟨hcs, _⟩ | ⟨x, l, c, B, hcs, _, hl, hm, hx, hcell⟩
  · simp [Value.cells] at hcs
    obtain ⟨rfl, rfl, rfl⟩ := hcs
    exact ⟨fun _ => false, fun i hi => by omega⟩
  · simp [Value.cells] at hcs
    obtain ⟨rfl, rfl, rfl⟩ := hcs
    exact ⟨B, reads_in (n := cap) hl hcell⟩

theorem nat_of {n : Int} {M : Nat} (h : 0 ≤ n ∧ n ≤ M) : ∃ x : Nat, n = (x : Int) ∧ x ≤ M := ⟨n.toNat, by omega, by omega⟩

set_option maxRecDepth 100000 in
set_option maxHeartbeats 1000000 in
theorem lifted (os : Os) (started : os.Started) (H : Type) (enc : TypeId × Value → H) :
    ReturnsInTold none {} Ybaf.checked os 3 .any Input.okWide ((OpenSpec.ofChange Rows.lawS6522BWholeSpec).preRow enc Ybaf.prog Ybaf.f3 Rows.lawS6522BWholeRow.domain false Rows.lawS6522BWholeRow.laid) (fun F => ((OpenSpec.ofChange Rows.lawS6522BWholeSpec).at F).post enc Ybaf.prog Ybaf.f3 false true false false) (aloneAtReturn Ybaf.prog) nothingAlways := by
  refine returnsInTold_of_row (C := Ybaf.checked) (s := OpenSpec.ofChange Rows.lawS6522BWholeSpec) (by kernel_rfl) ownA started (by kernel_rfl) Ybaf.func3
    (OpenSpec.witness_stopped (enc := enc) (C := Ybaf.checked) false ⟨#[], #[.slice none 0 0, .int .u8 0, .slice none 0 0, .int .u8 0, .int .u8 0, .int .u8 0, .int .u16 0, .int .u16 0, .slice none 0 0, .slice none 0 0, .int .u8 0], []⟩ 8 (by kernel_rfl) (by kernel_rfl) (by kernel_rfl) (by kernel_rfl)) ?_
  intro F W base args ds gs before _ hF hval0 hW _ _ _ hL _
  have hval : ∀ (j : Nat) t v, Ybaf.f3.params[j]? = some t → args[j]? = some v → Value.okWide Ybaf.prog W .any base t v := hval0
  have hW' := hW
  obtain ⟨p, q, hA0, hV, rfl, hfz, hnd⟩ := hW
  have hA : DataW.TrodAll enc Ybaf.prog W 0 (fun _ => true) true Ybaf.f3.params.toList args.toList ds p := hA0
  rw [Ybaf.params3] at hA hval
  obtain ⟨v0, vs0, d0, ds0, p0, q0, hargs, rfl, rfl, h0, r0⟩ := trodAll_cons hA
  obtain ⟨v1, vs1, d1, ds1, p1, q1, rfl, rfl, rfl, h1, r1⟩ := trodAll_cons r0
  obtain ⟨v2, vs2, d2, ds2, p2, q2, rfl, rfl, rfl, h2, r2⟩ := trodAll_cons r1
  obtain ⟨v3, vs3, d3, ds3, p3, q3, rfl, rfl, rfl, h3, r3⟩ := trodAll_cons r2
  obtain ⟨v4, vs4, d4, ds4, p4, q4, rfl, rfl, rfl, h4, r4⟩ := trodAll_cons r3
  obtain ⟨v5, vs5, d5, ds5, p5, q5, rfl, rfl, rfl, h5, r5⟩ := trodAll_cons r4
  obtain ⟨v6, vs6, d6, ds6, p6, q6, rfl, rfl, rfl, h6, r6⟩ := trodAll_cons r5
  obtain ⟨v7, vs7, d7, ds7, p7, q7, rfl, rfl, rfl, h7, r7⟩ := trodAll_cons r6
  obtain ⟨v8, vs8, d8, ds8, p8, q8, rfl, rfl, rfl, h8, r8⟩ := trodAll_cons r7
  obtain ⟨v9, vs9, d9, ds9, p9, q9, rfl, rfl, rfl, h9, r9⟩ := trodAll_cons r8
  obtain ⟨v10, vs10, d10, ds10, p10, q10, rfl, rfl, rfl, h10, r10⟩ := trodAll_cons r9
  obtain ⟨rfl, rfl, rfl⟩ := trodAll_nil r10
  obtain rfl : args = #[v0, v1, v2, v3, v4, v5, v6, v7, v8, v9, v10] := by cases args; simp_all
  obtain ⟨rfl, rfl⟩ := trodVars_none hV
  obtain ⟨a0, n0, c0, rfl⟩ := okWide_slice Ybaf.underlying22 (hval 0 22 v0 rfl rfl)
  obtain ⟨a2, n2, c2, rfl⟩ := okWide_slice Ybaf.underlying23 (hval 2 23 v2 rfl rfl)
  obtain ⟨a8, n8, c8, rfl⟩ := okWide_slice Ybaf.underlying22 (hval 8 22 v8 rfl rfl)
  obtain ⟨a9, n9, c9, rfl⟩ := okWide_slice Ybaf.underlying25 (hval 9 25 v9 rfl rfl)
  obtain ⟨y1, rfl, rfl, rfl, w1⟩ := open_int Ybaf.underlying5 (hval 1 5 v1 rfl rfl) h1
  obtain ⟨y3, rfl, rfl, rfl, w3⟩ := open_int Ybaf.underlying5 (hval 3 5 v3 rfl rfl) h3
  obtain ⟨y4, rfl, rfl, rfl, w4⟩ := open_int Ybaf.underlying5 (hval 4 5 v4 rfl rfl) h4
  obtain ⟨y5, rfl, rfl, rfl, w5⟩ := open_int Ybaf.underlying5 (hval 5 5 v5 rfl rfl) h5
  obtain ⟨y6, rfl, rfl, rfl, w6⟩ := open_int Ybaf.underlying24 (hval 6 24 v6 rfl rfl) h6
  obtain ⟨y7, rfl, rfl, rfl, w7⟩ := open_int Ybaf.underlying24 (hval 7 24 v7 rfl rfl) h7
  obtain ⟨y10, rfl, rfl, rfl, w10⟩ := open_int Ybaf.underlying5 (hval 10 5 v10 rfl rfl) h10
  clear hA0 hval0
  have k0 := h0
  have k2 := h2
  have k8 := h8
  have k9 := h9
  have lt0 : ∀ x ∈ p0, x.block < W.heap.size := by obtain ⟨m, hm⟩ := k0; exact DataW.trod_lt m _ _ _ hm
  have lt2 : ∀ x ∈ p2, x.block < W.heap.size := by obtain ⟨m, hm⟩ := k2; exact DataW.trod_lt m _ _ _ hm
  have lt8 : ∀ x ∈ p8, x.block < W.heap.size := by obtain ⟨m, hm⟩ := k8; exact DataW.trod_lt m _ _ _ hm
  have lt9 : ∀ x ∈ p9, x.block < W.heap.size := by obtain ⟨m, hm⟩ := k9; exact DataW.trod_lt m _ _ _ hm
  obtain ⟨r, hr, hrb⟩ := in_u8 h0
  obtain ⟨l, hl, hlb⟩ := in_u16 h2
  obtain ⟨ls, hls, hlsb⟩ := in_u8 h8
  obtain ⟨ss, hss⟩ := in_bool h9
  obtain ⟨z1, e1, b1⟩ := nat_of (u8_wf w1)
  obtain ⟨z3, e3, b3⟩ := nat_of (u8_wf w3)
  obtain ⟨z4, e4, b4⟩ := nat_of (u8_wf w4)
  obtain ⟨z5, e5, b5⟩ := nat_of (u8_wf w5)
  obtain ⟨z6, e6, b6⟩ := nat_of (u16_wf w6)
  obtain ⟨z7, e7, b7⟩ := nat_of (u16_wf w7)
  obtain ⟨z10, e10, b10⟩ := nat_of (u8_wf w10)
  subst e1
  subst e3
  subst e4
  subst e5
  subst e6
  subst e7
  subst e10
  refine (law_calls a0 n0 c0 r z1 a2 n2 c2 l z3 z4 z5 z6 z7 a8 n8 c8 ls a9 n9 c9 ss z10 W hr hl hls hss b1 b3 b4 b5 b6 b7 b10 hrb hlb hlsb).mono fun e W' ⟨he, bel⟩ => ?_
  subst he
  refine ⟨_, rfl, _, _, _, [], _, [], hW', trodAll_mk1 (shut_bool Ybaf.underlying4 _), (trodAll_cons_mk (Below.trod laidOutA (by kernel_rfl) (of_decide_eq_true (by kernel_rfl)) k0 bel lt0) (trodAll_cons_mk (shut_int Ybaf.underlying5 w1) (trodAll_cons_mk (Below.trod laidOutA (by kernel_rfl) (of_decide_eq_true (by kernel_rfl)) k2 bel lt2) (trodAll_cons_mk (shut_int Ybaf.underlying5 w3) (trodAll_cons_mk (shut_int Ybaf.underlying5 w4) (trodAll_cons_mk (shut_int Ybaf.underlying5 w5) (trodAll_cons_mk (shut_int Ybaf.underlying24 w6) (trodAll_cons_mk (shut_int Ybaf.underlying24 w7) (trodAll_cons_mk (Below.trod laidOutA (by kernel_rfl) (of_decide_eq_true (by kernel_rfl)) k8 bel lt8) (trodAll_cons_mk (Below.trod laidOutA (by kernel_rfl) (of_decide_eq_true (by kernel_rfl)) k9 bel lt9) (trodAll_cons_mk (shut_int Ybaf.underlying5 w10) trodAll_mk0))))))))))), rfl, bel.frame _, fun h => by cases h⟩

theorem lawB_proved : Rows.LawS6522BWholeToldSaid :=
  Claim7.holds_of_told_any 3 Ybaf.f3 "fmt.Sprintf" [] [] _ _ _ (by kernel_rfl) rfl rfl rfl laidOutA (by kernel_rfl) rfl ⟨rfl, rfl, rfl, rfl, rfl, rfl, rfl⟩ rfl rfl (by kernel_rfl) (by kernel_rfl) Ybaf.func3 (by kernel_rfl)
    (of_decide_eq_true (by kernel_rfl)) (of_decide_eq_true (by kernel_rfl)) stopsA.symm rfl stopKnobsA.symm (by kernel_rfl)
    (by kernel_rfl) (by kernel_rfl) (by kernel_rfl) (by kernel_rfl) (by kernel_rfl) (by kernel_rfl) (by kernel_rfl) (by kernel_rfl) (by kernel_rfl) rfl (by kernel_rfl) rfl rfl
    rfl rfl
    rfl (by kernel_rfl) (by kernel_rfl) (by kernel_rfl) (by decide) (by kernel_rfl)
    (OpenClaim.moreEntering_of (by kernel_rfl) (by kernel_rfl) (by kernel_rfl) (by kernel_rfl) (by kernel_rfl) (by kernel_rfl) (by kernel_rfl) (by kernel_rfl) (by kernel_rfl) (by kernel_rfl))
    ⟨_, WideRow.started_initial, quietA _⟩
    (fun os started _ H enc _ => lifted os started H enc)

end Go.Proofs.YbulkeeawFmt
