import Derived.Test.YbulkeeeqRows
import Derived.Test.YbulkeeeqLaw
import Derived.ProofKit
import Derived.OpenShut
import Derived.ChangeOld
import Derived.ChangeSlices
import Derived.Deep.Slices
namespace Go.Proofs.Ybulkeeeq
open Go.ChangeShapes Go.WideShapes Go.ChangeAt Go.RowKit
set_option linter.unusedVariables false

theorem ownA : ownKnob Yba.prog.godebug = none := by kernel_rfl
theorem laidOutA : laidOutB Yba.prog = true := by kernel_rfl
theorem cells45 : Yba.prog.cellsOf 45 = 5 := by kernel_rfl

theorem u8_wf {n : Int} (h : (Lit.int .u8 n).wf = true) : 0 ≤ n ∧ n ≤ (255 : Nat) := by
  have e1 : IntKind.u8.min = 0 := rfl
  have e2 : IntKind.u8.max = 255 := rfl
  simpa [Lit.wf, e1, e2] using h

set_option maxRecDepth 100000 in
set_option maxHeartbeats 1000000 in
/-- One item, read. -/
theorem in_item {H : Type} {enc : TypeId × Value → H} {W : World} {n : Nat} {cs : List Value} {x : DataW H × List MemPlace} {held : Bool} (h : DataW.trod enc Yba.prog W 0 (fun _ => true) held n 45 cs = some x) :
    ∃ (ln : Nat) (tm : Int) (dl : Nat) (ch : Bool) (dv : Nat), cs = [.int .u8 ln, .int .i64 tm, .int .u8 dl, .bool ch, .int .u8 dv] ∧ ln ≤ 255 ∧ dl ≤ 255 ∧ dv ≤ 255 := by
  obtain ⟨xs, m, _, hx, hcl, hlen, hfs⟩ := DataW.trod_struct Yba.underlying45 h
  rw [cells45] at hcl
  obtain ⟨c0, c1, c2, c3, c4, rfl⟩ : ∃ c0 c1 c2 c3 c4, cs = [c0, c1, c2, c3, c4] := by
    match cs, hcl with
    | [c0, c1, c2, c3, c4], _ => exact ⟨c0, c1, c2, c3, c4, rfl⟩
  obtain ⟨y0, y1, y2, y3, y4, rfl⟩ : ∃ y0 y1 y2 y3 y4, xs = [y0, y1, y2, y3, y4] := by
    match xs, hlen with
    | [y0, y1, y2, y3, y4], _ => exact ⟨y0, y1, y2, y3, y4, rfl⟩
  have g0 : DataW.trod enc Yba.prog W 0 (fun _ => true) held m 5 [c0] = some y0 := by
    have := hfs 0 _ rfl
    simpa [show Yba.prog.cellsOf 5 = 1 by kernel_rfl] using this
  have g1 : DataW.trod enc Yba.prog W 0 (fun _ => true) held m 2 [c1] = some y1 := by
    have := hfs 1 _ rfl
    simpa [show Yba.prog.cellsOf 2 = 1 by kernel_rfl] using this
  have g2 : DataW.trod enc Yba.prog W 0 (fun _ => true) held m 5 [c2] = some y2 := by
    have := hfs 2 _ rfl
    simpa [show Yba.prog.cellsOf 5 = 1 by kernel_rfl] using this
  have g3 : DataW.trod enc Yba.prog W 0 (fun _ => true) held m 4 [c3] = some y3 := by
    have := hfs 3 _ rfl
    simpa [show Yba.prog.cellsOf 4 = 1 by kernel_rfl] using this
  have g4 : DataW.trod enc Yba.prog W 0 (fun _ => true) held m 5 [c4] = some y4 := by
    have := hfs 4 _ rfl
    simpa [show Yba.prog.cellsOf 5 = 1 by kernel_rfl] using this
  obtain ⟨z0, e0, -, w0⟩ := DataW.trod_int Yba.underlying5 g0
  obtain ⟨z1, e1, -, w1⟩ := DataW.trod_int Yba.underlying2 g1
  obtain ⟨z2, e2, -, w2⟩ := DataW.trod_int Yba.underlying5 g2
  obtain ⟨z3, e3, -⟩ := DataW.trod_bool Yba.underlying4 g3
  obtain ⟨z4, e4, -, w4⟩ := DataW.trod_int Yba.underlying5 g4
  simp only [List.cons.injEq, and_true] at e0 e1 e2 e3 e4
  subst e0 e1 e2 e3 e4
  have b0 := u8_wf w0
  have b2 := u8_wf w2
  have b4 := u8_wf w4
  refine ⟨z0.toNat, z1, z2.toNat, z3, z4.toNat, ?_, by omega, by omega, by omega⟩
  rw [Int.toNat_of_nonneg b0.1, Int.toNat_of_nonneg b2.1, Int.toNat_of_nonneg b4.1]

structure Item where
  ln : Nat
  tm : Int
  dl : Nat
  ch : Bool
  dv : Nat

set_option maxRecDepth 100000 in
/-- The items, read. -/
theorem in_items {H : Type} {enc : TypeId × Value → H} {W : World} {a : Option Addr} {len cap : Nat} {x : DataW H × List MemPlace} {held : Bool} (h : ∃ fuel, DataW.trod enc Yba.prog W 0 (fun _ => true) held fuel 22 (Value.slice a len cap).cells.toList = some x) :
    len ≤ maxLen ∧ ∃ f : Nat → Item, (∀ i, (f i).ln ≤ 255 ∧ (f i).dl ≤ 255 ∧ (f i).dv ≤ 255) ∧ ∀ i, i < len → ∃ b off, a = some ⟨b, off, none⟩ ∧ b < W.heap.size ∧ W.cell? ⟨b, off + i * 5, none⟩ = some (.int .u8 (f i).ln) ∧ W.cell? ⟨b, off + i * 5 + 1, none⟩ = some (.int .i64 (f i).tm) ∧ W.cell? ⟨b, off + i * 5 + 2, none⟩ = some (.int .u8 (f i).dl) ∧ W.cell? ⟨b, off + i * 5 + 3, none⟩ = some (.bool (f i).ch) ∧ W.cell? ⟨b, off + i * 5 + 4, none⟩ = some (.int .u8 (f i).dv) := by
  have inh : Inhabited Item := ⟨⟨0, 0, 0, false, 0⟩⟩
  obtain ⟨fuel, hf⟩ := h
  rcases Deep.open_slice Yba.underlying22 hf with ⟨hcs, _⟩ | ⟨x, l, c, m, n, D, Pl, hcs, _, hl, hm, hmv, _, hel⟩
  · simp [Value.cells] at hcs
    obtain ⟨rfl, rfl, rfl⟩ := hcs
    exact ⟨by unfold maxLen; omega, fun _ => ⟨0, 0, 0, false, 0⟩, fun i => ⟨by simp, by simp, by simp⟩, fun i hi => by omega⟩
  · simp [Value.cells] at hcs
    obtain ⟨rfl, rfl, rfl⟩ := hcs
    have hmc : len ≤ m := by rw [hmv]; split <;> omega
    have hsp : 0 < len → x.spot = none := fun h0 => by
      obtain ⟨cs', h1, h2⟩ := hel 0 (by omega)
      rw [Nat.zero_mul, cells45] at h1
      obtain ⟨ln, tm, dl, ch, dv, rfl, b1, b2, b3⟩ := in_item h2
      have c0 := (World.cells?_some h1).2.2 0 (by omega)
      simpa [Addr.add] using World.cell?_spot c0
    have key : ∀ i, i < len → ∃ it : Item, (it.ln ≤ 255 ∧ it.dl ≤ 255 ∧ it.dv ≤ 255) ∧ ∃ b off, (some x : Option Addr) = some ⟨b, off, none⟩ ∧ b < W.heap.size ∧ W.cell? ⟨b, off + i * 5, none⟩ = some (.int .u8 it.ln) ∧ W.cell? ⟨b, off + i * 5 + 1, none⟩ = some (.int .i64 it.tm) ∧ W.cell? ⟨b, off + i * 5 + 2, none⟩ = some (.int .u8 it.dl) ∧ W.cell? ⟨b, off + i * 5 + 3, none⟩ = some (.bool it.ch) ∧ W.cell? ⟨b, off + i * 5 + 4, none⟩ = some (.int .u8 it.dv) := by
      intro i hi
      obtain ⟨cs', h1, h2⟩ := hel i (by omega)
      rw [cells45] at h1
      obtain ⟨ln, tm, dl, ch, dv, rfl, b1, b2, b3⟩ := in_item h2
      have hc := World.cells?_some h1
      obtain ⟨b, off, spot⟩ := x
      have c0 := hc.2.2 0 (by omega)
      have c1 := hc.2.2 1 (by omega)
      have c2 := hc.2.2 2 (by omega)
      have c3 := hc.2.2 3 (by omega)
      have c4 := hc.2.2 4 (by omega)
      rw [Deep.add_add] at c0 c1 c2 c3 c4
      have hspot : spot = none := hsp (by omega)
      subst hspot
      rw [add_plain] at c0 c1 c2 c3 c4
      refine ⟨⟨ln, tm, dl, ch, dv⟩, ⟨b1, b2, b3⟩, b, off, rfl, lt_of_cell c0, ?_, ?_, ?_, ?_, ?_⟩
      · simpa using c0
      · simpa [Nat.add_assoc] using c1
      · simpa [Nat.add_assoc] using c2
      · simpa [Nat.add_assoc] using c3
      · simpa [Nat.add_assoc] using c4
    obtain ⟨f, hf2⟩ := Deep.choose_lt key
    refine ⟨by omega, fun i => if i < len then f i else ⟨0, 0, 0, false, 0⟩, fun i => ?_, fun i hi => ?_⟩
    · by_cases hi : i < len
      · simp only [if_pos hi]; exact (hf2 i hi).1
      · simp only [if_neg hi]; exact ⟨by simp, by simp, by simp⟩
    · simp only [if_pos hi]; exact (hf2 i hi).2

set_option maxRecDepth 100000 in
set_option maxHeartbeats 400000 in
theorem law_big (a : Option Addr) (N cap k nlb : Nat) (start : Int) (w : World) (hN : 1024 < N) (hm : N ≤ maxLen) (hnlb : nlb ≤ 255) (hk : k ≤ 255) :
    Calls Yba.prog 3 #[.slice a N cap, .int .u8 nlb, .int .u8 k, .int .i64 start] w fun e w' => e = .returned (.bool true) ∧ Below w.heap.size w w' := by
  have hgt : decide ((1024 : Int) < (N : Int)) = true := decide_eq_true (by omega)
  go_enter Yba.func3, Yba.ntmps3
  go_wp2
  go_ret
  exact ⟨rfl, Below.refl _ w⟩

theorem law_any (f : Nat → Item) (hfb : ∀ i, (f i).ln ≤ 255 ∧ (f i).dl ≤ 255 ∧ (f i).dv ≤ 255) (a : Option Addr) (N cap k nlb : Nat) (start : Int) (w : World) (hm : N ≤ maxLen) (hnlb : nlb ≤ 255) (hk : k ≤ 255)
    (hread : ∀ i, i < N → ∃ b off, a = some ⟨b, off, none⟩ ∧ b < w.heap.size ∧ w.cell? ⟨b, off + i * 5, none⟩ = some (.int .u8 (f i).ln) ∧ w.cell? ⟨b, off + i * 5 + 1, none⟩ = some (.int .i64 (f i).tm) ∧ w.cell? ⟨b, off + i * 5 + 2, none⟩ = some (.int .u8 (f i).dl) ∧ w.cell? ⟨b, off + i * 5 + 3, none⟩ = some (.bool (f i).ch) ∧ w.cell? ⟨b, off + i * 5 + 4, none⟩ = some (.int .u8 (f i).dv)) :
    Calls Yba.prog 3 #[.slice a N cap, .int .u8 nlb, .int .u8 k, .int .i64 start] w fun e w' => e = .returned (.bool true) ∧ Below w.heap.size w w' := by
  by_cases hN : 1024 < N
  · exact law_big a N cap k nlb start w hN hm hnlb hk
  · exact law_main ⟨N, nlb % 4, start, fun i => (f i).ln, fun i => (f i).tm, fun i => (f i).dl, fun i => (f i).ch, fun i => (f i).dv⟩ a cap k nlb w (by show N ≤ 1024; omega) hnlb rfl hk hread (fun i => (hfb i).1) (fun i => (hfb i).2.1) (fun i => (hfb i).2.2)

theorem nat_of {n : Int} {M : Nat} (h : 0 ≤ n ∧ n ≤ M) : ∃ x : Nat, n = (x : Int) ∧ x ≤ M := ⟨n.toNat, by omega, by omega⟩

set_option maxRecDepth 100000 in
theorem lifted (os : Os) (started : os.Started) (H : Type) (enc : TypeId × Value → H) :
    ReturnsInHanded {} Yba.checked os 3 .any (Rows.lawS6529AWholeSpec.pre6 enc Yba.prog Yba.f3 Rows.lawS6529AWholeRow.domain false) (Rows.lawS6529AWholeSpec.post enc Yba.prog Yba.f3 false true false false) := by
  refine returnsInHanded_of_change (C := Yba.checked) ownA started (by kernel_rfl) Yba.func3
    (ChangeSpec.witness6 (enc := enc) (C := Yba.checked) false ⟨#[], #[.slice none 0 0, .int .u8 0, .int .u8 0, .int .i64 0], []⟩ 8 (by kernel_rfl) (by kernel_rfl) (by kernel_rfl) (by kernel_rfl)) ?_
  intro W base args ds gs before hval0 hW hcnd _
  have hval : ∀ (j : Nat) t v, Yba.f3.params[j]? = some t → args[j]? = some v → Value.okWide Yba.prog W .any base t v := hval0
  have hW' := hW
  obtain ⟨p, q, hA0, hV, rfl, hfz, hnd⟩ := hW
  have hA : DataW.TrodAll enc Yba.prog W 0 (fun _ => true) true Yba.f3.params.toList args.toList ds p := hA0
  rw [Yba.params3] at hA hval
  obtain ⟨v0, vs0, d0, ds0, p0, q0, hargs, rfl, rfl, h0, r0⟩ := trodAll_cons hA
  obtain ⟨v1, vs1, d1, ds1, p1, q1, rfl, rfl, rfl, h1, r1⟩ := trodAll_cons r0
  obtain ⟨v2, vs2, d2, ds2, p2, q2, rfl, rfl, rfl, h2, r2⟩ := trodAll_cons r1
  obtain ⟨v3, vs3, d3, ds3, p3, q3, rfl, rfl, rfl, h3, r3⟩ := trodAll_cons r2
  obtain ⟨rfl, rfl, rfl⟩ := trodAll_nil r3
  obtain rfl : args = #[v0, v1, v2, v3] := by cases args; simp_all
  obtain ⟨rfl, rfl⟩ := trodVars_none hV
  obtain ⟨a0, n0, c0, rfl⟩ := okWide_slice Yba.underlying22 (hval 0 22 v0 rfl rfl)
  obtain ⟨y1, rfl, rfl, rfl, w1⟩ := open_int Yba.underlying5 (hval 1 5 v1 rfl rfl) h1
  obtain ⟨y2, rfl, rfl, rfl, w2⟩ := open_int Yba.underlying5 (hval 2 5 v2 rfl rfl) h2
  obtain ⟨y3, rfl, rfl, rfl, w3⟩ := open_int Yba.underlying2 (hval 3 2 v3 rfl rfl) h3
  clear hA0 hval0
  have k0 := h0
  have lt0 : ∀ x ∈ p0, x.block < W.heap.size := by obtain ⟨m, hm⟩ := k0; exact DataW.trod_lt m _ _ _ hm
  obtain ⟨hm, f, hfb, hread⟩ := in_items h0
  obtain ⟨z1, e1, b1⟩ := nat_of (u8_wf w1)
  obtain ⟨z2, e2, b2⟩ := nat_of (u8_wf w2)
  subst e1
  subst e2
  refine (law_any f hfb a0 n0 c0 z2 z1 y3 W hm b1 b2 hread).mono fun e W' ⟨he, bel⟩ => ?_
  subst he
  exact ⟨_, rfl, _, _, _, [], _, [], hW', trodAll_mk1 (shut_bool Yba.underlying4 _), (trodAll_cons_mk (Below.trod laidOutA (by kernel_rfl) (of_decide_eq_true (by kernel_rfl)) k0 bel lt0) (trodAll_cons_mk (shut_int Yba.underlying5 w1) (trodAll_cons_mk (shut_int Yba.underlying5 w2) (trodAll_cons_mk (shut_int Yba.underlying2 w3) trodAll_mk0)))), rfl, bel.frame _, fun h => by cases h⟩

theorem lawA_proved : Rows.LawS6529AWholeSaid :=
  OpenClaim.holds_of_wide 3 Yba.f3 rfl rfl rfl rfl rfl rfl rfl ⟨rfl, rfl, rfl, rfl, rfl⟩ rfl rfl rfl rfl rfl (by kernel_rfl) Yba.func3 (by kernel_rfl)
    (of_decide_eq_true (by kernel_rfl)) (by unfold Func.isWrapper; first | (rw [if_pos (by decide +kernel)]; kernel_rfl) | (rw [if_neg (by decide +kernel)]; exact ⟨rfl, rfl⟩))
    (fun os started H enc _ => lifted os started H enc)

end Go.Proofs.Ybulkeeeq
