import Derived.Test.YbulkeeeqRows
import Derived.Test.YbulkeeeqLawB
import Derived.ProofKit
import Derived.OpenShut
import Derived.ChangeOld
import Derived.ChangeSlices
import Derived.ChangeMaps5
import Derived.Deep.Slices
namespace Go.Proofs.Ybulkeeeq
open Go.ChangeShapes Go.WideShapes Go.ChangeAt Go.RowKit
open Go.ChangeMaps (open_string shut_string)
set_option linter.unusedVariables false

theorem ownB : ownKnob Yba.prog.godebug = none := by kernel_rfl
theorem laidOutB' : laidOutB Yba.prog = true := by kernel_rfl
theorem cells71 : Yba.prog.cellsOf 71 = 6 := by kernel_rfl

theorem u8_wfB {n : Int} (h : (Lit.int .u8 n).wf = true) : 0 ≤ n ∧ n ≤ (255 : Nat) := by
  have e1 : IntKind.u8.min = 0 := rfl
  have e2 : IntKind.u8.max = 255 := rfl
  simpa [Lit.wf, e1, e2] using h
theorem u64_wfB {n : Int} (h : (Lit.int .u64 n).wf = true) : 0 ≤ n ∧ n ≤ (18446744073709551615 : Nat) := by
  have e1 : IntKind.u64.min = 0 := rfl
  have e2 : IntKind.u64.max = 18446744073709551615 := rfl
  simpa [Lit.wf, e1, e2] using h
theorem nat_ofB {n : Int} {M : Nat} (h : 0 ≤ n ∧ n ≤ M) : ∃ x : Nat, n = (x : Int) ∧ x ≤ M := ⟨n.toNat, by omega, by omega⟩

set_option maxRecDepth 100000 in
/-- A row of bytes, read. -/
theorem in_bytes {H : Type} {enc : TypeId × Value → H} {W : World} {m : Nat} {c : Value} {x : DataW H × List MemPlace} {held : Bool} (h : DataW.trod enc Yba.prog W 0 (fun _ => true) held m 69 [c] = some x) :
    ∃ (a : Option Addr) (n cp : Nat) (f : Nat → Nat), c = .slice a n cp ∧ n ≤ 9223372036854775807 ∧ Reads W a n (fun j => .int .u8 (f j : Nat)) := by
  rcases Deep.open_slice1 Yba.underlying69 (by kernel_rfl) h with ⟨hcs, _⟩ | ⟨y, l, cp, mm, n, V, D, Pl, hcs, _, hl, hm, hmm, _, hel⟩
  · exact ⟨none, 0, 0, fun _ => 0, by simpa using hcs, by omega, fun i hi => by omega⟩
  · have hmc : mm = cp := by simpa using hmm
    have hsp : 0 < l → y.spot = none := fun h0 => by
      obtain ⟨c1, _⟩ := hel 0 (by omega)
      simpa [Addr.add] using World.cell?_spot c1
    have key : ∀ i, i < l → ∃ z : Nat, ∃ b off, (some y : Option Addr) = some ⟨b, off, none⟩ ∧ b < W.heap.size ∧ W.cell? ⟨b, off + i, none⟩ = some (.int .u8 (z : Nat)) := by
      intro i hi
      obtain ⟨c1, c2⟩ := hel i (by omega)
      obtain ⟨z, e, -, wz⟩ := DataW.trod_int Yba.underlying5 c2
      have hz := u8_wfB wz
      simp only [List.cons.injEq, and_true] at e
      obtain ⟨b, off, spot⟩ := y
      have hs : spot = none := hsp (by omega)
      subst hs
      rw [add_plain, e] at c1
      exact ⟨z.toNat, b, off, rfl, lt_of_cell c1, by rw [Int.toNat_of_nonneg hz.1]; exact c1⟩
    obtain ⟨f, hf⟩ := Deep.choose_lt key
    exact ⟨some y, l, cp, f, by simpa using hcs, by unfold maxLen at hm; omega, hf⟩

set_option maxRecDepth 100000 in
set_option maxHeartbeats 1000000 in
/-- One entry, read. -/
theorem in_entry {H : Type} {enc : TypeId × Value → H} {W : World} {n : Nat} {cs : List Value} {x : DataW H × List MemPlace} {held : Bool} (h : DataW.trod enc Yba.prog W 0 (fun _ => true) held n 71 cs = some x) :
    ∃ (e : Ent) (f : Nat → Nat), cs = [.string e.key, .int .u8 e.hi, .int .u8 e.lo, .int .u8 e.wh, .slice e.va e.vn e.vc, .int .u64 e.ver] ∧ e.key.size ≤ maxLen ∧ e.vn ≤ 9223372036854775807 ∧ (e.hi ≤ 255 ∧ e.lo ≤ 255 ∧ e.wh ≤ 255 ∧ e.ver < 18446744073709551616) ∧ Reads W e.va e.vn (fun j => .int .u8 (f j : Nat)) := by
  obtain ⟨xs, m, _, hx, hcl, hlen, hfs⟩ := DataW.trod_struct Yba.underlying71 h
  rw [cells71] at hcl
  obtain ⟨c0, c1, c2, c3, c4, c5, rfl⟩ : ∃ c0 c1 c2 c3 c4 c5, cs = [c0, c1, c2, c3, c4, c5] := by
    match cs, hcl with
    | [c0, c1, c2, c3, c4, c5], _ => exact ⟨c0, c1, c2, c3, c4, c5, rfl⟩
  obtain ⟨y0, y1, y2, y3, y4, y5, rfl⟩ : ∃ y0 y1 y2 y3 y4 y5, xs = [y0, y1, y2, y3, y4, y5] := by
    match xs, hlen with
    | [y0, y1, y2, y3, y4, y5], _ => exact ⟨y0, y1, y2, y3, y4, y5, rfl⟩
  have g0 : DataW.trod enc Yba.prog W 0 (fun _ => true) held m 9 [c0] = some y0 := by
    have := hfs 0 _ rfl
    simpa [show Yba.prog.cellsOf 9 = 1 by kernel_rfl] using this
  have g1 : DataW.trod enc Yba.prog W 0 (fun _ => true) held m 5 [c1] = some y1 := by
    have := hfs 1 _ rfl
    simpa [show Yba.prog.cellsOf 5 = 1 by kernel_rfl] using this
  have g2 : DataW.trod enc Yba.prog W 0 (fun _ => true) held m 5 [c2] = some y2 := by
    have := hfs 2 _ rfl
    simpa [show Yba.prog.cellsOf 5 = 1 by kernel_rfl] using this
  have g3 : DataW.trod enc Yba.prog W 0 (fun _ => true) held m 5 [c3] = some y3 := by
    have := hfs 3 _ rfl
    simpa [show Yba.prog.cellsOf 5 = 1 by kernel_rfl] using this
  have g4 : DataW.trod enc Yba.prog W 0 (fun _ => true) held m 69 [c4] = some y4 := by
    have := hfs 4 _ rfl
    simpa [show Yba.prog.cellsOf 69 = 1 by kernel_rfl] using this
  have g5 : DataW.trod enc Yba.prog W 0 (fun _ => true) held m 29 [c5] = some y5 := by
    have := hfs 5 _ rfl
    simpa [show Yba.prog.cellsOf 29 = 1 by kernel_rfl] using this
  obtain ⟨z0, e0, -, w0⟩ := DataW.trod_string Yba.underlying9 g0
  obtain ⟨z1, e1, -, w1⟩ := DataW.trod_int Yba.underlying5 g1
  obtain ⟨z2, e2, -, w2⟩ := DataW.trod_int Yba.underlying5 g2
  obtain ⟨z3, e3, -, w3⟩ := DataW.trod_int Yba.underlying5 g3
  obtain ⟨va, vn, vc, f, rfl, w4, hr⟩ := in_bytes g4
  obtain ⟨z5, e5, -, w5⟩ := DataW.trod_int Yba.underlying29 g5
  simp only [List.cons.injEq, and_true] at e0 e1 e2 e3 e5
  subst e0 e1 e2 e3 e5
  have b1 := u8_wfB w1
  have b2 := u8_wfB w2
  have b3 := u8_wfB w3
  have b5 := u64_wfB w5
  refine ⟨⟨z0, z1.toNat, z2.toNat, z3.toNat, va, vn, vc, z5.toNat⟩, f, ?_, w0, w4, ⟨?_, ?_, ?_, ?_⟩, hr⟩
  · dsimp only
    rw [Int.toNat_of_nonneg b1.1, Int.toNat_of_nonneg b2.1, Int.toNat_of_nonneg b3.1, Int.toNat_of_nonneg b5.1]
  · show z1.toNat ≤ 255; omega
  · show z2.toNat ≤ 255; omega
  · show z3.toNat ≤ 255; omega
  · show z5.toNat < 18446744073709551616; omega

/-- What one entry is, where it lies. -/
def EOk (W : World) (e : Ent) (f : Nat → Nat) : Prop := e.key.size ≤ maxLen ∧ e.vn ≤ 9223372036854775807 ∧ (e.hi ≤ 255 ∧ e.lo ≤ 255 ∧ e.wh ≤ 255 ∧ e.ver < 18446744073709551616) ∧ Reads W e.va e.vn (fun j => .int .u8 (f j : Nat))

set_option maxRecDepth 100000 in
/-- The entries, read. -/
theorem in_entries {H : Type} {enc : TypeId × Value → H} {W : World} {a : Option Addr} {len cap : Nat} {x : DataW H × List MemPlace} {held : Bool} (h : ∃ fuel, DataW.trod enc Yba.prog W 0 (fun _ => true) held fuel 65 (Value.slice a len cap).cells.toList = some x) :
    len ≤ maxLen ∧ ∃ (en : Nat → Ent) (vb : Nat → Nat → Nat), ERead len en W a ∧ ∀ i, i < len → EOk W (en i) (vb i) := by
  have inh : Inhabited (Ent × (Nat → Nat)) := ⟨⟨⟨ByteArray.empty, 0, 0, 0, none, 0, 0, 0⟩, fun _ => 0⟩⟩
  obtain ⟨fuel, hf⟩ := h
  rcases Deep.open_slice Yba.underlying65 hf with ⟨hcs, _⟩ | ⟨x, l, c, m, n, D, Pl, hcs, _, hl, hm, hmv, _, hel⟩
  · simp [Value.cells] at hcs
    obtain ⟨rfl, rfl, rfl⟩ := hcs
    exact ⟨by unfold maxLen; omega, fun _ => ⟨ByteArray.empty, 0, 0, 0, none, 0, 0, 0⟩, fun _ _ => 0, fun i hi => by omega, fun i hi => by omega⟩
  · simp [Value.cells] at hcs
    obtain ⟨rfl, rfl, rfl⟩ := hcs
    have hmc : len ≤ m := by rw [hmv]; split <;> omega
    have hsp : 0 < len → x.spot = none := fun h0 => by
      obtain ⟨cs', h1, h2⟩ := hel 0 (by omega)
      rw [Nat.zero_mul, cells71] at h1
      obtain ⟨e, f, rfl, _⟩ := in_entry h2
      have c0 := (World.cells?_some h1).2.2 0 (by omega)
      simpa [Addr.add] using World.cell?_spot c0
    have key : ∀ i, i < len → ∃ it : Ent × (Nat → Nat), EOk W it.1 it.2 ∧ ∃ b off, (some x : Option Addr) = some ⟨b, off, none⟩ ∧ b < W.heap.size ∧ W.cell? ⟨b, off + i * 6, none⟩ = some (.string it.1.key) ∧ W.cell? ⟨b, off + i * 6 + 1, none⟩ = some (.int .u8 it.1.hi) ∧ W.cell? ⟨b, off + i * 6 + 2, none⟩ = some (.int .u8 it.1.lo) ∧ W.cell? ⟨b, off + i * 6 + 3, none⟩ = some (.int .u8 it.1.wh) ∧ W.cell? ⟨b, off + i * 6 + 4, none⟩ = some (.slice it.1.va it.1.vn it.1.vc) ∧ W.cell? ⟨b, off + i * 6 + 5, none⟩ = some (.int .u64 it.1.ver) := by
      intro i hi
      obtain ⟨cs', h1, h2⟩ := hel i (by omega)
      rw [cells71] at h1
      obtain ⟨e, f, rfl, q1, q2, q3, q4⟩ := in_entry h2
      have hc := World.cells?_some h1
      obtain ⟨b, off, spot⟩ := x
      have c0 := hc.2.2 0 (by omega)
      have c1 := hc.2.2 1 (by omega)
      have c2 := hc.2.2 2 (by omega)
      have c3 := hc.2.2 3 (by omega)
      have c4 := hc.2.2 4 (by omega)
      have c5 := hc.2.2 5 (by omega)
      have hspot : spot = none := hsp (by omega)
      rw [Deep.add_add] at c0 c1 c2 c3 c4 c5
      subst hspot
      rw [add_plain] at c0 c1 c2 c3 c4 c5
      refine ⟨⟨e, f⟩, ⟨q1, q2, q3, q4⟩, b, off, rfl, lt_of_cell c0, ?_, ?_, ?_, ?_, ?_, ?_⟩
      · simpa using c0
      · simpa [Nat.add_assoc] using c1
      · simpa [Nat.add_assoc] using c2
      · simpa [Nat.add_assoc] using c3
      · simpa [Nat.add_assoc] using c4
      · simpa [Nat.add_assoc] using c5
    obtain ⟨f, hf2⟩ := Deep.choose_lt key
    exact ⟨by omega, fun i => (f i).1, fun i => (f i).2, fun i hi => (hf2 i hi).2, fun i hi => (hf2 i hi).1⟩

set_option maxRecDepth 100000 in
set_option maxHeartbeats 400000 in
theorem lawB_big (a : Option Addr) (N cap sh sl eh el sp st : Nat) (s : ByteArray) (w : World) (hN : 65536 < N) (hm : N ≤ maxLen) (b1 : sh ≤ 255) (b2 : sl ≤ 255) (b3 : eh ≤ 255) (b4 : el ≤ 255) (b5 : sp ≤ 255) (b6 : st ≤ 255) :
    Calls Yba.prog 4 #[.slice a N cap, .int .u8 sh, .int .u8 sl, .int .u8 eh, .int .u8 el, .string s, .int .u8 sp, .int .u8 st] w fun e w' => e = .returned (.bool true) ∧ Below w.heap.size w w' := by
  have hgt : decide ((65536 : Int) < (N : Int)) = true := decide_eq_true (by omega)
  go_enter Yba.func4, Yba.ntmps4
  go_wp2
  go_ret
  exact ⟨rfl, (Below.refl _ w).alloc (Nat.le_refl _) _⟩

theorem lawB_any (en : Nat → Ent) (vb : Nat → Nat → Nat) (a : Option Addr) (N cap sh sl eh el sp st : Nat) (s : ByteArray) (w : World) (hm : N ≤ maxLen) (hread : ERead N en w a) (hok : ∀ i, i < N → EOk w (en i) (vb i)) (b1 : sh ≤ 255) (b2 : sl ≤ 255) (b3 : eh ≤ 255) (b4 : el ≤ 255) (b5 : sp ≤ 255) (b6 : st ≤ 255) :
    Calls Yba.prog 4 #[.slice a N cap, .int .u8 sh, .int .u8 sl, .int .u8 eh, .int .u8 el, .string s, .int .u8 sp, .int .u8 st] w fun e w' => e = .returned (.bool true) ∧ Below w.heap.size w w' := by
  by_cases hN : 65536 < N
  · exact lawB_big a N cap sh sl eh el sp st s w hN hm b1 b2 b3 b4 b5 b6
  · exact lawB_main N cap a en vb sh sl eh el sp st s w (by omega) hread (fun i hi => (hok i hi).2.2.2) (fun i hi => (hok i hi).2.1) (fun i hi => (hok i hi).1) (fun i hi => (hok i hi).2.2.1) b1 b2 b3 b4 b5 b6

set_option maxRecDepth 100000 in
theorem liftedB (os : Os) (started : os.Started) (H : Type) (enc : TypeId × Value → H) :
    ReturnsInHanded {} Yba.checked os 4 .any (Rows.lawS6529BWholeSpec.pre6 enc Yba.prog Yba.f4 Rows.lawS6529BWholeRow.domain false) (Rows.lawS6529BWholeSpec.post enc Yba.prog Yba.f4 false true false false) := by
  refine returnsInHanded_of_change (C := Yba.checked) ownB started (by kernel_rfl) Yba.func4
    (ChangeSpec.witness6 (enc := enc) (C := Yba.checked) false ⟨#[], #[.slice none 0 0, .int .u8 0, .int .u8 0, .int .u8 0, .int .u8 0, .string ByteArray.empty, .int .u8 0, .int .u8 0], []⟩ 8 (by kernel_rfl) (by kernel_rfl) (by kernel_rfl) (by kernel_rfl)) ?_
  intro W base args ds gs before hval0 hW hcnd _
  have hval : ∀ (j : Nat) t v, Yba.f4.params[j]? = some t → args[j]? = some v → Value.okWide Yba.prog W .any base t v := hval0
  have hW' := hW
  obtain ⟨p, q, hA0, hV, rfl, hfz, hnd⟩ := hW
  have hA : DataW.TrodAll enc Yba.prog W 0 (fun _ => true) true Yba.f4.params.toList args.toList ds p := hA0
  rw [Yba.params4] at hA hval
  obtain ⟨v0, vs0, d0, ds0, p0, q0, hargs, rfl, rfl, h0, r0⟩ := trodAll_cons hA
  obtain ⟨v1, vs1, d1, ds1, p1, q1, rfl, rfl, rfl, h1, r1⟩ := trodAll_cons r0
  obtain ⟨v2, vs2, d2, ds2, p2, q2, rfl, rfl, rfl, h2, r2⟩ := trodAll_cons r1
  obtain ⟨v3, vs3, d3, ds3, p3, q3, rfl, rfl, rfl, h3, r3⟩ := trodAll_cons r2
  obtain ⟨v4, vs4, d4, ds4, p4, q4, rfl, rfl, rfl, h4, r4⟩ := trodAll_cons r3
  obtain ⟨v5, vs5, d5, ds5, p5, q5, rfl, rfl, rfl, h5, r5⟩ := trodAll_cons r4
  obtain ⟨v6, vs6, d6, ds6, p6, q6, rfl, rfl, rfl, h6, r6⟩ := trodAll_cons r5
  obtain ⟨v7, vs7, d7, ds7, p7, q7, rfl, rfl, rfl, h7, r7⟩ := trodAll_cons r6
  obtain ⟨rfl, rfl, rfl⟩ := trodAll_nil r7
  obtain rfl : args = #[v0, v1, v2, v3, v4, v5, v6, v7] := by cases args; simp_all
  obtain ⟨rfl, rfl⟩ := trodVars_none hV
  obtain ⟨a0, n0, c0, rfl⟩ := okWide_slice Yba.underlying65 (hval 0 65 v0 rfl rfl)
  obtain ⟨y1, rfl, rfl, rfl, w1⟩ := open_int Yba.underlying5 (hval 1 5 v1 rfl rfl) h1
  obtain ⟨y2, rfl, rfl, rfl, w2⟩ := open_int Yba.underlying5 (hval 2 5 v2 rfl rfl) h2
  obtain ⟨y3, rfl, rfl, rfl, w3⟩ := open_int Yba.underlying5 (hval 3 5 v3 rfl rfl) h3
  obtain ⟨y4, rfl, rfl, rfl, w4⟩ := open_int Yba.underlying5 (hval 4 5 v4 rfl rfl) h4
  obtain ⟨y5, rfl, rfl, rfl, w5⟩ := open_string Yba.underlying9 (hval 5 9 v5 rfl rfl) h5
  obtain ⟨y6, rfl, rfl, rfl, w6⟩ := open_int Yba.underlying5 (hval 6 5 v6 rfl rfl) h6
  obtain ⟨y7, rfl, rfl, rfl, w7⟩ := open_int Yba.underlying5 (hval 7 5 v7 rfl rfl) h7
  clear hA0 hval0
  have k0 := h0
  have lt0 : ∀ x ∈ p0, x.block < W.heap.size := by obtain ⟨m, hm⟩ := k0; exact DataW.trod_lt m _ _ _ hm
  obtain ⟨hm, en, vb, hread, hok⟩ := in_entries h0
  obtain ⟨z1, e1, b1⟩ := nat_ofB (u8_wfB w1)
  obtain ⟨z2, e2, b2⟩ := nat_ofB (u8_wfB w2)
  obtain ⟨z3, e3, b3⟩ := nat_ofB (u8_wfB w3)
  obtain ⟨z4, e4, b4⟩ := nat_ofB (u8_wfB w4)
  obtain ⟨z6, e6, b6⟩ := nat_ofB (u8_wfB w6)
  obtain ⟨z7, e7, b7⟩ := nat_ofB (u8_wfB w7)
  subst e1 e2 e3 e4 e6 e7
  refine (lawB_any en vb a0 n0 c0 z1 z2 z3 z4 z6 z7 y5 W hm hread hok b1 b2 b3 b4 b6 b7).mono fun e W' ⟨he, bel⟩ => ?_
  subst he
  exact ⟨_, rfl, _, _, _, [], _, [], hW', trodAll_mk1 (shut_bool Yba.underlying4 _), (trodAll_cons_mk (Below.trod laidOutB' (by kernel_rfl) (of_decide_eq_true (by kernel_rfl)) k0 bel lt0) (trodAll_cons_mk (shut_int Yba.underlying5 w1) (trodAll_cons_mk (shut_int Yba.underlying5 w2) (trodAll_cons_mk (shut_int Yba.underlying5 w3) (trodAll_cons_mk (shut_int Yba.underlying5 w4) (trodAll_cons_mk (shut_string Yba.underlying9 w5) (trodAll_cons_mk (shut_int Yba.underlying5 w6) (trodAll_cons_mk (shut_int Yba.underlying5 w7) trodAll_mk0)))))))), rfl, bel.frame _, fun h => by cases h⟩

theorem lawB_proved : Rows.LawS6529BWholeSaid :=
  OpenClaim.holds_of_wide 4 Yba.f4 rfl rfl rfl rfl rfl rfl rfl ⟨rfl, rfl, rfl, rfl, rfl⟩ rfl rfl rfl rfl rfl (by kernel_rfl) Yba.func4 (by kernel_rfl)
    (of_decide_eq_true (by kernel_rfl)) (by unfold Func.isWrapper; first | (rw [if_pos (by decide +kernel)]; kernel_rfl) | (rw [if_neg (by decide +kernel)]; exact ⟨rfl, rfl⟩))
    (fun os started H enc _ => liftedB os started H enc)

end Go.Proofs.Ybulkeeeq
