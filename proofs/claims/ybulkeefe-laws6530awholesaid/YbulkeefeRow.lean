import Derived.Test.YbulkeefeRows
import Derived.Test.YbulkeefeLaw
import Derived.ProofKit
import Derived.OpenShut
import Derived.ShutString
import Derived.ChangeOld
import Derived.SliceStrings
import Derived.SizedLaws
namespace Go.Proofs.Ybulkeefe
open Go.ChangeShapes Go.WideShapes Go.ChangeAt Go.RowKit
set_option linter.unusedVariables false

theorem own : ownKnob Yba.prog.godebug = none := by kernel_rfl
theorem laidOut : laidOutB Yba.prog = true := by kernel_rfl
theorem bytes9 : Yba.prog.bytesOf 9 = 16 := by kernel_rfl
theorem bytes5 : Yba.prog.bytesOf 5 = 1 := by kernel_rfl
theorem cells25 : Yba.prog.cellsOf 25 = 11 := by kernel_rfl

theorem array11 {cs : Array Value} (h : cs.size = 11) : ∃ c0 c1 c2 c3 c4 c5 c6 c7 c8 c9 c10, cs = #[c0, c1, c2, c3, c4, c5, c6, c7, c8, c9, c10] := by
  obtain ⟨l⟩ := cs
  match l, h with
  | [c0, c1, c2, c3, c4, c5, c6, c7, c8, c9, c10], _ => exact ⟨c0, c1, c2, c3, c4, c5, c6, c7, c8, c9, c10, rfl⟩

/-- A field's slice of strings, as the walks ask it. -/
theorem field_strs {H : Type} {enc : TypeId × Value → H} {W : World} {n : Nat} {c : Value} {y : DataW H × List MemPlace} (h : DataW.trod enc Yba.prog W 0 (fun _ => true) true n 22 [c] = some y) (hz : ∀ n ∈ y.1.weights Yba.prog 22, n ≤ reachBytes) :
    ∃ (a : Option Addr) (len cap : Nat) (nm : Nat → ByteArray), c = .slice a len cap ∧ len ≤ 17592186044416 ∧ (a = none → len = 0 ∧ cap = 0) ∧ Reads W a len (fun i => .string (nm i)) := by
  rcases open_strings Yba.underlying22 Yba.underlying9 (by kernel_rfl) h with ⟨hcs, _⟩ | ⟨x, l, k, zs, hcs, _, hl, hm, hzz, hx, hcell, hwz⟩
  · simp at hcs
    exact ⟨none, 0, 0, fun _ => ByteArray.empty, hcs, by omega, fun _ => ⟨rfl, rfl⟩, fun i hi => absurd hi (by omega)⟩
  · simp at hcs
    have hz' : zs.length = k := by simpa using hzz
    subst hx
    have h2 := hz ((strs (H := H) (zs.take l)).length + (strs (H := H) (zs.drop l)).length |>.mul (Yba.prog.bytesOf 9)) (by simp [DataW.weights, Yba.underlying22])
    have h3 : ((strs (H := H) (zs.take l)).length + (strs (H := H) (zs.drop l)).length) * Yba.prog.bytesOf 9 ≤ reachBytes := h2
    rw [bytes9] at h3
    simp only [strs, List.length_map, List.length_take, List.length_drop, reachBytes] at h3
    exact ⟨some x, l, k, fun i => zs.getD i ByteArray.empty, hcs, by omega, fun h => by simp at h, reads_in (n := zs.length) (by omega) hcell⟩

/-- A field's slice of bytes. -/
theorem field_bytes {H : Type} {enc : TypeId × Value → H} {W : World} {n : Nat} {c : Value} {y : DataW H × List MemPlace} (h : DataW.trod enc Yba.prog W 0 (fun _ => true) true n 23 [c] = some y) (hz : ∀ n ∈ y.1.weights Yba.prog 23, n ≤ reachBytes) :
    ∃ (a : Option Addr) (len cap : Nat) (bt : Nat → UInt8), c = .slice a len cap ∧ len ≤ 140737488355328 ∧ (a = none → len = 0 ∧ cap = 0) ∧ Reads W a len (fun i => .int .u8 (((bt : Nat → UInt8) i).toNat : Int)) := by
  rcases open_ints Yba.underlying23 Yba.underlying5 (by kernel_rfl) h with ⟨hcs, _⟩ | ⟨x, l, k, zs, hcs, _, hl, hm, hzz, hx, hcell, hwz⟩
  · simp at hcs
    exact ⟨none, 0, 0, fun _ => 0, hcs, by omega, fun _ => ⟨rfl, rfl⟩, fun i hi => absurd hi (by omega)⟩
  · simp at hcs
    have hz' : zs.length = k := by simpa using hzz
    subst hx
    have h2 := hz ((lits (H := H) .u8 (zs.take l)).length + (lits (H := H) .u8 (zs.drop l)).length |>.mul (Yba.prog.bytesOf 5)) (by simp [DataW.weights, Yba.underlying23])
    have h3 : ((lits (H := H) .u8 (zs.take l)).length + (lits (H := H) .u8 (zs.drop l)).length) * Yba.prog.bytesOf 5 ≤ reachBytes := h2
    rw [bytes5] at h3
    simp only [lits, List.length_map, List.length_take, List.length_drop, reachBytes] at h3
    refine ⟨some x, l, k, fun i => UInt8.ofNat (zs.getD i 0).toNat, hcs, by omega, fun h => by simp at h, reads_in (n := zs.length) (by omega) (fun i hi => ?_)⟩
    rw [hcell i hi]
    have hb : 0 ≤ zs.getD i 0 ∧ zs.getD i 0 ≤ 255 := by
      have := hwz (zs.getD i 0) (by simp [hi])
      have e1 : IntKind.u8.min = 0 := rfl
      have e2 : IntKind.u8.max = 255 := rfl
      simpa [Lit.wf, e1, e2] using this
    congr 2
    simp only [UInt8.toNat_ofNat']
    omega

set_option maxRecDepth 100000 in
set_option maxHeartbeats 400000 in
theorem law_big (x : In) (kind : Int) (hv hd : Bool) (w : World) (hsz : 1048576 < x.nm + x.ng + x.np) (h1 : x.nm ≤ 17592186044416) (h2 : x.ng ≤ 17592186044416) (h3 : x.np ≤ 140737488355328) :
    Calls Yba.prog 3 #[.agg #[.int .u8 kind, .bool hv, .bool hd, .string x.vgroup, .string x.vid, .slice x.am x.nm x.cm, .slice x.ag x.ng x.cg, .string x.mgroup, .string x.sender, .slice x.ap x.np x.cp, .string x.name]] w fun e w' => e = .returned (.bool true) ∧ Below w.heap.size w w' := by
  obtain ⟨am, nm, cm, ag, ng, cg, ap, np, cp, vgroup, vid, mgroup, sender, name⟩ := x
  dsimp only at *
  go_enter Yba.func3, Yba.ntmps3
  go_wp2
  go_ret
  exact ⟨rfl, (Below.refl _ w).alloc (Nat.le_refl _) _⟩

set_option maxRecDepth 100000 in
theorem lifted (os : Os) (started : os.Started) (H : Type) (enc : TypeId × Value → H) :
    ReturnsInHanded {} Yba.checked os 3 .any (Rows.lawS6530AWholeSpec.pre6 enc Yba.prog Yba.f3 Rows.lawS6530AWholeRow.domain false) (Rows.lawS6530AWholeSpec.post enc Yba.prog Yba.f3 false true false false) := by
  refine returnsInHanded_of_change_sized (C := Yba.checked) own started (by kernel_rfl) Yba.func3
    (ChangeSpec.witness6 (enc := enc) (C := Yba.checked) false ⟨#[], #[.agg #[.int .u8 0, .bool false, .bool false, .string ⟨#[]⟩, .string ⟨#[]⟩, .slice none 0 0, .slice none 0 0, .string ⟨#[]⟩, .string ⟨#[]⟩, .slice none 0 0, .string ⟨#[]⟩]], []⟩ 8 (by kernel_rfl) (by kernel_rfl) (by kernel_rfl) (by kernel_rfl)) ?_
  intro W base args ds gs before hval0 hW hcnd hsz0 _
  have hsz : (DataW.weightsEach Yba.prog (Yba.f3.params.toList ++ Rows.lawS6530AWholeSpec.plain.varTypes Yba.prog) (ds ++ gs)).all (· ≤ reachBytes) = true := hsz0
  clear hsz0
  have hval : ∀ (j : Nat) t v, Yba.f3.params[j]? = some t → args[j]? = some v → Value.okWide Yba.prog W .any base t v := hval0
  have hW' := hW
  obtain ⟨p, q, hA0, hV, rfl, hfz, hnd⟩ := hW
  have hA : DataW.TrodAll enc Yba.prog W 0 (fun _ => true) true Yba.f3.params.toList args.toList ds p := hA0
  rw [Yba.params3] at hA hval hsz
  obtain ⟨v0, vs0, d0, ds0, p0, q0, hargs, rfl, rfl, h0, r0⟩ := trodAll_cons hA
  obtain ⟨rfl, rfl, rfl⟩ := trodAll_nil r0
  obtain rfl : args = #[v0] := by cases args; simp_all
  obtain ⟨rfl, rfl⟩ := trodVars_none hV
  have k0 := h0
  have lt0 : ∀ x ∈ p0, x.block < W.heap.size := by obtain ⟨m, hm⟩ := k0; exact DataW.trod_lt m _ _ _ hm
  obtain ⟨cs, rfl, hcsz⟩ := okWide_struct Yba.underlying25 (hval 0 25 v0 rfl rfl)
  obtain ⟨c0, c1, c2, c3, c4, c5, c6, c7, c8, c9, c10, rfl⟩ := array11 (hcsz.trans cells25)
  obtain ⟨fuel, hf⟩ := h0
  obtain ⟨xs, n, _, hx, _, hlen, hfs⟩ := DataW.trod_struct Yba.underlying25 hf
  simp only [Prod.mk.injEq] at hx
  obtain ⟨rfl, _⟩ := hx
  obtain ⟨y0, y1, y2, y3, y4, y5, y6, y7, y8, y9, y10, rfl⟩ : ∃ y0 y1 y2 y3 y4 y5 y6 y7 y8 y9 y10, xs = [y0, y1, y2, y3, y4, y5, y6, y7, y8, y9, y10] := by
    match xs, hlen with
    | [y0, y1, y2, y3, y4, y5, y6, y7, y8, y9, y10], _ => exact ⟨y0, y1, y2, y3, y4, y5, y6, y7, y8, y9, y10, rfl⟩
  have hw : ∀ (j : Nat) (t : TypeId) (d : DataW H), ([5, 4, 4, 9, 9, 22, 22, 9, 9, 23, 9] : List TypeId)[j]? = some t → ([y0.1, y1.1, y2.1, y3.1, y4.1, y5.1, y6.1, y7.1, y8.1, y9.1, y10.1] : List (DataW H))[j]? = some d → ∀ n ∈ d.weights Yba.prog t, n ≤ reachBytes := by
    intro j t d ht hd m hm
    have h1 := DataW.weights_mem_each (P := Yba.prog) ht hd m hm
    have h2 : m ∈ (DataW.agg [y0.1, y1.1, y2.1, y3.1, y4.1, y5.1, y6.1, y7.1, y8.1, y9.1, y10.1]).weights Yba.prog 25 := by
      simp only [DataW.weights, Yba.underlying25]
      exact h1
    have h3 := DataW.weights_mem_each (P := Yba.prog) (ts := [25]) (ds := [DataW.agg [y0.1, y1.1, y2.1, y3.1, y4.1, y5.1, y6.1, y7.1, y8.1, y9.1, y10.1]]) (j := 0) rfl rfl m h2
    have h4 := List.all_eq_true.1 hsz m h3
    simpa using h4
  have g0 : DataW.trod enc Yba.prog W 0 (fun _ => true) true n 5 [c0] = some y0 := by
    have := hfs 0 _ rfl
    simpa [Value.cells, show Yba.prog.cellsOf 5 = 1 by kernel_rfl] using this
  have g1 : DataW.trod enc Yba.prog W 0 (fun _ => true) true n 4 [c1] = some y1 := by
    have := hfs 1 _ rfl
    simpa [Value.cells, show Yba.prog.cellsOf 4 = 1 by kernel_rfl] using this
  have g2 : DataW.trod enc Yba.prog W 0 (fun _ => true) true n 4 [c2] = some y2 := by
    have := hfs 2 _ rfl
    simpa [Value.cells, show Yba.prog.cellsOf 4 = 1 by kernel_rfl] using this
  have g3 : DataW.trod enc Yba.prog W 0 (fun _ => true) true n 9 [c3] = some y3 := by
    have := hfs 3 _ rfl
    simpa [Value.cells, show Yba.prog.cellsOf 9 = 1 by kernel_rfl] using this
  have g4 : DataW.trod enc Yba.prog W 0 (fun _ => true) true n 9 [c4] = some y4 := by
    have := hfs 4 _ rfl
    simpa [Value.cells, show Yba.prog.cellsOf 9 = 1 by kernel_rfl] using this
  have g5 : DataW.trod enc Yba.prog W 0 (fun _ => true) true n 22 [c5] = some y5 := by
    have := hfs 5 _ rfl
    simpa [Value.cells, show Yba.prog.cellsOf 22 = 1 by kernel_rfl] using this
  have g6 : DataW.trod enc Yba.prog W 0 (fun _ => true) true n 22 [c6] = some y6 := by
    have := hfs 6 _ rfl
    simpa [Value.cells, show Yba.prog.cellsOf 22 = 1 by kernel_rfl] using this
  have g7 : DataW.trod enc Yba.prog W 0 (fun _ => true) true n 9 [c7] = some y7 := by
    have := hfs 7 _ rfl
    simpa [Value.cells, show Yba.prog.cellsOf 9 = 1 by kernel_rfl] using this
  have g8 : DataW.trod enc Yba.prog W 0 (fun _ => true) true n 9 [c8] = some y8 := by
    have := hfs 8 _ rfl
    simpa [Value.cells, show Yba.prog.cellsOf 9 = 1 by kernel_rfl] using this
  have g9 : DataW.trod enc Yba.prog W 0 (fun _ => true) true n 23 [c9] = some y9 := by
    have := hfs 9 _ rfl
    simpa [Value.cells, show Yba.prog.cellsOf 23 = 1 by kernel_rfl] using this
  have g10 : DataW.trod enc Yba.prog W 0 (fun _ => true) true n 9 [c10] = some y10 := by
    have := hfs 10 _ rfl
    simpa [Value.cells, show Yba.prog.cellsOf 9 = 1 by kernel_rfl] using this
  obtain ⟨kind, e0, -, w0⟩ := DataW.trod_int Yba.underlying5 g0
  obtain ⟨hv, e1, -⟩ := DataW.trod_bool Yba.underlying4 g1
  obtain ⟨hd, e2, -⟩ := DataW.trod_bool Yba.underlying4 g2
  obtain ⟨s3, e3, -, -⟩ := DataW.trod_string Yba.underlying9 g3
  obtain ⟨s4, e4, -, -⟩ := DataW.trod_string Yba.underlying9 g4
  obtain ⟨am, nm, cm, fm, e5, bm, zm, rm⟩ := field_strs g5 (hw 5 22 _ rfl rfl)
  obtain ⟨ag, ng, cg, fg, e6, bg, zg, rg⟩ := field_strs g6 (hw 6 22 _ rfl rfl)
  obtain ⟨s7, e7, -, -⟩ := DataW.trod_string Yba.underlying9 g7
  obtain ⟨s8, e8, -, -⟩ := DataW.trod_string Yba.underlying9 g8
  obtain ⟨ap, np, cp, bt, e9, bp, zp, rp⟩ := field_bytes g9 (hw 9 23 _ rfl rfl)
  obtain ⟨s10, e10, -, -⟩ := DataW.trod_string Yba.underlying9 g10
  simp only [List.cons.injEq, and_true] at e0 e1 e2 e3 e4 e7 e8 e10
  subst e0 e1 e2 e3 e4 e5 e6 e7 e8 e9 e10
  clear hA0 hval0
  have hkb : 0 ≤ kind ∧ kind ≤ 255 := by
    have e1 : IntKind.u8.min = 0 := rfl
    have e2 : IntKind.u8.max = 255 := rfl
    simpa [Lit.wf, e1, e2] using w0
  have fin : Calls Yba.prog 3 #[.agg #[.int .u8 kind, .bool hv, .bool hd, .string s3, .string s4, .slice am nm cm, .slice ag ng cg, .string s7, .string s8, .slice ap np cp, .string s10]] W fun e w' => e = .returned (.bool true) ∧ Below W.heap.size W w' := by
    by_cases hb : 1048576 < nm + ng + np
    · exact law_big ⟨am, nm, cm, ag, ng, cg, ap, np, cp, s3, s4, s7, s8, s10⟩ kind hv hd W hb bm bg bp
    · exact law_walk ⟨am, nm, cm, ag, ng, cg, ap, np, cp, s3, s4, s7, s8, s10⟩ kind hv hd fm fg bt W hkb.1 hkb.2 (by dsimp only; omega) rm rg rp zm zg zp
  refine fin.mono fun e W' ⟨he, bel⟩ => ?_
  subst he
  exact ⟨_, rfl, _, _, _, [], _, [], hW', trodAll_mk1 (shut_bool Yba.underlying4 _), (trodAll_cons_mk (Below.trod laidOut (by kernel_rfl) (of_decide_eq_true (by kernel_rfl)) k0 bel lt0) trodAll_mk0), rfl, bel.frame _, fun h => by cases h⟩

theorem lawA_proved : Rows.LawS6530AWholeSaid :=
  OpenClaim.holds_of_wide 3 Yba.f3 rfl rfl rfl rfl rfl rfl rfl ⟨rfl, rfl, rfl, rfl, rfl⟩ rfl rfl rfl rfl rfl (by kernel_rfl) Yba.func3 (by kernel_rfl)
    (of_decide_eq_true (by kernel_rfl)) (by unfold Func.isWrapper; first | (rw [if_pos (by decide +kernel)]; kernel_rfl) | (rw [if_neg (by decide +kernel)]; exact ⟨rfl, rfl⟩))
    (fun os started H enc _ => lifted os started H enc)

end Go.Proofs.Ybulkeefe
