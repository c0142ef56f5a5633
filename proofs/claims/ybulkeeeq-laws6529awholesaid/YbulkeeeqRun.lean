import Derived.Test.YbulkeeeqIter
import Derived.Test.YbulkeeeqClo
import Derived.Test.YbulkeeeqWhap
import Derived.Handy
namespace Go.Proofs.Ybulkeeeq
open Go.RowKit
set_option linter.unusedVariables false

/-- What stands in one of the clock's rounds. -/
def Rnd (X : Cx) (s0 : St) (idl : Value) (w0 : World) (Y0 : Hp) (w : World) (i : Nat) (Y : Hp) : Prop :=
  Goes s0 i ∧ Sim X w Y idl (it s0 i).now (it s0 i).seq (it s0 i).nid i (logs s0 i) (bagOf (it s0 i)) ∧ Kept X Y0 Y w0 w

theorem bound_bag {s0 : St} {i : Nat} (g : Goes s0 i) (hn : s0.n ≤ 1024) : bagOf (it s0 i) (fun _ => true) ≤ 1000000 := by
  unfold bagOf; rw [cnt_all]; have := g.nn; omega

/-- None is left. -/
theorem rnd_none {X : Cx} (hX : X.Ok) {s0 : St} {idl : Value} {w0 w : World} {Y0 Y : Hp} {i : Nat} (hn0 : s0.n ≤ 1024) (h : Rnd X s0 idl w0 Y0 w i Y) (hn : (it s0 i).n = 0) :
    Calls Yba.prog 20 #[.pointer (some ⟨X.c, 0, none⟩)] w fun ex w' => ex = .returned (.tuple #[.agg #[.int .i64 0, .int .u64 0, .nilIface], .bool false]) ∧ Y.n = 0 ∧ Hid (∀ j, j < X.nl → Y.m j = 0) ∧ Below w.heap.size w w' := by
  obtain ⟨g, S, k⟩ := h
  refine (sim_next hX S (bound_bag g hn0)).mono ?_
  rintro ex w' (⟨rfl, h1, h2, h3, h4⟩ | ⟨e, o, Y', bag', rfl, h1, h2, _⟩)
  · exact ⟨rfl, h2, h3, h4⟩
  · have := (took g.uniq h1 h2).1; omega

/-- The least is taken. -/
theorem rnd_some {X : Cx} (hX : X.Ok) {s0 : St} {idl : Value} {w0 w : World} {Y0 Y : Hp} {i : Nat} (hn0 : s0.n ≤ 1024) (h : Rnd X s0 idl w0 Y0 w i Y) (hn : 0 < (it s0 i).n) :
    Calls Yba.prog 20 #[.pointer (some ⟨X.c, 0, none⟩)] w fun ex w' => ∃ o, ex = .returned (.tuple #[.agg #[.int .i64 (outE (it s0 i)).t, .int .u64 (outE (it s0 i)).seq, .iface 46 (.pointer (some ⟨o, 0, none⟩))], .bool true]) ∧
      Hid (∃ Y' bag', Sim X w' Y' idl (it s0 i).now (it s0 i).seq (it s0 i).nid i (logs s0 i) bag' ∧ (∀ p, bag' p + (if p (outE (it s0 i)) then 1 else 0) = bagOf (it s0 i) p) ∧ Kept X Y0 Y' w0 w' ∧
        Blk w' o 48 #[.pointer (some ⟨X.st, 0, none⟩), .int .i64 (outE (it s0 i)).id, .bool (outE (it s0 i)).child, .int .u8 (outE (it s0 i)).d]) := by
  obtain ⟨g, S, k⟩ := h
  refine (sim_next hX S (bound_bag g hn0)).mono ?_
  rintro ex w' (⟨rfl, h1, h2, h3, h4⟩ | ⟨e, o, Y', bag', rfl, h1, h2, h3, h4, h5, h6⟩)
  · exact absurd (inB_iff.2 ⟨0, hn, rfl⟩) (h1 _)
  · obtain ⟨_, rfl⟩ := took g.uniq h1 h2
    exact ⟨o, rfl, Y', bag', h3, h4, k.trans h5, h6⟩

/-- It happens. -/
theorem rnd_happen {X : Cx} (hX : X.Ok) {s0 : St} {idl : Value} {w0 w2 w3 : World} {Y0 Y' : Hp} {i o : Nat} {bag' : (Ev → Bool) → Nat} (hn0 : s0.n ≤ 1024) (hs0 : s0.seq ≤ 1024) (hi0 : s0.nid ≤ 1024) (g : Goes s0 i) (hn : 0 < (it s0 i).n)
    (S : Sim X w2 Y' idl (it s0 i).now (it s0 i).seq (it s0 i).nid i (logs s0 i) bag') (hbag : ∀ p, bag' p + (if p (outE (it s0 i)) then 1 else 0) = bagOf (it s0 i) p) (k : Kept X Y0 Y' w0 w2)
    (ho : Blk w2 o 48 #[.pointer (some ⟨X.st, 0, none⟩), .int .i64 (outE (it s0 i)).id, .bool (outE (it s0 i)).child, .int .u8 (outE (it s0 i)).d]) (hb : Below w2.heap.size w2 w3) :
    Calls Yba.prog 90 #[.pointer (some ⟨o, 0, none⟩)] (w3.setCell ⟨X.c, 0, none⟩ (.int .i64 (outE (it s0 i)).t)) fun ex w' => ex = .returned (.tuple #[]) ∧ Hid (∃ Y, Rnd X s0 idl w0 Y0 w' (i + 1) Y) := by
  have S3 := S.below hb
  have hfr : Fr X.c none w3.heap.size w3 (w3.setCell ⟨X.c, 0, none⟩ (.int .i64 (outE (it s0 i)).t)) := (Fr.of_below (Below.refl _ w3)).setCell X.c 0 _ (Or.inl rfl)
  obtain ⟨S4, k4⟩ := S3.clocked (now' := (outE (it s0 i)).t) (idl' := idl) (Nat.le_refl _) hfr (S3.hc.set 0 _)
  have ho3 := ho.below hb ho.lt
  have ho4 := ho3.setOther ⟨X.c, 0, none⟩ (.int .i64 (outE (it s0 i)).t) (ho3.ne S3.hc (by decide))
  have hkid := g.kids
  have hnid := g.nid
  have hleft := g.left
  have hc1 := cnt_le (p := fun e => e.child) (h := s0.f) (n := s0.n)
  have hl0 : leftN s0 ≤ 2048 := by unfold leftN; omega
  have hbb : bag' (fun _ => true) ≤ 1000000 := by have := hbag (fun _ => true); have := bound_bag g hn0; omega
  have hd := g.dd _ (least_lt hn)
  refine (happen_calls hX S4 hbb (by omega) (by omega) (by omega) o _ _ _ hd ho4).mono ?_
  rintro ex w' ⟨rfl, h⟩
  refine ⟨rfl, ?_⟩
  have hb2 := bag_next hn hbag
  obtain ⟨e1, e2, e3⟩ := step_of (s := it s0 i)
  have kk := (k.trans (Kept.of_below hb)).trans k4
  cases hc : (outE (it s0 i)).child with
  | true =>
    rw [hc] at h hb2 e2 e3
    simp only [if_true] at h hb2 e2 e3
    obtain ⟨Y, q1, q2⟩ := h
    refine ⟨Y, g.step hn, ?_, kk.trans q2⟩
    show Sim X w' Y idl (stepS (it s0 i)).now (stepS (it s0 i)).seq (stepS (it s0 i)).nid (i + 1) (logs s0 (i + 1)) (bagOf (stepS (it s0 i)))
    rw [e1, e2, e3, ← hb2]
    exact q1
  | false =>
    rw [hc] at h hb2 e2 e3
    simp only [if_false, Bool.false_eq_true] at h hb2 e2 e3
    obtain ⟨Y, q1, q2⟩ := h
    refine ⟨Y, g.step hn, ?_, kk.trans q2⟩
    show Sim X w' Y idl (stepS (it s0 i)).now (stepS (it s0 i)).seq (stepS (it s0 i)).nid (i + 1) (logs s0 (i + 1)) (bagOf (stepS (it s0 i)))
    rw [e1, e2, e3, ← hb2]
    exact q1

theorem lcnt_le {q : Nat → Nat → Ev} {m : Nat → Nat} {j : Nat} : ∀ {i : Nat}, j < i → m j ≤ lcnt (fun _ => true) q m i
  | 0, h => by omega
  | i + 1, h => by
    simp only [lcnt, cnt_all]
    by_cases e : j = i
    · subst e; omega
    · have := lcnt_le (q := q) (m := m) (j := j) (i := i) (by omega); omega
theorem lcnt_zero {q : Nat → Nat → Ev} {m : Nat → Nat} : ∀ {i : Nat}, (∀ j, j < i → m j = 0) → lcnt (fun _ => true) q m i = 0
  | 0, _ => rfl
  | i + 1, h => by
    simp only [lcnt, cnt_all]
    rw [lcnt_zero (fun j hj => h j (by omega)), h i (by omega)]
theorem Sim.same_empty {X : Cx} {w w' : World} {Y Y' : Hp} {idl : Value} {now : Int} {seq nid L L' : Nat} {lg lg' : List Value} {bag : (Ev → Bool) → Nat} (S : Sim X w Y idl now seq nid L lg bag) (S' : Sim X w' Y' idl now seq nid L' lg' bag) (h1 : Y.n = 0) (h2 : ∀ j, j < X.nl → Y.m j = 0) : Y'.n = 0 ∧ ∀ j, j < X.nl → Y'.m j = 0 := by
  have a := S.hbag (fun _ => true)
  have b := S'.hbag (fun _ => true)
  rw [cnt_all, h1, lcnt_zero h2] at a
  rw [cnt_all] at b
  refine ⟨by omega, fun j hj => ?_⟩
  have := lcnt_le (q := Y'.q) (m := Y'.m) hj
  omega

set_option maxHeartbeats 4000000 in
set_option maxRecDepth 100000 in
theorem run_calls {X : Cx} (hX : X.Ok) {w : World} {Y : Hp} (s0 : St) (ib k sv : Nat) (ics : Array Value) (wk ix : Nat → Nat) (hu : Uniq s0) (hd : ∀ j, j < s0.n → (s0.f j).d ≤ 255) (hn0 : s0.n ≤ 1024) (hs0 : s0.seq ≤ 1024) (hi0 : s0.nid ≤ 1024) (hk : k ≤ 255)
    (S : Sim X w Y (.slice (some ⟨ib, 0, none⟩) k k) s0.now s0.seq s0.nid 0 [] (bagOf s0)) (hib : Blk w ib 57 ics) (hics : ∀ i, i < k → ics[i]? = some (.pointer (some ⟨wk i, 0, none⟩)))
    (hwk : ∀ i, i < k → ∃ wcs, Blk w (wk i) 63 wcs ∧ wcs[1]? = some (.func (.func 8) #[] #[.pointer (some ⟨sv, 0, none⟩), .pointer (some ⟨ix i, 0, none⟩)])) (hsv : Blk w sv 34 #[.pointer (some ⟨X.st, 0, none⟩)]) (hix : ∀ i, i < k → Blk w (ix i) 3 #[.int .i64 i]) :
    Calls Yba.prog 9 #[.pointer (some ⟨X.c, 0, none⟩)] w fun ex w' => ex = .returned (.tuple #[]) ∧ ∃ Y', Sim X w' Y' (.slice none 0 0) (it s0 (leftN s0)).now (it s0 (leftN s0)).seq (it s0 (leftN s0)).nid (leftN s0 + k) (logs s0 (leftN s0) ++ stops k) (bagOf (it s0 (leftN s0))) ∧
      Y'.n = 0 ∧ (∀ j, j < X.nl → Y'.m j = 0) ∧ Kept X Y Y' w w' := by
  obtain ⟨T, hT⟩ : ∃ x, x = leftN s0 := ⟨_, rfl⟩
  have hT' : Hid (T = leftN s0) := hT
  have hstart : Hid (Rnd X s0 (.slice (some ⟨ib, 0, none⟩) k k) w Y w 0 Y) := ⟨Goes.start hu hd, S, Kept.of_below (Below.refl _ w)⟩
  have hX' : Hid X.Ok := hX
  obtain ⟨c, hcv⟩ : ∃ x, x = X.c := ⟨_, rfl⟩
  have hcv' : Hid (c = X.c) := hcv
  have hS' : Hid (Sim X w Y (.slice (some ⟨ib, 0, none⟩) k k) s0.now s0.seq s0.nid 0 [] (bagOf s0)) := S
  have hib' : Hid (Blk w ib 57 ics) := hib
  have hics' : Hid (∀ i, i < k → ics[i]? = some (.pointer (some ⟨wk i, 0, none⟩))) := hics
  have hwk' : Hid (∀ i, i < k → ∃ wcs, Blk w (wk i) 63 wcs ∧ wcs[1]? = some (.func (.func 8) #[] #[.pointer (some ⟨sv, 0, none⟩), .pointer (some ⟨ix i, 0, none⟩)])) := hwk
  have hsv' : Hid (Blk w sv 34 #[.pointer (some ⟨X.st, 0, none⟩)]) := hsv
  have hix' : Hid (∀ i, i < k → Blk w (ix i) 3 #[.int .i64 i]) := hix
  rw [← hcv, ← hT]
  clear hX S hib hics hwk hsv hix hcv hu hd hT
  go_enter Yba.func9, Yba.ntmps9
  go_upto_block 0 with fail
  go_cut [2, 3] from 6 to 20 (fun _ _ wc => ∃ Y', Rnd X s0 (.slice (some ⟨ib, 0, none⟩) k k) w Y wc T Y' ∧ Y'.n = 0 ∧ (∀ j, j < X.nl → Y'.m j = 0))
  case first =>
    go_wp2
    go_loopw [2, 3] (fun _ _ wr => ∃ i Y', Rnd X s0 (.slice (some ⟨ib, 0, none⟩) k k) w Y wr i Y') (fun _ _ wr => T - logN X.st wr)
    case atStart => exact ⟨0, Y, hstart.out⟩
    case round =>
      obtain ⟨i, Y1, hR⟩ := hrel
      have hR' : Hid (Rnd X s0 (.slice (some ⟨ib, 0, none⟩) k k) w Y wr i Y1) := hR
      by_cases hn : (it s0 i).n = 0
      · have hc1 := rnd_none hX'.out hn0 hR hn
        rw [← hcv'.out] at hc1
        have hn' : Hid ((it s0 i).n = 0) := hn
        clear hR hn
        go_wp2_with (go_at_call 20; refine hc1.mono ?_; rintro ex w2 ⟨rfl, q1, q2, hb2⟩)
        go_meet
        case rel =>
          obtain ⟨g, S1, k1⟩ := hR'.out
          have hb3 : Below wr.heap.size wr (w2.alloc (Obj.cells #[Value.int IntKind.i64 0, Value.int IntKind.u64 0, Value.nilIface] 54)) := hb2.alloc hb2.size _
          have hiT : i = T := by have h1 := g.left; have h2 := left_zero hn'.out; rw [hT'.out]; omega
          subst hiT
          exact ⟨Y1, ⟨g, S1.below hb3, k1.trans (Kept.of_below hb3)⟩, q1, q2.out⟩
      · have hn2 : 0 < (it s0 i).n := by omega
        have hc1 := rnd_some hX'.out hn0 hR hn2
        rw [← hcv'.out] at hc1
        have hn' : Hid (0 < (it s0 i).n) := hn2
        clear hR hn hn2
        go_upto_region 2 with (go_at_call 20; refine hc1.mono ?_; rintro ex w2 ⟨o, rfl, hpost⟩)
        obtain ⟨Y2, bag2, S2, hbag2, hK2, ho2⟩ := hpost.out
        have hb3 : Below w2.heap.size w2 (w2.alloc (Obj.cells #[.int .i64 (outE (it s0 i)).t, .int .u64 (outE (it s0 i)).seq, .iface 46 (.pointer (some ⟨o, 0, none⟩))] 54)) := (Below.refl _ w2).alloc (Nat.le_refl _) _
        have hE3 := Blk.new w2 54 #[.int .i64 (outE (it s0 i)).t, .int .u64 (outE (it s0 i)).seq, .iface 46 (.pointer (some ⟨o, 0, none⟩))]
        obtain ⟨w3, hw3⟩ : ∃ x, x = w2.alloc (Obj.cells #[.int .i64 (outE (it s0 i)).t, .int .u64 (outE (it s0 i)).seq, .iface 46 (.pointer (some ⟨o, 0, none⟩))] 54) := ⟨_, rfl⟩
        obtain ⟨E, hEv⟩ : ∃ x, x = w2.heap.size := ⟨_, rfl⟩
        have hcE : c < E := by rw [hEv, hcv'.out]; exact S2.hc.lt
        rw [← hw3] at hb3 hE3 ⊢
        rw [← hEv] at hE3 ⊢
        have hhap := rnd_happen hX'.out hn0 hs0 hi0 hR'.out.1 hn'.out S2 hbag2 hK2 ho2 hb3
        rw [← hcv'.out] at hhap
        have hhap' : Hid (Calls Yba.prog 90 #[.pointer (some ⟨o, 0, none⟩)] (w3.setCell ⟨c, 0, none⟩ (.int .i64 (outE (it s0 i)).t)) fun ex w' => ex = .returned (.tuple #[]) ∧ Hid (∃ Y1, Rnd X s0 (.slice (some ⟨ib, 0, none⟩) k k) w Y w' (i + 1) Y1)) := hhap
        have z0 := hE3.cell 0
        have hc3 := (S2.hc.below hb3 S2.hc.lt)
        rw [← hcv'.out] at hc3
        have y0 := hc3.cell 0
        have y1 := hc3.frozen 0
        have hE4 := hE3.setOther ⟨c, 0, none⟩ (.int .i64 (outE (it s0 i)).t) (by show E ≠ c; omega)
        have z2 := hE4.cell 2
        simp at z0 z2 y0
        have hlen : Hid (i < T) := by have h1 := hR'.out.1.left; have : 0 < leftN (it s0 i) := by { unfold leftN; have := hn'.out; omega }
                                      unfold Hid; rw [hT'.out]; omega
        have hlogi : Hid (logN X.st wr = i) := hR'.out.2.1.logN
        clear hpost S2 hbag2 hK2 ho2 hb3 hE3 hw3 hEv hhap hc3 hE4 hc1
        go_wp2_with (go_at_call 90; refine hhap'.out.mono ?_; rintro ex w5 ⟨rfl, hpost⟩)
        obtain ⟨Y3, hR3⟩ := hpost.out
        refine ⟨⟨i + 1, Y3, hR3⟩, ?_⟩
        have h1 := hR3.2.1.logN
        have h2 := hlogi.out
        have h3 := hlen.out
        rw [h1, h2]; omega
  case rest =>
    obtain ⟨Y1, hR, hY1, hY2⟩ := hcut
    obtain ⟨g, S1, k1⟩ := hR
    have e5 := S1.hc.cell 5
    simp at e5
    rw [← hcv'.out] at e5
    have hTb : T ≤ 2048 := by have hc1 := cnt_le (p := fun e => e.child) (h := s0.f) (n := s0.n); rw [hT'.out]; unfold leftN; omega
    have hst1 : Hid (∃ Y2, Sim X wc Y2 (.slice (some ⟨ib, 0, none⟩) k k) (it s0 T).now (it s0 T).seq (it s0 T).nid (T + 0) (logs s0 T ++ stops 0) (bagOf (it s0 T)) ∧ Y2.n = 0 ∧ (∀ j, j < X.nl → Y2.m j = 0) ∧ Kept X Y Y2 w wc) := ⟨Y1, by simpa [stops] using S1, hY1, hY2, k1⟩
    clear g S1 k1 hY1 hY2 hstart
    go_upto_block 2 with fail
    go_cut [5] from 26 to 35 (fun _ wx => ∃ Y2, Sim X wx Y2 (.slice (some ⟨ib, 0, none⟩) k k) (it s0 T).now (it s0 T).seq (it s0 T).nid (T + k) (logs s0 T ++ stops k) (bagOf (it s0 T)) ∧ Y2.n = 0 ∧ (∀ j, j < X.nl → Y2.m j = 0) ∧ Kept X Y Y2 w wx)
    case first =>
      go_wp2
      go_loopw [5, 26] (fun _ v26 wr => ∃ (i : Nat) (Y2 : Hp), v26 = .int .i64 i ∧ i ≤ k ∧ Sim X wr Y2 (.slice (some ⟨ib, 0, none⟩) k k) (it s0 T).now (it s0 T).seq (it s0 T).nid (T + i) (logs s0 T ++ stops i) (bagOf (it s0 T)) ∧ Y2.n = 0 ∧ (∀ j, j < X.nl → Y2.m j = 0) ∧ Kept X Y Y2 w wr) (fun _ v26 _ => k - (intOf v26).toNat)
      case atStart =>
        obtain ⟨Y2, h1, h2, h3, h4⟩ := hst1.out
        exact ⟨0, Y2, rfl, Nat.zero_le _, h1, h2, h3, h4⟩
      case round =>
        obtain ⟨i, Y2, rfl, hik, S2, hY1, hY2, k2⟩ := hrel
        have S2' : Hid (Sim X wr Y2 (.slice (some ⟨ib, 0, none⟩) k k) (it s0 T).now (it s0 T).seq (it s0 T).nid (T + i) (logs s0 T ++ stops i) (bagOf (it s0 T))) := S2
        have hY1' : Hid (Y2.n = 0) := hY1
        have hY2' : Hid (∀ j, j < X.nl → Y2.m j = 0) := hY2
        have k2' : Hid (Kept X Y Y2 w wr) := k2
        by_cases hi : i < k
        · have hdi : decide (i < k) = true := decide_eq_true hi
          have hnf : ∀ {q : Nat} {Tq : TypeId} {cs : Array Value}, Blk w q Tq cs → Tq ≠ 33 → Tq ≠ 37 → Tq ≠ 42 → Tq ≠ 54 → Tq ≠ 59 → Blk wr q Tq cs := fun hq a1 a2 a3 a4 a5 => k2.blk hq (hS'.out.notFoot hq a1 a2 a3 a4 a5)
          have hib2 := hnf hib'.out (by decide) (by decide) (by decide) (by decide) (by decide)
          obtain ⟨wcs, hw1, hw2⟩ := hwk'.out i hi
          have hw3 := hnf hw1 (by decide) (by decide) (by decide) (by decide) (by decide)
          have hsv2 := hnf hsv'.out (by decide) (by decide) (by decide) (by decide) (by decide)
          have hix2 := hnf (hix'.out i hi) (by decide) (by decide) (by decide) (by decide) (by decide)
          have e1 : wr.cell? ⟨ib, i, none⟩ = some (.pointer (some ⟨wk i, 0, none⟩)) := by rw [hib2.cell]; exact hics'.out i hi
          have e2 : wr.cell? ⟨wk i, 1, none⟩ = some (.func (.func 8) #[] #[.pointer (some ⟨sv, 0, none⟩), .pointer (some ⟨ix i, 0, none⟩)]) := by rw [hw3.cell]; exact hw2
          have hstop := stop_calls hX'.out S2 (by omega) sv (ix i) i hsv2 hix2
          clear hib2 hw1 hw2 hw3 hsv2 hix2 hnf S2 hY1 hY2 k2
          go_wp2_with (go_at_call 8; refine hstop.mono ?_; rintro ex w5 ⟨rfl, hpost⟩)
          obtain ⟨Y3, q1, q2⟩ := hpost
          obtain ⟨r1, r2⟩ := S2'.out.same_empty q1 hY1'.out hY2'.out
          refine ⟨⟨i + 1, Y3, by simp, hi, ?_, r1, r2, k2'.out.trans q2⟩, by simp [intOf]; omega⟩
          rw [show logs s0 T ++ stops (i + 1) = (logs s0 T ++ stops i) ++ [.bool true, .int .i64 i, .int .i64 0] by simp [stops, List.append_assoc]]
          exact q1
        · have hdi : decide (i < k) = false := decide_eq_false hi
          obtain rfl : i = k := by omega
          clear S2 hY1 hY2 k2
          go_wp2
          go_meet
          case rel => exact ⟨Y2, S2'.out, hY1'.out, hY2'.out, k2'.out⟩
    case rest =>
      obtain ⟨Y2, S2, hY1, hY2, k2⟩ := hcut
      have hc2 := S2.hc
      rw [← hcv'.out] at hc2
      have y5 := hc2.cell 5
      have f5 := hc2.frozen 5
      simp at y5
      have hfr : Fr X.c none wc.heap.size wc (wc.setCell ⟨X.c, 5, none⟩ (.slice none 0 0)) := (Fr.of_below (Below.refl _ wc)).setCell X.c 5 _ (Or.inl rfl)
      obtain ⟨S4, k4⟩ := S2.clocked (now' := (it s0 T).now) (idl' := .slice none 0 0) (Nat.le_refl _) hfr (S2.hc.set 5 _)
      rw [← hcv'.out] at S4 k4
      have S4' : Hid (Sim X (wc.setCell ⟨c, 5, none⟩ (.slice none 0 0)) Y2 (.slice none 0 0) (it s0 T).now (it s0 T).seq (it s0 T).nid (T + k) (logs s0 T ++ stops k) (bagOf (it s0 T))) := S4
      have k4' : Hid (Kept X Y Y2 w (wc.setCell ⟨c, 5, none⟩ (.slice none 0 0))) := k2.trans k4
      have hY2' : Hid (∀ j, j < X.nl → Y2.m j = 0) := hY2
      clear S2 S4 k4 k2 hc2 hfr hY2
      go_wp2
      go_end0
      exact ⟨rfl, Y2, S4'.out, hY1, hY2'.out, k4'.out⟩
end Go.Proofs.Ybulkeeeq
