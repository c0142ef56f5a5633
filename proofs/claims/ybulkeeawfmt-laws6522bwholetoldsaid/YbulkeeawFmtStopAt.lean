import Derived.Test.YbulkeeawFmtStop
namespace Go.Proofs.YbulkeeawFmt
open Go.RowKit
set_option linter.unusedVariables false

/-- A number in memory. -/
def rd (w : World) (a : Addr) : Int := match w.cell? a with | some v => intOf v | none => 0

set_option maxHeartbeats 4000000 in
set_option maxRecDepth 100000 in
theorem stop_calls (K T sp : Nat) (kb : Nat → Nat) (m off C cs lb nL cL st buf last slot used sb ly cLy sta cSt old held wst : Nat) (sr : Nat → Bool) (t u t2 u2 b1 b2 : Nat) (w : World)
    (h : Tr w T sp kb m) (hK : Blk w K 44 (cliV T off C cs lb nL cL st buf last slot used sb ly cLy sta cSt old held wst)) (hKT : T ≠ K) (hKs : sp ≠ K) (hsta : sta ≠ K) (hstl : sta < w.heap.size)
    (hsr : ∀ q, q < C → w.cell? ⟨sta, q, none⟩ = some (.bool (sr q)))
    (hoff : off ≤ 64) (ht : 1 ≤ t) (ht1 : t ≤ 63) (hC : C ≤ 64) (hcs : cs ≤ 64) (hst : st ≤ 64) (hold : 1 ≤ old) (hold1 : old ≤ C + 1) (hheld : held ≤ 64) (hcnt : cntT sr (old - 1) (C + 1 - old) ≤ held) (hu : u ≤ 1000000)
    (hb1 : Hid (b1 = W kb m (off + t - 1) 1)) (hb2 : Hid (b2 = W kb m (off + t2 - 1) 1)) (hfull : (0 < u ∧ u = b1 ∧ t2 = t + 1 ∧ u2 = 0) ∨ (¬ (0 < u ∧ u = b1) ∧ t2 = t ∧ u2 = u)) :
    Calls Ybaf.prog 13 #[.pointer (some ⟨K, 0, none⟩), .int .i64 t, .int .i64 u] w fun e w' => e = .returned (.tuple #[]) ∧ ∃ o hd, Blk w' K 44 (cliV T off C cs lb nL cL st buf last t2 u2 b2 ly cLy sta cSt o hd wst) ∧ But K w.heap.size w w' ∧
      (old ≤ o ∧ o ≤ C + 1 ∧ (∀ q, old ≤ q → q < o → dl cs st (q - 1) < t2) ∧ (o = C + 1 ∨ t2 ≤ dl cs st (o - 1)) ∧ hd + cntT sr (old - 1) (o - old) = held) := by
  have hKl := hK.lt
  have hca := cli_at hK
  obtain ⟨c0, c1, c2, c3, c4, c5, c6, c7, c8, c9, c10, c11, c12, c13, c14, c15, c16, c17⟩ := hca
  have hsb := fun (j : Nat) (hj : 1 ≤ j) (hj1 : j ≤ 64) w' (hb : Below w.heap.size w w') => slotBits_calls T sp kb m off j w' (h.grown hb) hoff hj hj1
  have hs1 := hsb t ht (by omega)
  have hs2 := hsb t2 (by omega) (by omega)
  rw [← hb1.out] at hs1
  rw [← hb2.out] at hs2
  have hW1 : b1 ≤ 5000 := by rw [hb1.out]; exact Nat.le_trans (W_le h.k5 m _ 1) (by omega)
  have hW2 : b2 ≤ 5000 := by rw [hb2.out]; exact Nat.le_trans (W_le h.k5 m _ 1) (by omega)
  clear hsb
  go_enter Ybaf.func13, Ybaf.ntmps13
  go_upto_region 2 with (go_at_call 18; refine (hs1 _ ((Below.refl _ w).alloc (Nat.le_refl _) _)).mono ?_; rintro e w1 ⟨rfl, hbe1⟩)
  have hbw1 : Below w.heap.size w w1 := ((Below.refl _ w).alloc (Nat.le_refl _) _).trans (hbe1.mono (by simp))
  have hbx : Blk w1 w.heap.size 37 #[.pointer (some ⟨T, 0, none⟩), .int .i64 off, .int .i64 C, .int .i64 cs, .slice (some ⟨lb, 0, none⟩) nL cL, .int .i64 st, .int .i64 buf, .string ByteArray.empty] := (Blk.new w 37 _).below hbe1 (by simp)
  have hK1 : Blk w1 K 44 (cliV T off C cs lb nL cL st buf last slot used sb ly cLy sta cSt old held wst) := hK.below hbw1 hKl
  have hsz1 : w.heap.size < w1.heap.size := hbx.lt
  clear hbe1 c0 c1 c2 c3 c4 c5 c6 c7 c8 c9 c10 c11 c12 c13 c14 c15 c16 c17
  obtain ⟨fl, hfl⟩ : ∃ fl, fl = decide (0 < u ∧ u = b1) := ⟨_, rfl⟩
  have hfl' : Hid (fl = decide (0 < u ∧ u = b1)) := hfl
  clear hfl
  go_cut [24] from 18 (fun v wc => v = .bool fl ∧ wc = w1)
  case first =>
    clear hs1 hs2 hbx hK1 hK h
    rcases hfull with ⟨f1, f2, f3, f4⟩ | ⟨f1, f2, f3⟩
    · have g1 : decide (0 < u) = true := decide_eq_true f1
      have g2 : ((u : Int) == (b1 : Int)) = true := by simp [f2]
      have g3 : fl = true := by rw [hfl'.out]; exact decide_eq_true ⟨f1, f2⟩
      subst g3
      clear f2 f3 f4
      go_wp2
      go_meet
      case rel => exact ⟨by first | rfl | simp, rfl⟩
    · have g3 : fl = false := by rw [hfl'.out]; exact decide_eq_false f1
      subst g3
      by_cases g0 : 0 < u
      · have g1 : decide (0 < u) = true := decide_eq_true g0
        have g2 : ((u : Int) == (b1 : Int)) = false := by simp; omega
        clear f1 f2 f3
        go_wp2
        go_meet
        case rel => exact ⟨by first | rfl | simp, rfl⟩
      · have g1 : decide (0 < u) = false := decide_eq_false g0
        clear f1 f2 f3
        go_wp2
        go_meet
        case rel => exact ⟨by first | rfl | simp, rfl⟩
  case rest =>
    obtain ⟨rfl, hwc⟩ := hcut
    obtain rfl := hwc.symm
    clear hwc
    go_upto_if 24 with fail
    go_cut [1, 2, 7] from 12 (fun v1 v2 v7 wc => v1 = .int .i64 t2 ∧ v2 = .int .i64 u2 ∧ v7 = .int .i64 b2 ∧ Below w1.heap.size w1 wc)
    case first =>
      have z0 := hbx.cell 0
      have z1 := hbx.cell 1
      simp at z0 z1
      rcases hfull with ⟨f1, f2, f3, f4⟩ | ⟨f1, f2, f3⟩
      · have g3 : fl = true := by rw [hfl'.out]; exact decide_eq_true ⟨f1, f2⟩
        subst g3
        have f3' : (t : Int) + 1 = (t2 : Int) := by omega
        subst f4
        clear f1 f2 f3 hs1
        go_wp2_with (go_at_call 18; refine (hs2 _ hbw1).mono ?_; rintro e w3 ⟨rfl, hbe3⟩)
        go_meet
        case rel => exact ⟨rfl, rfl, rfl, hbe3⟩
      · have g3 : fl = false := by rw [hfl'.out]; exact decide_eq_false f1
        subst g3
        subst f2
        subst f3
        have hbb : b1 = b2 := hb1.out.trans hb2.out.symm
        subst hbb
        clear f1
        go_wp2
        go_meet
        case rel => exact ⟨rfl, rfl, rfl, Below.refl _ _⟩
    case rest =>
      obtain ⟨rfl, rfl, rfl, hbc⟩ := hcut
      have hKc : Blk wc K 44 (cliV T off C cs lb nL cL st buf last slot used sb ly cLy sta cSt old held wst) := hK1.below hbc hK1.lt
      have hbxc := hbx.below hbc hbx.lt
      have hbwc : Below w.heap.size w wc := hbw1.trans (hbc.mono hbw1.size)
      clear hK1 hbx hbc hbw1 hs1 hs2
      have f10 := hKc.frozen 10
      have d10 : wc.cell? ⟨K, 10, none⟩ = some (.int .i64 slot) := hKc.cell 10
      have hK2 : Blk (wc.setCell ⟨K, 10, none⟩ (.int .i64 t2)) K 44 (cliV T off C cs lb nL cL st buf last t2 used sb ly cLy sta cSt old held wst) := hKc.set 10 (.int .i64 t2)
      have f11 := hK2.frozen 11
      have d11 : (wc.setCell ⟨K, 10, none⟩ (.int .i64 t2)).cell? ⟨K, 11, none⟩ = some (.int .i64 used) := hK2.cell 11
      have hK3 : Blk ((wc.setCell ⟨K, 10, none⟩ (.int .i64 t2)).setCell ⟨K, 11, none⟩ (.int .i64 u2)) K 44 (cliV T off C cs lb nL cL st buf last t2 u2 sb ly cLy sta cSt old held wst) := hK2.set 11 (.int .i64 u2)
      have f12 := hK3.frozen 12
      have d12 : ((wc.setCell ⟨K, 10, none⟩ (.int .i64 t2)).setCell ⟨K, 11, none⟩ (.int .i64 u2)).cell? ⟨K, 12, none⟩ = some (.int .i64 sb) := hK3.cell 12
      have hK4 : Blk (((wc.setCell ⟨K, 10, none⟩ (.int .i64 t2)).setCell ⟨K, 11, none⟩ (.int .i64 u2)).setCell ⟨K, 12, none⟩ (.int .i64 b2)) K 44 (cliV T off C cs lb nL cL st buf last t2 u2 b2 ly cLy sta cSt old held wst) := hK3.set 12 (.int .i64 b2)
      have hbut : But K w.heap.size w (((wc.setCell ⟨K, 10, none⟩ (.int .i64 t2)).setCell ⟨K, 11, none⟩ (.int .i64 u2)).setCell ⟨K, 12, none⟩ (.int .i64 b2)) := (((But.of_below hbwc).setCell 10 _).setCell 11 _).setCell 12 _
      have hbx4 := ((hbxc.setOther ⟨K, 10, none⟩ (.int .i64 t2) (by show w.heap.size ≠ K; omega)).setOther ⟨K, 11, none⟩ (.int .i64 u2) (by show w.heap.size ≠ K; omega)).setOther ⟨K, 12, none⟩ (.int .i64 b2) (by show w.heap.size ≠ K; omega)
      go_wp2
      go_loopw [] (fun wr => ∃ o hd : Nat, Blk wr K 44 (cliV T off C cs lb nL cL st buf last t2 u2 b2 ly cLy sta cSt o hd wst) ∧ Blk wr w.heap.size 37 #[.pointer (some ⟨T, 0, none⟩), .int .i64 off, .int .i64 C, .int .i64 cs, .slice (some ⟨lb, 0, none⟩) nL cL, .int .i64 st, .int .i64 buf, .string ByteArray.empty] ∧ But K w.heap.size w wr ∧ (old ≤ o ∧ o ≤ C + 1 ∧ (∀ q, old ≤ q → q < o → dl cs st (q - 1) < t2) ∧ hd + cntT sr (old - 1) (o - old) = held))
        (fun wr => C + 1 - (rd wr ⟨K, 15, none⟩).toNat)
      case atStart => exact ⟨old, held, hK4, hbx4, hbut, Nat.le_refl _, hold1, fun q h1 h2 => by omega, by simp [cntT]⟩
      case round =>
        obtain ⟨o, hd, hKr, hbr, hbutr, i1, i2, i3, i4⟩ := hrel
        clear hK4 hbx4 hbut hK3 hK2 f10 f11 f12 d10 d11 d12 hKc hbxc hbwc hK
        have i3' : Hid (∀ q, old ≤ q → q < o → dl cs st (q - 1) < t2) := i3
        have i4' : Hid (hd + cntT sr (old - 1) (o - old) = held) := i4
        have hhd : hd ≤ 64 := by omega
        clear i3 i4
        have c15 : wr.cell? ⟨K, 15, none⟩ = some (.int .i64 o) := hKr.cell 15
        have c16 : wr.cell? ⟨K, 16, none⟩ = some (.int .i64 hd) := hKr.cell 16
        have c14 : wr.cell? ⟨K, 14, none⟩ = some (.slice (some ⟨sta, 0, none⟩) C cSt) := hKr.cell 14
        have z0 := hbr.cell 0
        have z1 := hbr.cell 1
        have z2 := hbr.cell 2
        have z3 := hbr.cell 3
        have z4 := hbr.cell 4
        have z5 := hbr.cell 5
        have z6 := hbr.cell 6
        have z7 := hbr.cell 7
        simp at z0 z1 z2 z3 z4 z5 z6 z7
        by_cases hoC : o ≤ C
        · have hdec : decide (o ≤ C) = true := decide_eq_true hoC
          have hdl := fun w => deadline_calls T off C cs (some ⟨lb, 0, none⟩) nL cL st buf (o - 1) w (by omega) hcs hst
          rw [show o - 1 + 1 = o by omega] at hdl
          unfold sessV at hdl
          obtain ⟨D, hD⟩ : ∃ D, D = dl cs st (o - 1) := ⟨_, rfl⟩
          rw [← hD] at hdl
          have hD' : Hid (D = dl cs st (o - 1)) := hD
          clear hD
          go_upto_region 5 with fail
          go_cut [62] from 46 (fun v wx => v = .bool (decide (D < t2)) ∧ Below wr.heap.size wr wx)
          case first =>
            go_region_with (go_at_call 14; refine (hdl _).mono ?_; rintro e w3 ⟨rfl, hb3⟩; have hb3' : Below wr.heap.size wr w3 := (by refine Below.trans ?_ hb3; exact ⟨rfl, rfl, rfl, Nat.le_refl _, fun _ _ => rfl⟩))
            all_goals
              go_wp2
              go_meet
              case rel => exact ⟨by first | rfl | simp, hb3'⟩
          case rest =>
            obtain ⟨rfl, hbx5⟩ := hcut
            have hrd : Hid (rd wr ⟨K, 15, none⟩ = (o : Int)) := by unfold Hid rd; rw [c15]; rfl
            have hKx := hKr.below hbx5 hKr.lt
            have hbrx := hbr.below hbx5 hbr.lt
            have hbutx : But K w.heap.size w wc := hbutr.trans (But.of_below (hbx5.mono hbutr.size))
            clear hKr hbr hbutr hbx5 z0 z1 z2 z3 z4 z5 z6 z7 c14 c15 c16 hdl
            have c15 : wc.cell? ⟨K, 15, none⟩ = some (.int .i64 o) := hKx.cell 15
            have c16 : wc.cell? ⟨K, 16, none⟩ = some (.int .i64 hd) := hKx.cell 16
            have c14 : wc.cell? ⟨K, 14, none⟩ = some (.slice (some ⟨sta, 0, none⟩) C cSt) := hKx.cell 14
            have f15 := hKx.frozen 15
            have f16 := hKx.frozen 16
            by_cases hlt : D < t2
            · have hdd : decide (D < t2) = true := decide_eq_true hlt
              obtain ⟨p, hp⟩ : ∃ p, p = o - 1 := ⟨_, rfl⟩
              have hp1 : (o : Int) - 1 = (p : Int) := by omega
              have hpC : p < C := by omega
              have cp : wc.cell? ⟨sta, p, none⟩ = some (.bool (sr p)) := by rw [hbutx.cell (by exact hstl) (by exact hsta)]; exact hsr p hpC
              have hstep : cntT sr (old - 1) (o + 1 - old) = cntT sr (old - 1) (o - old) + (if sr p then 1 else 0) := by
                rw [show o + 1 - old = (o - old) + 1 by omega]
                simp only [cntT]
                rw [show old - 1 + (o - old) = p by omega]
              have hmono := cntT_add sr (old - 1) (o + 1 - old) (C - o)
              rw [show o + 1 - old + (C - o) = C + 1 - old by omega] at hmono
              have hstep' : Hid (cntT sr (old - 1) (o + 1 - old) = cntT sr (old - 1) (o - old) + (if sr p then 1 else 0)) := hstep
              have hmono' : Hid (cntT sr (old - 1) (C + 1 - old) = cntT sr (old - 1) (o + 1 - old) + cntT sr (old - 1 + (o + 1 - old)) (C - o)) := hmono
              have hp' : Hid (p = o - 1) := hp
              clear hstep hmono hp
              cases hsp : sr p with
              | false =>
                rw [hsp] at cp
                go_wp2
                go_quiet (fail)
                go_wp2
                have hKy : Blk ((wc.drewN nq).setCell ⟨K, 15, none⟩ (.int .i64 ((o : Int) + 1))) K 44 (cliV T off C cs lb nL cL st buf last t2 u2 b2 ly cLy sta cSt (o + 1) hd wst) := (show Blk (wc.drewN nq) K 44 _ from hKx).set 15 (.int .i64 ((o : Int) + 1))
                have hrd2 : rd ((wc.drewN nq).setCell ⟨K, 15, none⟩ (.int .i64 ((o : Int) + 1))) ⟨K, 15, none⟩ = (o : Int) + 1 := by unfold rd; rw [hKy.cell 15]; rfl
                have h1 := hstep'.out
                rw [hsp] at h1
                have h3 := i4'.out
                have h4 := hD'.out
                have h5 := hp'.out
                refine ⟨⟨o + 1, hd, hKy, (show Blk (wc.drewN nq) _ 37 _ from hbrx).setOther _ _ (by show w.heap.size ≠ K; omega), (hbutx.drewN _).setCell 15 _, by omega, by omega, fun q q1 q2 => ?_, by rw [h1]; simpa using h3⟩, by rw [hrd2, hrd.out]; omega⟩
                by_cases hq : q = o
                · subst hq; omega
                · exact i3'.out q q1 (by omega)
              | true =>
                rw [hsp] at cp
                have hd1 : 1 ≤ hd := by
                  have h1 := hstep'.out
                  have h2 := hmono'.out
                  have h3 := i4'.out
                  rw [hsp] at h1
                  simp only [if_true] at h1
                  omega
                go_wp2
                go_quiet (fail)
                go_wp2
                have hKy : Blk (((wc.drewN nq).setCell ⟨K, 16, none⟩ (.int .i64 ((hd : Int) - 1))).setCell ⟨K, 15, none⟩ (.int .i64 ((o : Int) + 1))) K 44 (cliV T off C cs lb nL cL st buf last t2 u2 b2 ly cLy sta cSt (o + 1) (hd - 1) wst) := by
                  have h9 := ((show Blk (wc.drewN nq) K 44 _ from hKx).set 16 (.int .i64 ((hd : Int) - 1))).set 15 (.int .i64 ((o : Int) + 1))
                  have e9 : ((hd : Int) - 1) = ((hd - 1 : Nat) : Int) := by omega
                  rw [e9] at h9 ⊢
                  exact h9
                have hrd2 : rd (((wc.drewN nq).setCell ⟨K, 16, none⟩ (.int .i64 ((hd : Int) - 1))).setCell ⟨K, 15, none⟩ (.int .i64 ((o : Int) + 1))) ⟨K, 15, none⟩ = (o : Int) + 1 := by unfold rd; rw [hKy.cell 15]; rfl
                have h1 := hstep'.out
                rw [hsp] at h1
                simp only [if_true] at h1
                have h3 := i4'.out
                have h4 := hD'.out
                have h5 := hp'.out
                refine ⟨⟨o + 1, hd - 1, hKy, ((show Blk (wc.drewN nq) _ 37 _ from hbrx).setOther _ _ (by show w.heap.size ≠ K; omega)).setOther _ _ (by show w.heap.size ≠ K; omega), ((hbutx.drewN _).setCell 16 _).setCell 15 _, by omega, by omega, fun q q1 q2 => ?_, by omega⟩, by rw [hrd2, hrd.out]; omega⟩
                by_cases hq : q = o
                · subst hq; omega
                · exact i3'.out q q1 (by omega)
            · have hdd : decide (D < t2) = false := decide_eq_false hlt
              go_wp2
              go_end0
              refine ⟨rfl, o, hd, hKx, hbutx, i1, i2, i3'.out, Or.inr (by rw [← hD'.out]; omega), i4'.out⟩
        · have hdec : decide (o ≤ C) = false := decide_eq_false hoC
          go_upto_region 5 with fail
          go_quiet (fail)
          go_wp2
          go_end0
          refine ⟨rfl, o, hd, hKr, hbutr.drewN _, i1, i2, i3'.out, Or.inl (by omega), i4'.out⟩
end Go.Proofs.YbulkeeawFmt
