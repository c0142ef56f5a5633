import Derived.Test.YbulkeeeqFirst
namespace Go.Proofs.Ybulkeeeq
open Go.RowKit
set_option linter.unusedVariables false

set_option maxHeartbeats 4000000 in
set_option maxRecDepth 100000 in
theorem lpop_plain (l n hd base : Nat) (dly : Int) (wf : Nat → Value) (v : Value) (h : Nat → Ev) (w : World) (hl : Blk w l 42 #[.int .i64 dly, v, .int .i64 hd]) (hr : EvFrom w base wf v hd n h) (hlb : l < base) (hlt : hd < n) (hn : n ≤ 1000000) (hwf : ∀ s, ∃ o, wf s = .iface 46 (.pointer (some ⟨o, 0, none⟩)))
    (hno : ¬ (64 < hd + 1 ∧ n < 2 * (hd + 1))) :
    Calls Yba.prog 32 #[.pointer (some ⟨l, 0, none⟩)] w fun ex w' => ex = .returned (.agg #[.int .i64 (h hd).t, .int .u64 (h hd).seq, wf (h hd).seq]) ∧ Blk w' l 42 #[.int .i64 dly, v, .int .i64 (hd + 1 : Nat)] ∧ EvFrom w' base wf v (hd + 1) n h ∧ Fr l v.ownBlock w.heap.size w w' := by
  have hll := hl.lt
  rcases hr with ⟨_, h0⟩ | ⟨g, cap, cs, rfl, hg, hb, hle, hcap, hsz, hcells⟩
  · omega
  have hgl := hb.lt
  have hgl2 : g ≠ l := by omega
  obtain ⟨o, ho⟩ := hwf (h hd).seq
  have cf0 : w.cell? ⟨g, hd * 3, none⟩ = some (.int .i64 (h hd).t) := by rw [hb.cell]; exact hcells hd 0 (Nat.le_refl _) hlt (by omega)
  have cf1 : w.cell? ⟨g, hd * 3 + 1, none⟩ = some (.int .u64 (h hd).seq) := by rw [hb.cell]; exact hcells hd 1 (Nat.le_refl _) hlt (by omega)
  have cf2 : w.cell? ⟨g, hd * 3 + 2, none⟩ = some (.iface 46 (.pointer (some ⟨o, 0, none⟩))) := by rw [hb.cell, ← ho]; exact hcells hd 2 (Nat.le_refl _) hlt (by omega)
  rw [ho]
  have hcells' : Hid (∀ j r, hd ≤ j → j < n → r < 3 → cs[j * 3 + r]? = some (evC wf (h j) r)) := hcells
  have c1 := hl.cell 1
  have c2 := hl.cell 2
  simp at c1 c2
  clear hcells ho hwf
  go_enter Yba.func32, Yba.ntmps32
  go_upto_region 1 with fail
  go_cut [3] from 5 to 14 (fun v3 wc => v3 = .pointer (some ⟨w.heap.size + 1, 0, none⟩) ∧ Below w.heap.size w wc ∧ wc.heap.size = w.heap.size + 2 ∧ Blk wc w.heap.size 54 #[.int .i64 0, .int .u64 0, .nilIface] ∧ Blk wc (w.heap.size + 1) 54 #[.int .i64 (h hd).t, .int .u64 (h hd).seq, .iface 46 (.pointer (some ⟨o, 0, none⟩))])
  case first =>
    go_region
    all_goals
      go_wp2
      go_meet
      case rel =>
        refine ⟨rfl, ?_, by simp, (Blk.new w 54 _).alloc _, ?_⟩
        · exact Below.trans (((Below.refl _ w).alloc (Nat.le_refl _) _).alloc (by simp) _) ⟨rfl, rfl, rfl, Nat.le_refl _, fun _ _ => rfl⟩
        · have := Blk.new (w.alloc (Obj.cells #[Value.int IntKind.i64 0, Value.int IntKind.u64 0, Value.nilIface] 54)) 54 #[Value.int IntKind.i64 (h hd).t, Value.int IntKind.u64 (h hd).seq, Value.iface 46 (Value.pointer (some ⟨o, 0, none⟩))]
          simp at this
          exact this
  case rest =>
    obtain ⟨rfl, hbw, hs2, hR, hF⟩ := hcut
    obtain ⟨R, hRv⟩ : ∃ x, x = w.heap.size := ⟨_, rfl⟩
    have hb1 := hb.below hbw hgl
    have hl1 := hl.below hbw hll
    have hRv' : Hid (R = w.heap.size) := hRv
    have hfr1 : Fr l (some g) R w wc := by rw [hRv]; exact Fr.of_below hbw
    simp only [← hRv] at hR hF hs2 hll hgl ⊢
    clear hRv hbw hb hl cf0 cf1 cf2 c1 c2
    have c1 := hl1.cell 1
    have c2 := hl1.cell 2
    simp at c1 c2
    obtain ⟨y0, hy0⟩ : ∃ y, wc.cell? ⟨g, hd * 3, none⟩ = some y := ⟨_, by rw [hb1.cell]; exact Array.getElem?_eq_getElem (by omega)⟩
    have f0 := hb1.frozen (hd * 3)
    have hb2 := hb1.set (hd * 3) (.int .i64 0)
    obtain ⟨y1, hy1⟩ : ∃ y, (wc.setCell ⟨g, hd * 3, none⟩ (.int .i64 0)).cell? ⟨g, hd * 3 + 1, none⟩ = some y := ⟨_, by rw [hb2.cell]; exact Array.getElem?_eq_getElem (by simp; omega)⟩
    have f1 := hb2.frozen (hd * 3 + 1)
    have hb3 := hb2.set (hd * 3 + 1) (.int .u64 0)
    obtain ⟨y2, hy2⟩ : ∃ y, ((wc.setCell ⟨g, hd * 3, none⟩ (.int .i64 0)).setCell ⟨g, hd * 3 + 1, none⟩ (.int .u64 0)).cell? ⟨g, hd * 3 + 2, none⟩ = some y := ⟨_, by rw [hb3.cell]; exact Array.getElem?_eq_getElem (by simp; omega)⟩
    have f2 := hb3.frozen (hd * 3 + 2)
    have hb4 := hb3.set (hd * 3 + 2) .nilIface
    have hoth : ∀ {q : Nat} {T : TypeId} {ds : Array Value}, Blk wc q T ds → q ≠ g → Blk (((wc.setCell ⟨g, hd * 3, none⟩ (.int .i64 0)).setCell ⟨g, hd * 3 + 1, none⟩ (.int .u64 0)).setCell ⟨g, hd * 3 + 2, none⟩ .nilIface) q T ds := fun hq hne =>
      ((hq.setOther ⟨g, hd * 3, none⟩ _ hne).setOther ⟨g, hd * 3 + 1, none⟩ _ hne).setOther ⟨g, hd * 3 + 2, none⟩ _ hne
    have hl4 := hoth hl1 (Ne.symm hgl2)
    have hR4 := hoth hR (by omega)
    have hF4 := hoth hF (by omega)
    have hfr4 := ((hfr1.setCell g (hd * 3) (.int .i64 0) (Or.inr (Or.inl rfl))).setCell g (hd * 3 + 1) (.int .u64 0) (Or.inr (Or.inl rfl))).setCell g (hd * 3 + 2) .nilIface (Or.inr (Or.inl rfl))
    have hsz4 : (((cs.setIfInBounds (hd * 3) (.int .i64 0)).setIfInBounds (hd * 3 + 1) (.int .u64 0)).setIfInBounds (hd * 3 + 2) .nilIface).size = cap * 3 := by simpa using hsz
    have hcells4 : Hid (∀ j r, hd + 1 ≤ j → j < n → r < 3 → (((cs.setIfInBounds (hd * 3) (.int .i64 0)).setIfInBounds (hd * 3 + 1) (.int .u64 0)).setIfInBounds (hd * 3 + 2) .nilIface)[j * 3 + r]? = some (evC wf (h j) r)) := by
      intro j r a1 a2 a3
      rw [Array.getElem?_setIfInBounds_ne (by omega), Array.getElem?_setIfInBounds_ne (by omega), Array.getElem?_setIfInBounds_ne (by omega)]
      exact hcells'.out j r (by omega) a2 a3
    clear hoth
    go_upto_region 2 with fail
    go_cut [] from 15 to 24 (fun wx => ∃ nq, wx = (((wc.setCell ⟨g, hd * 3, none⟩ (.int .i64 0)).setCell ⟨g, hd * 3 + 1, none⟩ (.int .u64 0)).setCell ⟨g, hd * 3 + 2, none⟩ .nilIface).drewN nq)
    case first =>
      go_region
      all_goals
        go_wp2
        go_meet
        case rel => exact ⟨1, rfl⟩
    case rest =>
      obtain ⟨nq, hwx⟩ := hcut
      have hl5 : Blk wc l 42 #[.int .i64 dly, .slice (some ⟨g, 0, none⟩) n cap, .int .i64 hd] := by rw [hwx]; exact hl4
      have hb5 : Blk wc g 54 (((cs.setIfInBounds (hd * 3) (.int .i64 0)).setIfInBounds (hd * 3 + 1) (.int .u64 0)).setIfInBounds (hd * 3 + 2) .nilIface) := by rw [hwx]; exact hb4
      have hR5 : Blk wc R 54 #[.int .i64 0, .int .u64 0, .nilIface] := by rw [hwx]; exact hR4
      have hF5 : Blk wc (R + 1) 54 #[.int .i64 (h hd).t, .int .u64 (h hd).seq, .iface 46 (.pointer (some ⟨o, 0, none⟩))] := by rw [hwx]; exact hF4
      have hfr5 : Fr l (some g) R w wc := by rw [hwx]; exact hfr4.drewN nq
      clear hwx hl4 hb4 hR4 hF4 hfr4 hl1 hb1 hb2 hb3 hR hF hfr1 hs2 c1 c2 hy0 hy1 hy2 f0 f1 f2
      have c2 := hl5.cell 2
      have f2 := hl5.frozen 2
      have hl6 := hl5.set 2 (.int .i64 ((hd : Int) + 1))
      have c2' : (wc.setCell ⟨l, 2, none⟩ (.int .i64 ((hd : Int) + 1))).cell? ⟨l, 2, none⟩ = some (.int .i64 ((hd : Int) + 1)) := by rw [hl6.cell]; rfl
      have c1' : (wc.setCell ⟨l, 2, none⟩ (.int .i64 ((hd : Int) + 1))).cell? ⟨l, 1, none⟩ = some (.slice (some ⟨g, 0, none⟩) n cap) := by rw [hl6.cell]; rfl
      simp at c2
      obtain ⟨h1, hh1⟩ : ∃ x, x = hd + 1 := ⟨_, rfl⟩
      have eh1 : (hd : Int) + 1 = (h1 : Int) := by omega
      rw [eh1] at c2' c1' hl6
      have hh1' : Hid (h1 = hd + 1) := hh1
      obtain ⟨h2, hh2⟩ : ∃ x, x = 2 * h1 := ⟨_, rfl⟩
      have eh2 : 2 * (h1 : Int) = (h2 : Int) := by omega
      have hh2b : h2 ≤ 4000000 := by omega
      have hh1b : h1 ≤ 1000001 := by omega
      have hno' : Hid (¬ (64 < h1 ∧ n < h2)) := by unfold Hid; omega
      clear hh1 hh2 hno
      go_upto_region 4 with fail
      go_cut [49] from 32 to 49 (fun v49 wx => v49 = .bool false ∧ ∃ nq, wx = (wc.setCell ⟨l, 2, none⟩ (.int .i64 h1)).drewN nq)
      case first =>
        by_cases ha : 64 < h1
        · have hda : decide ((64 : Int) < (h1 : Int)) = true := decide_eq_true (by omega)
          have hdb : decide (n < h2) = false := decide_eq_false (fun hx => hno'.out ⟨ha, hx⟩)
          go_quiet (fail)
          go_wp2
          go_meet
          case rel => exact ⟨by first | rfl | simp, _, rfl⟩
        · have hda : decide ((64 : Int) < (h1 : Int)) = false := decide_eq_false (by omega)
          go_quiet (fail)
          go_wp2
          go_meet
          case rel => exact ⟨by first | rfl | simp, _, rfl⟩
      case rest =>
        obtain ⟨rfl, nq2, hwx⟩ := hcut
        have hl7 : Blk wc l 42 #[.int .i64 dly, .slice (some ⟨g, 0, none⟩) n cap, .int .i64 h1] := by rw [hwx]; exact hl6
        have hb7 : Blk wc g 54 (((cs.setIfInBounds (hd * 3) (.int .i64 0)).setIfInBounds (hd * 3 + 1) (.int .u64 0)).setIfInBounds (hd * 3 + 2) .nilIface) := by rw [hwx]; exact hb5.setOther _ _ hgl2
        have hR7 : Blk wc R 54 #[.int .i64 0, .int .u64 0, .nilIface] := by rw [hwx]; exact hR5.setOther _ _ (by show R ≠ l; omega)
        have hF7 : Blk wc (R + 1) 54 #[.int .i64 (h hd).t, .int .u64 (h hd).seq, .iface 46 (.pointer (some ⟨o, 0, none⟩))] := by rw [hwx]; exact hF5.setOther _ _ (by show R + 1 ≠ l; omega)
        have hfr7 : Fr l (some g) R w wc := by rw [hwx]; exact (hfr5.setCell l 2 _ (Or.inl rfl)).drewN nq2
        clear hwx hl6 hb5 hR5 hF5 hfr5 hl5 c1' c2' c2 f2
        have a1 := hR7.set 0 (.int .i64 (h hd).t)
        have a2 := a1.set 1 (.int .u64 (h hd).seq)
        have a3 := a2.set 2 (.iface 46 (.pointer (some ⟨o, 0, none⟩)))
        have r1 : wc.cell? ⟨R, 0, none⟩ = some (.int .i64 0) := hR7.cell 0
        have r2 := hR7.frozen 0
        have r3 : wc.cell? ⟨R + 1, 0, none⟩ = some (.int .i64 (h hd).t) := hF7.cell 0
        have r4 : wc.cell? ⟨R + 1, 1, none⟩ = some (.int .u64 (h hd).seq) := hF7.cell 1
        have r5 : wc.cell? ⟨R + 1, 2, none⟩ = some (.iface 46 (.pointer (some ⟨o, 0, none⟩))) := hF7.cell 2
        have r6 : (wc.setCell ⟨R, 0, none⟩ (.int .i64 (h hd).t)).cell? ⟨R, 1, none⟩ = some (.int .u64 0) := a1.cell 1
        have r7 := a1.frozen 1
        have r8 : ((wc.setCell ⟨R, 0, none⟩ (.int .i64 (h hd).t)).setCell ⟨R, 1, none⟩ (.int .u64 (h hd).seq)).cell? ⟨R, 2, none⟩ = some .nilIface := a2.cell 2
        have r9 := a2.frozen 2
        have e0 := a3.cell 0
        have e1 := a3.cell 1
        have e2 := a3.cell 2
        simp at e0 e1 e2
        have hl8 := ((hl7.setOther ⟨R, 0, none⟩ (.int .i64 (h hd).t) (by show l ≠ R; omega)).setOther ⟨R, 1, none⟩ (.int .u64 (h hd).seq) (by show l ≠ R; omega)).setOther ⟨R, 2, none⟩ (.iface 46 (.pointer (some ⟨o, 0, none⟩))) (by show l ≠ R; omega)
        have hb8 := ((hb7.setOther ⟨R, 0, none⟩ (.int .i64 (h hd).t) (by show g ≠ R; omega)).setOther ⟨R, 1, none⟩ (.int .u64 (h hd).seq) (by show g ≠ R; omega)).setOther ⟨R, 2, none⟩ (.iface 46 (.pointer (some ⟨o, 0, none⟩))) (by show g ≠ R; omega)
        have hfr8 := ((hfr7.setCell R 0 (.int .i64 (h hd).t) (Or.inr (Or.inr (Nat.le_refl _)))).setCell R 1 (.int .u64 (h hd).seq) (Or.inr (Or.inr (Nat.le_refl _)))).setCell R 2 (.iface 46 (.pointer (some ⟨o, 0, none⟩))) (Or.inr (Or.inr (Nat.le_refl _)))
        go_wp2
        (try simp only [Exit.inBlock, Exit.then])
        refine bodyPost_ret (by simp [results, Yba.results32, go_sem, e0, e1, e2]; try rfl) rfl ?_
        rw [← hh1'.out]
        refine ⟨rfl, hl8, Or.inr ⟨g, cap, _, rfl, hg, hb8, hle, hcap, hsz4, fun j r b1 b2 b3 => hcells4.out j r (by have := hh1'.out; omega) b2 b3⟩, ?_⟩
        rw [← hRv'.out]
        exact hfr8
end Go.Proofs.Ybulkeeeq
