import Derived.Test.YbulkeeeqLcut
namespace Go.Proofs.Ybulkeeeq
open Go.RowKit
set_option linter.unusedVariables false

set_option maxHeartbeats 4000000 in
set_option maxRecDepth 100000 in
theorem lpop_comp (l n hd base : Nat) (dly : Int) (wf : Nat → Value) (v : Value) (h : Nat → Ev) (w : World) (hl : Blk w l 42 #[.int .i64 dly, v, .int .i64 hd]) (hr : EvFrom w base wf v hd n h) (hlb : l < base) (hlt : hd < n) (hn : n ≤ 1000000) (hwf : ∀ s, ∃ o, wf s = .iface 46 (.pointer (some ⟨o, 0, none⟩)))
    (hno : 64 < hd + 1 ∧ n < 2 * (hd + 1)) :
    Calls Yba.prog 32 #[.pointer (some ⟨l, 0, none⟩)] w fun ex w' => ex = .returned (.agg #[.int .i64 (h hd).t, .int .u64 (h hd).seq, wf (h hd).seq]) ∧ ∃ v', Blk w' l 42 #[.int .i64 dly, v', .int .i64 0] ∧ EvFrom w' base wf v' 0 (n - (hd + 1)) (fun j => h (hd + 1 + j)) ∧ v'.ownBlock = v.ownBlock ∧ Fr l v.ownBlock w.heap.size w w' := by
  have hll := hl.lt
  rcases hr with ⟨_, h0⟩ | ⟨g, cap, cs, rfl, hg, hb, hle, hcap, hsz, hcells⟩
  · omega
  have hgl := hb.lt
  have hgl2 : g ≠ l := by omega
  obtain ⟨o, ho⟩ := hwf (h hd).seq
  have cf0 : w.cell? ⟨g, hd * 3, none⟩ = some (.int .i64 (h hd).t) := by rw [hb.cell]; exact hcells hd 0 (Nat.le_refl _) hlt (by omega)
  have cf1 : w.cell? ⟨g, hd * 3 + 1, none⟩ = some (.int .u64 (h hd).seq) := by rw [hb.cell]; exact hcells hd 1 (Nat.le_refl _) hlt (by omega)
  have cf2 : w.cell? ⟨g, hd * 3 + 2, none⟩ = some (.iface 46 (.pointer (some ⟨o, 0, none⟩))) := by rw [hb.cell, ← ho]; exact hcells hd 2 (Nat.le_refl _) hlt (by omega)
  rw [ho]
  have hcells' : Hid (∀ j r, hd ≤ j → j < n → r < 3 → cs[j * 3 + r]? = some (evC wf (h j) r)) := hcells
  have c1 := hl.cell 1
  have c2 := hl.cell 2
  simp at c1 c2
  have hwf' : Hid (∀ s, ∃ o, wf s = .iface 46 (.pointer (some ⟨o, 0, none⟩))) := hwf
  clear hcells ho hwf
  go_enter Yba.func32, Yba.ntmps32
  go_upto_region 1 with fail
  go_cut [3] from 5 to 14 (fun v3 wc => v3 = .pointer (some ⟨w.heap.size + 1, 0, none⟩) ∧ Below w.heap.size w wc ∧ wc.heap.size = w.heap.size + 2 ∧ Blk wc w.heap.size 54 #[.int .i64 0, .int .u64 0, .nilIface] ∧ Blk wc (w.heap.size + 1) 54 #[.int .i64 (h hd).t, .int .u64 (h hd).seq, .iface 46 (.pointer (some ⟨o, 0, none⟩))])
  case first =>
    go_region
    all_goals
      go_wp2
      go_meet
      case rel =>
        refine ⟨rfl, ?_, by simp, (Blk.new w 54 _).alloc _, ?_⟩
        · exact Below.trans (((Below.refl _ w).alloc (Nat.le_refl _) _).alloc (by simp) _) ⟨rfl, rfl, rfl, Nat.le_refl _, fun _ _ => rfl⟩
        · have := Blk.new (w.alloc (Obj.cells #[Value.int IntKind.i64 0, Value.int IntKind.u64 0, Value.nilIface] 54)) 54 #[Value.int IntKind.i64 (h hd).t, Value.int IntKind.u64 (h hd).seq, Value.iface 46 (Value.pointer (some ⟨o, 0, none⟩))]
          simp at this
          exact this
  case rest =>
    obtain ⟨rfl, hbw, hs2, hR, hF⟩ := hcut
    obtain ⟨R, hRv⟩ : ∃ x, x = w.heap.size := ⟨_, rfl⟩
    have hb1 := hb.below hbw hgl
    have hl1 := hl.below hbw hll
    have hRv' : Hid (R = w.heap.size) := hRv
    have hfr1 : Fr l (some g) R w wc := by rw [hRv]; exact Fr.of_below hbw
    simp only [← hRv] at hR hF hs2 hll hgl ⊢
    clear hRv hbw hb hl cf0 cf1 cf2 c1 c2
    have c1 := hl1.cell 1
    have c2 := hl1.cell 2
    simp at c1 c2
    obtain ⟨y0, hy0⟩ : ∃ y, wc.cell? ⟨g, hd * 3, none⟩ = some y := ⟨_, by rw [hb1.cell]; exact Array.getElem?_eq_getElem (by omega)⟩
    have f0 := hb1.frozen (hd * 3)
    have hb2 := hb1.set (hd * 3) (.int .i64 0)
    obtain ⟨y1, hy1⟩ : ∃ y, (wc.setCell ⟨g, hd * 3, none⟩ (.int .i64 0)).cell? ⟨g, hd * 3 + 1, none⟩ = some y := ⟨_, by rw [hb2.cell]; exact Array.getElem?_eq_getElem (by simp; omega)⟩
    have f1 := hb2.frozen (hd * 3 + 1)
    have hb3 := hb2.set (hd * 3 + 1) (.int .u64 0)
    obtain ⟨y2, hy2⟩ : ∃ y, ((wc.setCell ⟨g, hd * 3, none⟩ (.int .i64 0)).setCell ⟨g, hd * 3 + 1, none⟩ (.int .u64 0)).cell? ⟨g, hd * 3 + 2, none⟩ = some y := ⟨_, by rw [hb3.cell]; exact Array.getElem?_eq_getElem (by simp; omega)⟩
    have f2 := hb3.frozen (hd * 3 + 2)
    have hb4 := hb3.set (hd * 3 + 2) .nilIface
    have hoth : ∀ {q : Nat} {T : TypeId} {ds : Array Value}, Blk wc q T ds → q ≠ g → Blk (((wc.setCell ⟨g, hd * 3, none⟩ (.int .i64 0)).setCell ⟨g, hd * 3 + 1, none⟩ (.int .u64 0)).setCell ⟨g, hd * 3 + 2, none⟩ .nilIface) q T ds := fun hq hne =>
      ((hq.setOther ⟨g, hd * 3, none⟩ _ hne).setOther ⟨g, hd * 3 + 1, none⟩ _ hne).setOther ⟨g, hd * 3 + 2, none⟩ _ hne
    have hl4 := hoth hl1 (Ne.symm hgl2)
    have hR4 := hoth hR (by omega)
    have hF4 := hoth hF (by omega)
    have hfr4 := ((hfr1.setCell g (hd * 3) (.int .i64 0) (Or.inr (Or.inl rfl))).setCell g (hd * 3 + 1) (.int .u64 0) (Or.inr (Or.inl rfl))).setCell g (hd * 3 + 2) .nilIface (Or.inr (Or.inl rfl))
    have hsz4 : (((cs.setIfInBounds (hd * 3) (.int .i64 0)).setIfInBounds (hd * 3 + 1) (.int .u64 0)).setIfInBounds (hd * 3 + 2) .nilIface).size = cap * 3 := by simpa using hsz
    have hcells4 : Hid (∀ j r, hd + 1 ≤ j → j < n → r < 3 → (((cs.setIfInBounds (hd * 3) (.int .i64 0)).setIfInBounds (hd * 3 + 1) (.int .u64 0)).setIfInBounds (hd * 3 + 2) .nilIface)[j * 3 + r]? = some (evC wf (h j) r)) := by
      intro j r a1 a2 a3
      rw [Array.getElem?_setIfInBounds_ne (by omega), Array.getElem?_setIfInBounds_ne (by omega), Array.getElem?_setIfInBounds_ne (by omega)]
      exact hcells'.out j r (by omega) a2 a3
    clear hoth
    go_upto_region 2 with fail
    go_cut [] from 15 to 24 (fun wx => ∃ nq, wx = (((wc.setCell ⟨g, hd * 3, none⟩ (.int .i64 0)).setCell ⟨g, hd * 3 + 1, none⟩ (.int .u64 0)).setCell ⟨g, hd * 3 + 2, none⟩ .nilIface).drewN nq)
    case first =>
      go_region
      all_goals
        go_wp2
        go_meet
        case rel => exact ⟨1, rfl⟩
    case rest =>
      obtain ⟨nq, hwx⟩ := hcut
      have hl5 : Blk wc l 42 #[.int .i64 dly, .slice (some ⟨g, 0, none⟩) n cap, .int .i64 hd] := by rw [hwx]; exact hl4
      have hb5 : Blk wc g 54 (((cs.setIfInBounds (hd * 3) (.int .i64 0)).setIfInBounds (hd * 3 + 1) (.int .u64 0)).setIfInBounds (hd * 3 + 2) .nilIface) := by rw [hwx]; exact hb4
      have hR5 : Blk wc R 54 #[.int .i64 0, .int .u64 0, .nilIface] := by rw [hwx]; exact hR4
      have hF5 : Blk wc (R + 1) 54 #[.int .i64 (h hd).t, .int .u64 (h hd).seq, .iface 46 (.pointer (some ⟨o, 0, none⟩))] := by rw [hwx]; exact hF4
      have hfr5 : Fr l (some g) R w wc := by rw [hwx]; exact hfr4.drewN nq
      clear hwx hl4 hb4 hR4 hF4 hfr4 hl1 hb1 hb2 hb3 hR hF hfr1 hs2 c1 c2 hy0 hy1 hy2 f0 f1 f2
      have c2 := hl5.cell 2
      have f2 := hl5.frozen 2
      have hl6 := hl5.set 2 (.int .i64 ((hd : Int) + 1))
      have c2' : (wc.setCell ⟨l, 2, none⟩ (.int .i64 ((hd : Int) + 1))).cell? ⟨l, 2, none⟩ = some (.int .i64 ((hd : Int) + 1)) := by rw [hl6.cell]; rfl
      have c1' : (wc.setCell ⟨l, 2, none⟩ (.int .i64 ((hd : Int) + 1))).cell? ⟨l, 1, none⟩ = some (.slice (some ⟨g, 0, none⟩) n cap) := by rw [hl6.cell]; rfl
      simp at c2
      obtain ⟨h1, hh1⟩ : ∃ x, x = hd + 1 := ⟨_, rfl⟩
      have eh1 : (hd : Int) + 1 = (h1 : Int) := by omega
      rw [eh1] at c2' c1' hl6
      have hh1' : Hid (h1 = hd + 1) := hh1
      obtain ⟨h2, hh2⟩ : ∃ x, x = 2 * h1 := ⟨_, rfl⟩
      have eh2 : 2 * (h1 : Int) = (h2 : Int) := by omega
      have hh2b : h2 ≤ 4000000 := by omega
      have hh1b : h1 ≤ 1000001 := by omega
      have hno1 : 64 < h1 := by omega
      have hno2 : n < h2 := by omega
      clear hh1 hh2 hno
      go_upto_region 4 with fail
      go_cut [49] from 32 to 49 (fun v49 wx => v49 = .bool true ∧ ∃ nq, wx = (wc.setCell ⟨l, 2, none⟩ (.int .i64 h1)).drewN nq)
      case first =>
        have hda : decide ((64 : Int) < (h1 : Int)) = true := decide_eq_true (by omega)
        have hdb : decide (n < h2) = true := decide_eq_true hno2
        go_quiet (fail)
        go_wp2
        go_meet
        case rel => exact ⟨by first | rfl | simp, _, rfl⟩
      case rest =>
        obtain ⟨rfl, nq2, hwx⟩ := hcut
        have hl7 : Blk wc l 42 #[.int .i64 dly, .slice (some ⟨g, 0, none⟩) n cap, .int .i64 h1] := by rw [hwx]; exact hl6
        have hb7 : Blk wc g 54 (((cs.setIfInBounds (hd * 3) (.int .i64 0)).setIfInBounds (hd * 3 + 1) (.int .u64 0)).setIfInBounds (hd * 3 + 2) .nilIface) := by rw [hwx]; exact hb5.setOther _ _ hgl2
        have hR7 : Blk wc R 54 #[.int .i64 0, .int .u64 0, .nilIface] := by rw [hwx]; exact hR5.setOther _ _ (by show R ≠ l; omega)
        have hF7 : Blk wc (R + 1) 54 #[.int .i64 (h hd).t, .int .u64 (h hd).seq, .iface 46 (.pointer (some ⟨o, 0, none⟩))] := by rw [hwx]; exact hF5.setOther _ _ (by show R + 1 ≠ l; omega)
        have hfr7 : Fr l (some g) R w wc := by rw [hwx]; exact (hfr5.setCell l 2 _ (Or.inl rfl)).drewN nq2
        clear hwx hl6 hb5 hR5 hF5 hfr5 hl5 c1' c2' c2 f2
        obtain ⟨ds, hds⟩ : ∃ x, x = (((cs.setIfInBounds (hd * 3) (.int .i64 0)).setIfInBounds (hd * 3 + 1) (.int .u64 0)).setIfInBounds (hd * 3 + 2) .nilIface) := ⟨_, rfl⟩
        rw [← hds] at hb7 hsz4 hcells4
        clear hds hsz
        have hh1n : h1 ≤ n := by have := hh1'.out; omega
        obtain ⟨n2, hn2⟩ : ∃ x, x = n - h1 := ⟨_, rfl⟩
        have en2 : n2 + h1 = n := by omega
        have en2' : Hid (n2 + h1 = n) := en2
        have hn2b : n2 ≤ 1000000 := by omega
        have hn2c : n2 ≤ cap := by omega
        have c1 := hl7.cell 1
        have c2 := hl7.cell 2
        simp at c1 c2
        have hcell7 : Hid (∀ j r, h1 ≤ j → j < n → r < 3 → ds[j * 3 + r]? = some (evC wf (h j) r)) := fun j r b1 b2 b3 => hcells4.out j r (by have := hh1'.out; omega) b2 b3
        obtain ⟨ds2, hsz2, hcells2, hmove⟩ : ∃ cs' : Array Value, cs'.size = cap * 3 ∧ Hid (∀ j r, j < n2 → r < 3 → cs'[j * 3 + r]? = some (evC wf (h (h1 + j)) r)) ∧
            ∀ (w' : World) ty, Blk w' g 54 ds → (Builtin.copy_ #[26, 26] ty #[.slice (some ⟨g, 0, none⟩) n cap, .slice (some ⟨g, if cap = h1 then 0 else h1 * 3, none⟩) n2 (cap - h1)]).run Yba.prog w' = .ok (goInt n2) (w'.setRow g cs') := by
          have := run_move54 g n cap h1 (if cap = h1 then 0 else h1 * 3) (cap - h1) wf h ds hh1n hle hsz4 (fun hx => if_neg (by omega)) hcell7.out hwf'.out
          rw [← hn2] at this
          exact this
        clear hcells4
        go_upto_region 5 with fail
        go_cut [4] from 50 to 63 (fun v4 wx => v4 = .int .i64 n2 ∧ ∃ nq, wx = (wc.setRow g ds2).drewN nq)
        case first =>
          have hm := hmove wc.drew 3 (by exact hb7)
          have e : (if cap = h1 then some (⟨g, 0, none⟩ : Addr) else some ⟨g, h1 * 3, none⟩) = some ⟨g, if cap = h1 then 0 else h1 * 3, none⟩ := by split <;> rfl
          rw [← e, hn2] at hm
          clear e
          clear hmove hn2 en2
          go_region
          all_goals
            go_wp2
            all_goals
              go_meet
              case rel => exact ⟨by first | rfl | (have := en2'.out; simp; omega), 1, rfl⟩
        case rest =>
          obtain ⟨rfl, nq3, hwx⟩ := hcut
          rename_i wc0
          have hl8 : Blk wc l 42 #[.int .i64 dly, .slice (some ⟨g, 0, none⟩) n cap, .int .i64 h1] := by rw [hwx]; exact setRow_blk_other hl7 _ (Ne.symm hgl2)
          have hb8 : Blk wc g 54 ds2 := by rw [hwx]; exact setRow_blk hb7 _
          have hR8 : Blk wc R 54 #[.int .i64 0, .int .u64 0, .nilIface] := by rw [hwx]; exact setRow_blk_other hR7 _ (by omega)
          have hF8 : Blk wc (R + 1) 54 #[.int .i64 (h hd).t, .int .u64 (h hd).seq, .iface 46 (.pointer (some ⟨o, 0, none⟩))] := by rw [hwx]; exact setRow_blk_other hF7 _ (by omega)
          have hfr8 : Fr l (some g) R w wc := by rw [hwx]; exact (hfr7.setRow g _ rfl).drewN nq3
          clear hwx hl7 hb7 hR7 hF7 hfr7 hmove c1 c2
          obtain ⟨zs, hzl, hcl⟩ : ∃ zs : List Value, zs.length = (n - n2) * 3 ∧ ∀ ty, (Builtin.clear_ #[26] ty #[.slice (some ⟨g, n2 * 3, none⟩) (n - n2) (cap - n2)]).run Yba.prog wc = .ok (.tuple #[]) (wc.setRow g (ds2.toList.take (n2 * 3) ++ zs ++ ds2.toList.drop (n2 * 3 + zs.length)).toArray) := by
            obtain ⟨zs, h1, h2⟩ := run_clear54 wc g (n2 * 3) (n - n2) (cap - n2) 0 ds2 54 hb8 (by omega) (by omega)
            exact ⟨zs, h1, fun ty => h2⟩
          have hcn : ¬ cap = n2 := by omega
          have hn2n : n2 ≤ n := by omega
          clear hn2 en2
          obtain ⟨ds3, hds3⟩ : ∃ x, x = (ds2.toList.take (n2 * 3) ++ zs ++ ds2.toList.drop (n2 * 3 + zs.length)).toArray := ⟨_, rfl⟩
          rw [← hds3] at hcl
          have hsz3 : ds3.size = cap * 3 := by rw [hds3]; simp [hzl]; omega
          have hcells3 : Hid (∀ j r, j < n2 → r < 3 → ds3[j * 3 + r]? = some (evC wf (h (h1 + j)) r)) := by
            intro j r b1 b2
            rw [hds3, List.getElem?_toArray, List.append_assoc, List.getElem?_append_left (by simp; omega), List.getElem?_take, if_pos (by omega)]
            simpa using hcells2.out j r b1 b2
          clear hds3 hzl hcells2 hsz2
          have c1 := hl8.cell 1
          simp at c1
          have hl9 := setRow_blk_other hl8 ds3 (Ne.symm hgl2)
          have hb9 := setRow_blk hb8 ds3
          have hR9 := setRow_blk_other hR8 ds3 (by omega : R ≠ g)
          have hF9 := setRow_blk_other hF8 ds3 (by omega : R + 1 ≠ g)
          have hfr9 := hfr8.setRow g ds3 rfl
          go_upto_region 7 with fail
          clear hl8 hb8 hR8 hF8 hfr8 c1 hcl
          obtain ⟨w9, hw9⟩ : ∃ x, x = wc.setRow g ds3 := ⟨_, rfl⟩
          rw [← hw9] at hl9 hb9 hR9 hF9 hfr9 ⊢
          clear hw9
          have c1 := hl9.cell 1
          have f1 := hl9.frozen 1
          have hlA := hl9.set 1 (.slice (some ⟨g, 0, none⟩) n2 cap)
          have c2 := hlA.cell 2
          have f2 := hlA.frozen 2
          have hlB := hlA.set 2 (.int .i64 0)
          simp at c1 c2 hlB
          have hbB := (hb9.setOther ⟨l, 1, none⟩ (.slice (some ⟨g, 0, none⟩) n2 cap) hgl2).setOther ⟨l, 2, none⟩ (.int .i64 0) hgl2
          have hRB := (hR9.setOther ⟨l, 1, none⟩ (.slice (some ⟨g, 0, none⟩) n2 cap) (by show R ≠ l; omega)).setOther ⟨l, 2, none⟩ (.int .i64 0) (by show R ≠ l; omega)
          have hFB := (hF9.setOther ⟨l, 1, none⟩ (.slice (some ⟨g, 0, none⟩) n2 cap) (by show R + 1 ≠ l; omega)).setOther ⟨l, 2, none⟩ (.int .i64 0) (by show R + 1 ≠ l; omega)
          have hfrB := (hfr9.setCell l 1 (.slice (some ⟨g, 0, none⟩) n2 cap) (Or.inl rfl)).setCell l 2 (.int .i64 0) (Or.inl rfl)
          go_upto_region 8 with fail
          clear hl9 hb9 hR9 hF9 hfr9 c1 c2 f1 f2 hlA
          obtain ⟨wB, hwB⟩ : ∃ x, x = (w9.setCell ⟨l, 1, none⟩ (.slice (some ⟨g, 0, none⟩) n2 cap)).setCell ⟨l, 2, none⟩ (.int .i64 0) := ⟨_, rfl⟩
          rw [← hwB] at hlB hbB hRB hFB hfrB ⊢
          clear hwB
          have a1 := hRB.set 0 (.int .i64 (h hd).t)
          have a2 := a1.set 1 (.int .u64 (h hd).seq)
          have a3 := a2.set 2 (.iface 46 (.pointer (some ⟨o, 0, none⟩)))
          have r1 : wB.cell? ⟨R, 0, none⟩ = some (.int .i64 0) := hRB.cell 0
          have r2 := hRB.frozen 0
          have r3 : wB.cell? ⟨R + 1, 0, none⟩ = some (.int .i64 (h hd).t) := hFB.cell 0
          have r4 : wB.cell? ⟨R + 1, 1, none⟩ = some (.int .u64 (h hd).seq) := hFB.cell 1
          have r5 : wB.cell? ⟨R + 1, 2, none⟩ = some (.iface 46 (.pointer (some ⟨o, 0, none⟩))) := hFB.cell 2
          have r6 : (wB.setCell ⟨R, 0, none⟩ (.int .i64 (h hd).t)).cell? ⟨R, 1, none⟩ = some (.int .u64 0) := a1.cell 1
          have r7 := a1.frozen 1
          have r8 : ((wB.setCell ⟨R, 0, none⟩ (.int .i64 (h hd).t)).setCell ⟨R, 1, none⟩ (.int .u64 (h hd).seq)).cell? ⟨R, 2, none⟩ = some .nilIface := a2.cell 2
          have r9 := a2.frozen 2
          have e0 := a3.cell 0
          have e1 := a3.cell 1
          have e2 := a3.cell 2
          simp at e0 e1 e2
          have hl8 := ((hlB.setOther ⟨R, 0, none⟩ (.int .i64 (h hd).t) (by show l ≠ R; omega)).setOther ⟨R, 1, none⟩ (.int .u64 (h hd).seq) (by show l ≠ R; omega)).setOther ⟨R, 2, none⟩ (.iface 46 (.pointer (some ⟨o, 0, none⟩))) (by show l ≠ R; omega)
          have hb8 := ((hbB.setOther ⟨R, 0, none⟩ (.int .i64 (h hd).t) (by show g ≠ R; omega)).setOther ⟨R, 1, none⟩ (.int .u64 (h hd).seq) (by show g ≠ R; omega)).setOther ⟨R, 2, none⟩ (.iface 46 (.pointer (some ⟨o, 0, none⟩))) (by show g ≠ R; omega)
          have hfr8 := ((hfrB.setCell R 0 (.int .i64 (h hd).t) (Or.inr (Or.inr (Nat.le_refl _)))).setCell R 1 (.int .u64 (h hd).seq) (Or.inr (Or.inr (Nat.le_refl _)))).setCell R 2 (.iface 46 (.pointer (some ⟨o, 0, none⟩))) (Or.inr (Or.inr (Nat.le_refl _)))
          go_wp2
          (try simp only [Exit.inBlock, Exit.then])
          refine bodyPost_ret (by simp [results, Yba.results32, go_sem, e0, e1, e2]; try rfl) rfl ?_
          rw [← hh1'.out]
          rw [← hRv'.out]
          refine ⟨rfl, _, hl8, Or.inr ⟨g, cap, ds3, ?_, hg, hb8, by have := en2'.out; omega, hcap, hsz3, fun j r b0 b1 b2 => hcells3.out j r (by have := en2'.out; omega) b2⟩, rfl, hfr8⟩
          rw [show n - h1 = n2 by have := en2'.out; omega]
end Go.Proofs.Ybulkeeeq
