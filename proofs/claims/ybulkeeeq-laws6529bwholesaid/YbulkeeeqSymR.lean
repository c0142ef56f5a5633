import Derived.Test.YbulkeeeqSym
namespace Go.Proofs.Ybulkeeeq
open Go.RowKit
set_option linter.unusedVariables false

set_option maxHeartbeats 1000000 in
set_option maxRecDepth 100000 in
/-- b - m = 1: the one is laid among the others. -/
theorem sym_right (g N L a m : Nat) (cv : Nat → Nat → Int) (W : Weak (ltOf cv)) (f : Nat → Nat) (cap : Value) (wb w : World) (hr : IRow w g N f) (hfr0 : Fr g none wb.heap.size wb w) (hcmp : CmpAt g wb L cv cap) (hN : N ≤ 65536) (ham : a + 1 < m) (hb : m + 1 ≤ N) (hdom : Dom f N L) (hs : Srt (ltOf cv) f a m) :
    Calls Yba.prog 35 #[.slice (some ⟨g, 0, none⟩) N N, .int .i64 a, .int .i64 m, .int .i64 (m + 1 : Nat), .func (.func 11) #[] #[cap]] w fun ex w' => ex = .returned (.tuple #[]) ∧ ∃ h, IRow w' g N h ∧ Merged (ltOf cv) f h a (m + 1) ∧ Fr g none wb.heap.size wb w' := by
  have hr' : Hid (IRow w g N f) := hr
  have hcmp' : Hid (CmpAt g wb L cv cap) := hcmp
  have hfr0' : Hid (Fr g none wb.heap.size wb w) := hfr0
  have hdom' : Hid (Dom f N L) := hdom
  have W' : Hid (Weak (ltOf cv)) := W
  have hs' : Hid (Srt (ltOf cv) f a m) := hs
  clear hr hcmp hfr0 hdom W hs
  obtain ⟨b, hbv⟩ : ∃ x, x = m + 1 := ⟨_, rfl⟩
  rw [← hbv]
  have eb : (b : Int) - (m : Int) = 1 := by omega
  obtain ⟨d, hd⟩ : ∃ x, x = m - a := ⟨_, rfl⟩
  have ed : (m : Int) - (a : Int) = (d : Int) := by omega
  have hd1 : ((d : Int) == 1) = false := by simp; omega
  have hbv' : Hid (b = m + 1) := hbv
  have hdb : d ≤ 65536 := by omega
  have hmN : m < N := by omega
  have hbN : b ≤ N := by omega
  clear hbv hd
  go_enter Yba.func35, Yba.ntmps35
  go_upto_block 4 with fail
  go_cut [14, 15, 16] from 83 to 106 (fun v14 _ _ wc => ∃ i : Nat, v14 = .int .i64 i ∧ a ≤ i ∧ i ≤ m ∧ (a < i → ltOf cv (f m) (f (i - 1)) = false) ∧ (i < m → ltOf cv (f m) (f i) = true) ∧ Draws w wc)
  case first =>
    go_wp2
    go_loopw [14, 15, 16] (fun v14 v15 _ wr => ∃ i j : Nat, v14 = .int .i64 i ∧ v15 = .int .i64 j ∧ a ≤ i ∧ i ≤ j ∧ j ≤ m ∧ (a < i → ltOf cv (f m) (f (i - 1)) = false) ∧ (j < m → ltOf cv (f m) (f j) = true) ∧ Draws w wr) (fun v14 v15 _ _ => (intOf v15).toNat - (intOf v14).toNat)
    case atStart => exact ⟨a, m, rfl, rfl, Nat.le_refl _, by omega, Nat.le_refl _, fun h => by omega, fun h => by omega, Draws.refl w⟩
    case round =>
      obtain ⟨i, j, rfl, rfl, hmi, hij, hjb, h1, h2, hdr⟩ := hrel
      have hdr' : Hid (Draws w wr) := hdr
      have h1' : Hid (a < i → ltOf cv (f m) (f (i - 1)) = false) := h1
      have h2' : Hid (j < m → ltOf cv (f m) (f j) = true) := h2
      clear h1 h2 hdr
      by_cases hlt : i < j
      · have hdd : decide (i < j) = true := decide_eq_true hlt
        obtain ⟨t, ht⟩ : ∃ x, x = i + j := ⟨_, rfl⟩
        have et : (i : Int) + (j : Int) = (t : Int) := by omega
        obtain ⟨h, hh⟩ : ∃ x, x = t / 2 := ⟨_, rfl⟩
        have eh : (t : Int) / 2 = (h : Int) := by omega
        have htb : t ≤ 131072 := by omega
        have hhb : h < N := by omega
        have hhj : h < j := by omega
        have hhi : i ≤ h := by omega
        obtain ⟨x, hx⟩ : ∃ x, x = f m := ⟨_, rfl⟩
        obtain ⟨y, hy⟩ : ∃ x, x = f h := ⟨_, rfl⟩
        have cx : wr.cell? ⟨g, m, none⟩ = some (.int .i64 x) := by rw [hx]; exact hdr'.out.cell (hr'.out.cell hmN)
        have cy : wr.cell? ⟨g, h, none⟩ = some (.int .i64 y) := by rw [hy]; exact hdr'.out.cell (hr'.out.cell hhb)
        obtain ⟨c, hcv⟩ : ∃ c, c = cv x y := ⟨_, rfl⟩
        have hc : Hid (∀ n, Calls Yba.prog 11 #[.int .i64 x, .int .i64 y, cap] (wr.drewN n) fun ex w2 => ex = .returned (.int .i64 c) ∧ ∃ m, w2 = (wr.drewN n).drewN m) := fun n => by rw [hcv]; exact hcmp'.out _ ((fr_draws hfr0'.out hdr'.out).drewN n) x y (by rw [hx]; exact hdom'.out m hmN) (by rw [hy]; exact hdom'.out h hhb)
        have hcv' : Hid (decide (c < 0) = ltOf cv (f m) (f h)) := by unfold Hid ltOf; rw [hcv, hx, hy]
        obtain ⟨h1, hh1⟩ : ∃ x, x = h + 1 := ⟨_, rfl⟩
        have eh1 : (h : Int) + 1 = (h1 : Int) := by omega
        have hh1' : Hid (h1 = h + 1) := hh1
        clear hh ht hx hy hcv hh1
        go_upto_region 17 with fail
        obtain ⟨bb, hbb⟩ : ∃ b, b = !decide (c < 0) := ⟨_, rfl⟩
        have hbb' : Hid (bb = !decide (c < 0)) := hbb
        clear hbb
        go_cut [103] from 92 to 103 (fun v wx => v = .bool bb ∧ Draws w wx)
        case first =>
          go_quiet (first | (go_at_call 11; exact Calls.quiet_of (hc.out _)) | fail)
          go_wp2
          go_meet
          case rel => exact ⟨by rw [hbb'.out], hdr'.out.drewN _⟩
        case rest =>
          obtain ⟨rfl, hdr2⟩ := hcut
          have hdr2' : Hid (Draws w wc) := hdr2
          clear hdr2
          cases bb with
          | false =>
            have hl9 : Hid (ltOf cv (f m) (f h) = true) := by
              unfold Hid; rw [← hcv'.out]; have := hbb'.out
              cases h9 : decide (c < 0) with
              | true => rfl
              | false => rw [h9] at this; simp at this
            clear cx cy hc
            go_wp2
            refine ⟨⟨i, h, rfl, rfl, hmi, hhi, by omega, h1'.out, fun _ => hl9.out, hdr2'.out⟩, ?_⟩
            simp [intOf]; omega
          | true =>
            have hl9 : Hid (ltOf cv (f m) (f h) = false) := by
              unfold Hid; rw [← hcv'.out]; have := hbb'.out
              cases h9 : decide (c < 0) with
              | true => rw [h9] at this; simp at this
              | false => rfl
            clear cx cy hc
            go_wp2
            refine ⟨⟨h1, j, rfl, rfl, ?_, ?_, hjb, fun _ => ?_, h2'.out, hdr2'.out⟩, ?_⟩
            · have := hh1'.out; omega
            · have := hh1'.out; omega
            · rw [hh1'.out, Nat.add_sub_cancel]; exact hl9.out
            · have := hh1'.out; simp [intOf]; omega
      · have hdd : decide (i < j) = false := decide_eq_false hlt
        obtain rfl : i = j := by omega
        go_wp2
        go_meet
        case rel => exact ⟨i, rfl, hmi, hjb, h1'.out, h2'.out, hdr'.out⟩
  case rest =>
    obtain ⟨i, rfl, hai, him, h1, h2, hdr⟩ := hcut
    have hdr' : Hid (Draws w wc) := hdr
    have hmg : Hid (Merged (ltOf cv) f (rot f i m (m + 1)) a (m + 1)) := ins_right W'.out hai him hs'.out h1 h2
    clear h1 h2 hdr
    go_upto_block 6 with fail
    go_wp2
    go_loopw [17] (fun v17 wr => ∃ k : Nat, v17 = .int .i64 k ∧ i ≤ k ∧ k ≤ m ∧ IRow wr g N (rot f k m (m + 1)) ∧ Fr g none wb.heap.size wb wr) (fun v17 _ => (intOf v17).toNat)
    case atStart => exact ⟨m, rfl, him, Nat.le_refl _, by rw [rot_none_down]; exact hr'.out.below (hdr'.out.below (Below.refl _ w)), fr_draws hfr0'.out hdr'.out⟩
    case round =>
      obtain ⟨k, rfl, hik, hkm, hrow, hfr⟩ := hrel
      have hrow' : Hid (IRow wr g N (rot f k m (m + 1))) := hrow
      have hfr' : Hid (Fr g none wb.heap.size wb wr) := hfr
      by_cases hk : i < k
      · have hdd : decide (i < k) = true := decide_eq_true hk
        obtain ⟨k1, hk1⟩ : ∃ x, x = k - 1 := ⟨_, rfl⟩
        have ek1 : (k : Int) - 1 = (k1 : Int) := by omega
        have ek1w : IntKind.i64.wrap (k1 : Int) = (k1 : Int) := wrap_nat k1 (by omega)
        have hkN : k < N := by omega
        have hk1N : k1 < N := by omega
        obtain ⟨x, hx⟩ : ∃ x, x = rot f k m (m + 1) k := ⟨_, rfl⟩
        obtain ⟨y, hy⟩ : ∃ x, x = rot f k m (m + 1) k1 := ⟨_, rfl⟩
        have cx : wr.cell? ⟨g, k, none⟩ = some (.int .i64 x) := by rw [hx]; exact hrow.cell hkN
        have cy : wr.cell? ⟨g, k1, none⟩ = some (.int .i64 y) := by rw [hy]; exact hrow.cell hk1N
        obtain ⟨cs, q1, q2, _⟩ := hrow
        have fx := q1.frozen k
        have q3 := q1.set k (.int .i64 y)
        have cy2 : (wr.setCell ⟨g, k, none⟩ (.int .i64 y)).cell? ⟨g, k1, none⟩ = some (.int .i64 y) := by rw [q3.cell, Array.getElem?_setIfInBounds_ne (by omega), ← q1.cell]; exact cy
        have fy := q3.frozen k1
        have hsw : Hid (IRow ((wr.setCell ⟨g, k, none⟩ (.int .i64 y)).setCell ⟨g, k1, none⟩ (.int .i64 x)).drew g N (rot f k1 m (m + 1))) := by
          have := hrow'.out.swap hkN hk1N
          rw [← hx, ← hy] at this
          have e9 := rot_down f m k (by omega) hkm
          rw [← hk1] at e9
          rw [← e9]
          exact this
        have hfs : Hid (Fr g none wb.heap.size wb ((wr.setCell ⟨g, k, none⟩ (.int .i64 y)).setCell ⟨g, k1, none⟩ (.int .i64 x)).drew) := fr_swap hfr k k1 _ _
        have hk1' : Hid (k1 = k - 1) := hk1
        clear hx hy hk1 q1 q2 q3 hfr hrow' hfr'
        go_upto_region 23 with fail
        go_region
        all_goals
          go_wp2
          exact ⟨⟨k1, rfl, by have := hk1'.out; omega, by have := hk1'.out; omega, hsw.out, hfs.out⟩, by have := hk1'.out; simp [intOf]; omega⟩
      · have hdd : decide (i < k) = false := decide_eq_false hk
        have hke : Hid (k = i) := by unfold Hid; omega
        clear hrow hfr
        go_wp2
        (try simp only [Exit.inBlock, Exit.then])
        first
        | go_end0
        | refine bodyPost_ret (results_none rfl _ _ _) rfl ?_
        exact ⟨rfl, _, hrow'.out, by rw [hke.out, hbv'.out]; exact hmg.out, hfr'.out⟩
end Go.Proofs.Ybulkeeeq
