import Derived.Test.YbulkeeeqIns
import Derived.Test.YbulkeeeqSymP
namespace Go.Proofs.Ybulkeeeq
open Go.RowKit
set_option linter.unusedVariables false

theorem fr_draws {g : Nat} {wb w w' : World} {B : Nat} (h : Fr g none B wb w) (d : Draws w w') : Fr g none B wb w' := by
  obtain ⟨n, rfl⟩ := d; exact h.drewN n

set_option maxHeartbeats 1000000 in
set_option maxRecDepth 100000 in
/-- m - a = 1: the one is laid among the others. -/
theorem sym_left (g N L a b : Nat) (cv : Nat → Nat → Int) (W : Weak (ltOf cv)) (f : Nat → Nat) (cap : Value) (wb w : World) (hr : IRow w g N f) (hfr0 : Fr g none wb.heap.size wb w) (hcmp : CmpAt g wb L cv cap) (hN : N ≤ 65536) (hab : a + 1 < b) (hb : b ≤ N) (hdom : Dom f N L) (hs : Srt (ltOf cv) f (a + 1) b) :
    Calls Yba.prog 35 #[.slice (some ⟨g, 0, none⟩) N N, .int .i64 a, .int .i64 (a + 1 : Nat), .int .i64 b, .func (.func 11) #[] #[cap]] w fun ex w' => ex = .returned (.tuple #[]) ∧ ∃ h, IRow w' g N h ∧ Merged (ltOf cv) f h a b ∧ Fr g none wb.heap.size wb w' := by
  have hr' : Hid (IRow w g N f) := hr
  have hcmp' : Hid (CmpAt g wb L cv cap) := hcmp
  have hfr0' : Hid (Fr g none wb.heap.size wb w) := hfr0
  have hdom' : Hid (Dom f N L) := hdom
  have W' : Hid (Weak (ltOf cv)) := W
  have hs' : Hid (Srt (ltOf cv) f (a + 1) b) := hs
  clear hr hcmp hfr0 hdom W hs
  obtain ⟨m, hm⟩ : ∃ x, x = a + 1 := ⟨_, rfl⟩
  rw [← hm]
  have em : (m : Int) - (a : Int) = 1 := by omega
  have hm' : Hid (m = a + 1) := hm
  have hmb : m < b := by omega
  have ham : a < m := by omega
  clear hm hab
  go_enter Yba.func35, Yba.ntmps35
  go_upto_block 0 with fail
  go_cut [10, 11, 12] from 31 to 53 (fun v10 _ _ wc => ∃ i : Nat, v10 = .int .i64 i ∧ m ≤ i ∧ i ≤ b ∧ (m < i → ltOf cv (f (i - 1)) (f a) = true) ∧ (i < b → ltOf cv (f i) (f a) = false) ∧ Draws w wc)
  case first =>
    go_wp2
    go_loopw [10, 11, 12] (fun v10 v11 _ wr => ∃ i j : Nat, v10 = .int .i64 i ∧ v11 = .int .i64 j ∧ m ≤ i ∧ i ≤ j ∧ j ≤ b ∧ (m < i → ltOf cv (f (i - 1)) (f a) = true) ∧ (j < b → ltOf cv (f j) (f a) = false) ∧ Draws w wr) (fun v10 v11 _ _ => (intOf v11).toNat - (intOf v10).toNat)
    case atStart => exact ⟨m, b, rfl, rfl, Nat.le_refl _, by omega, Nat.le_refl _, fun h => by omega, fun h => by omega, Draws.refl w⟩
    case round =>
      obtain ⟨i, j, rfl, rfl, hmi, hij, hjb, h1, h2, hdr⟩ := hrel
      have hdr' : Hid (Draws w wr) := hdr
      clear hdr
      have h1' : Hid (m < i → ltOf cv (f (i - 1)) (f a) = true) := h1
      have h2' : Hid (j < b → ltOf cv (f j) (f a) = false) := h2
      clear h1 h2
      by_cases hlt : i < j
      · have hd : decide (i < j) = true := decide_eq_true hlt
        obtain ⟨t, ht⟩ : ∃ x, x = i + j := ⟨_, rfl⟩
        have et : (i : Int) + (j : Int) = (t : Int) := by omega
        obtain ⟨h, hh⟩ : ∃ x, x = t / 2 := ⟨_, rfl⟩
        have eh : (t : Int) / 2 = (h : Int) := by omega
        have htb : t ≤ 131072 := by omega
        have hhb : h < N := by omega
        have hhj : h < j := by omega
        have hhi : i ≤ h := by omega
        have hh' : Hid (h = t / 2) := hh
        have haN : a < N := by omega
        obtain ⟨x, hx⟩ : ∃ x, x = f h := ⟨_, rfl⟩
        obtain ⟨y, hy⟩ : ∃ x, x = f a := ⟨_, rfl⟩
        have cx : wr.cell? ⟨g, h, none⟩ = some (.int .i64 x) := by rw [hx]; exact hdr'.out.cell (hr'.out.cell hhb)
        have cy : wr.cell? ⟨g, a, none⟩ = some (.int .i64 y) := by rw [hy]; exact hdr'.out.cell (hr'.out.cell haN)
        obtain ⟨c, hcv⟩ : ∃ c, c = cv x y := ⟨_, rfl⟩
        have hc : Hid (∀ n, Calls Yba.prog 11 #[.int .i64 x, .int .i64 y, cap] (wr.drewN n) fun ex w2 => ex = .returned (.int .i64 c) ∧ ∃ m, w2 = (wr.drewN n).drewN m) := fun n => by rw [hcv]; exact hcmp'.out _ ((fr_draws hfr0'.out hdr'.out).drewN n) x y (by rw [hx]; exact hdom'.out h hhb) (by rw [hy]; exact hdom'.out a haN)
        have hcv' : Hid (decide (c < 0) = ltOf cv (f h) (f a)) := by unfold Hid ltOf; rw [hcv, hx, hy]
        obtain ⟨h1, hh1⟩ : ∃ x, x = h + 1 := ⟨_, rfl⟩
        have eh1 : (h : Int) + 1 = (h1 : Int) := by omega
        have hh1' : Hid (h1 = h + 1) := hh1
        clear hh ht hx hy hcv hh1
        go_upto_region 5 with fail
        go_cut [50] from 40 to 50 (fun v wx => v = .bool (decide (c < 0)) ∧ Draws w wx)
        case first =>
          go_quiet (first | (go_at_call 11; exact Calls.quiet_of (hc.out _)) | fail)
          go_wp2
          go_meet
          case rel => exact ⟨rfl, hdr'.out.drewN _⟩
        case rest =>
          obtain ⟨rfl, hdr2⟩ := hcut
          have hdr2' : Hid (Draws w wc) := hdr2
          clear hdr2
          by_cases hc0 : c < 0
          · have hdc : decide (c < 0) = true := decide_eq_true hc0
            have hl9 : Hid (ltOf cv (f h) (f a) = true) := by unfold Hid; rw [← hcv'.out]; exact hdc
            clear cx cy hc
            go_wp2
            refine ⟨⟨h1, j, rfl, rfl, ?_, ?_, hjb, fun _ => ?_, h2'.out, hdr2'.out⟩, ?_⟩
            · have := hh1'.out; omega
            · have := hh1'.out; omega
            · rw [hh1'.out, Nat.add_sub_cancel]; exact hl9.out
            · have := hh1'.out; simp [intOf]; omega
          · have hdc : decide (c < 0) = false := decide_eq_false hc0
            have hl9 : Hid (ltOf cv (f h) (f a) = false) := by unfold Hid; rw [← hcv'.out]; exact hdc
            clear cx cy hc
            go_wp2
            refine ⟨⟨i, h, rfl, rfl, hmi, hhi, by omega, h1'.out, fun _ => hl9.out, hdr2'.out⟩, ?_⟩
            simp [intOf]; omega
      · have hd : decide (i < j) = false := decide_eq_false hlt
        obtain rfl : i = j := by omega
        go_wp2
        go_meet
        case rel => exact ⟨i, rfl, hmi, hjb, h1'.out, h2'.out, hdr'.out⟩
  case rest =>
    obtain ⟨i, rfl, hmi, hib, h1, h2, hdr⟩ := hcut
    have hdr' : Hid (Draws w wc) := hdr
    clear hdr
    have hmg : Hid (Merged (ltOf cv) f (rot f a (a + 1) i) a b) := ins_left W'.out (by rw [← hm'.out]; exact hmi) hib hs'.out (fun h => h1 (by rw [hm'.out]; exact h)) h2
    obtain ⟨i1, hi1⟩ : ∃ x, x = i - 1 := ⟨_, rfl⟩
    have ei1 : (i : Int) - 1 = (i1 : Int) := by omega
    have hi1' : Hid (i1 = i - 1) := hi1
    clear h1 h2 hi1
    go_upto_block 2 with fail
    go_wp2
    go_loopw [13] (fun v13 wr => ∃ k : Nat, v13 = .int .i64 k ∧ a ≤ k ∧ k ≤ i1 ∧ IRow wr g N (rot f a (a + 1) (k + 1)) ∧ Fr g none wb.heap.size wb wr) (fun v13 _ => i1 - (intOf v13).toNat)
    case atStart => exact ⟨a, rfl, Nat.le_refl _, by have := hi1'.out; omega, by rw [rot_none_up]; exact hr'.out.below (hdr'.out.below (Below.refl _ w)), fr_draws hfr0'.out hdr'.out⟩
    case round =>
      obtain ⟨k, rfl, hak, hki, hrow, hfr⟩ := hrel
      have hrow' : Hid (IRow wr g N (rot f a (a + 1) (k + 1))) := hrow
      have hfr' : Hid (Fr g none wb.heap.size wb wr) := hfr
      by_cases hk : k < i1
      · have hd : decide (k < i1) = true := decide_eq_true hk
        obtain ⟨k1, hk1⟩ : ∃ x, x = k + 1 := ⟨_, rfl⟩
        have ek1 : (k : Int) + 1 = (k1 : Int) := by omega
        have ek1w : IntKind.i64.wrap (k1 : Int) = (k1 : Int) := wrap_nat k1 (by omega)
        have hkN : k < N := by have := hi1'.out; omega
        have hk1N : k1 < N := by have := hi1'.out; omega
        obtain ⟨x, hx⟩ : ∃ x, x = rot f a (a + 1) (k + 1) k := ⟨_, rfl⟩
        obtain ⟨y, hy⟩ : ∃ x, x = rot f a (a + 1) (k + 1) k1 := ⟨_, rfl⟩
        have cx : wr.cell? ⟨g, k, none⟩ = some (.int .i64 x) := by rw [hx]; exact hrow.cell hkN
        have cy : wr.cell? ⟨g, k1, none⟩ = some (.int .i64 y) := by rw [hy]; exact hrow.cell hk1N
        obtain ⟨cs, q1, q2, _⟩ := hrow
        have fx := q1.frozen k
        have q3 := q1.set k (.int .i64 y)
        have cy2 : (wr.setCell ⟨g, k, none⟩ (.int .i64 y)).cell? ⟨g, k1, none⟩ = some (.int .i64 y) := by rw [q3.cell, Array.getElem?_setIfInBounds_ne (by omega), ← q1.cell]; exact cy
        have fy := q3.frozen k1
        have hsw : Hid (IRow ((wr.setCell ⟨g, k, none⟩ (.int .i64 y)).setCell ⟨g, k1, none⟩ (.int .i64 x)).drew g N (rot f a (a + 1) (k1 + 1))) := by
          have := hrow'.out.swap hkN hk1N
          rw [← hx, ← hy] at this
          have e9 := rot_up f a (k + 1) (by omega)
          rw [Nat.add_sub_cancel, ← hk1] at e9
          rw [← e9, hk1]
          rw [hk1] at this
          exact this
        have hfs : Hid (Fr g none wb.heap.size wb ((wr.setCell ⟨g, k, none⟩ (.int .i64 y)).setCell ⟨g, k1, none⟩ (.int .i64 x)).drew) := fr_swap hfr k k1 _ _
        have hk1' : Hid (k1 = k + 1) := hk1
        clear hx hy hk1 q1 q2 q3 hfr hrow' hfr'
        go_upto_region 11 with fail
        go_region
        all_goals
          go_wp2
          exact ⟨⟨k1, rfl, by have := hk1'.out; omega, by have := hk1'.out; omega, hsw.out, hfs.out⟩, by have := hk1'.out; simp [intOf]; omega⟩
      · have hd : decide (k < i1) = false := decide_eq_false hk
        have hke : Hid (k + 1 = i) := by unfold Hid; have := hi1'.out; omega
        clear hrow hfr
        go_wp2
        (try simp only [Exit.inBlock, Exit.then])
        first
        | go_end0
        | refine bodyPost_ret (results_none rfl _ _ _) rfl ?_
        exact ⟨rfl, _, by rw [← hke.out] at hmg; exact hrow'.out, by rw [hke.out]; exact hmg.out, hfr'.out⟩
end Go.Proofs.Ybulkeeeq
