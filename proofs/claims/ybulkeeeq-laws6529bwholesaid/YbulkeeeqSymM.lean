import Derived.Test.YbulkeeeqSymR
namespace Go.Proofs.Ybulkeeeq
open Go.RowKit
set_option linter.unusedVariables false

/-- What symMerge is to do. -/
def SymOk (g N L : Nat) (cv : Nat → Nat → Int) (cap : Value) (wb : World) (sz : Nat) : Prop :=
  ∀ (a m b : Nat) (f : Nat → Nat) (w : World), b - a ≤ sz → a < m → m < b → b ≤ N → IRow w g N f → Fr g none wb.heap.size wb w → Dom f N L → Srt (ltOf cv) f a m → Srt (ltOf cv) f m b →
    Calls Yba.prog 35 #[.slice (some ⟨g, 0, none⟩) N N, .int .i64 a, .int .i64 m, .int .i64 b, .func (.func 11) #[] #[cap]] w fun ex w' => ex = .returned (.tuple #[]) ∧ ∃ h, IRow w' g N h ∧ Merged (ltOf cv) f h a b ∧ Fr g none wb.heap.size wb w'

set_option maxHeartbeats 2000000 in
set_option maxRecDepth 100000 in
theorem sym_main (g N L : Nat) (cv : Nat → Nat → Int) (W : Weak (ltOf cv)) (cap : Value) (wb : World) (hcmp : CmpAt g wb L cv cap) (hN : N ≤ 65536) (sz : Nat) (ih : SymOk g N L cv cap wb sz) (a m b : Nat) (f : Nat → Nat) (w : World) (hsz : b - a ≤ sz + 1) (ham : a + 1 < m) (hmb : m + 1 < b) (hb : b ≤ N) (hr : IRow w g N f) (hfr0 : Fr g none wb.heap.size wb w) (hdom : Dom f N L) (hs1 : Srt (ltOf cv) f a m) (hs2 : Srt (ltOf cv) f m b) :
    Calls Yba.prog 35 #[.slice (some ⟨g, 0, none⟩) N N, .int .i64 a, .int .i64 m, .int .i64 b, .func (.func 11) #[] #[cap]] w fun ex w' => ex = .returned (.tuple #[]) ∧ ∃ h, IRow w' g N h ∧ Merged (ltOf cv) f h a b ∧ Fr g none wb.heap.size wb w' := by
  have hr' : Hid (IRow w g N f) := hr
  have hcmp' : Hid (CmpAt g wb L cv cap) := hcmp
  have hfr0' : Hid (Fr g none wb.heap.size wb w) := hfr0
  have hdom' : Hid (Dom f N L) := hdom
  have W' : Hid (Weak (ltOf cv)) := W
  have hs1' : Hid (Srt (ltOf cv) f a m) := hs1
  have hs2' : Hid (Srt (ltOf cv) f m b) := hs2
  have ih' : Hid (SymOk g N L cv cap wb sz) := ih
  clear hr hcmp hfr0 hdom W hs1 hs2 ih
  obtain ⟨d, hd⟩ : ∃ x, x = m - a := ⟨_, rfl⟩
  have ed : (m : Int) - (a : Int) = (d : Int) := by omega
  have hd1 : ((d : Int) == 1) = false := by simp; omega
  obtain ⟨e0, he0⟩ : ∃ x, x = b - m := ⟨_, rfl⟩
  have ee0 : (b : Int) - (m : Int) = (e0 : Int) := by omega
  have he1 : ((e0 : Int) == 1) = false := by simp; omega
  obtain ⟨t, ht⟩ : ∃ x, x = a + b := ⟨_, rfl⟩
  have et : (a : Int) + (b : Int) = (t : Int) := by omega
  obtain ⟨mid, hmid⟩ : ∃ x, x = t / 2 := ⟨_, rfl⟩
  have emid : (t : Int) / 2 = (mid : Int) := by omega
  obtain ⟨n, hn⟩ : ∃ x, x = mid + m := ⟨_, rfl⟩
  have en : (mid : Int) + (m : Int) = (n : Int) := by omega
  have hmidv : Hid (mid = (a + b) / 2) := by unfold Hid; rw [hmid, ht]
  have hnv : Hid (n = mid + m) := hn
  have hamid : a < mid := by omega
  have hmidb : mid < b := by omega
  have htb : t ≤ 131072 := by omega
  have hnb : n ≤ 131072 := by omega
  have hdb : d ≤ 65536 := by omega
  have he0b : e0 ≤ 65536 := by omega
  obtain ⟨p, hp⟩ : ∃ x, x = n - 1 := ⟨_, rfl⟩
  have ep : (n : Int) - 1 = (p : Int) := by omega
  have hpv : Hid (p = n - 1) := hp
  obtain ⟨nb, hnbv⟩ : ∃ x, x = (n : Int) - b := ⟨_, rfl⟩
  have hnbv' : Hid (nb = (n : Int) - b) := hnbv
  have hpb : p ≤ 131072 := by omega
  have f1 : Hid (2 * mid ≤ a + b ∧ a + b ≤ 2 * mid + 1 ∧ n = mid + m ∧ p + 1 = n) := by unfold Hid; omega
  clear hd he0 ht hmid hn hp
  go_enter Yba.func35, Yba.ntmps35
  go_upto_if 140 with fail
  go_cut [20, 21] from 140 to 146 (fun v20 v21 wc => (∃ lo hi : Nat, v20 = .int .i64 lo ∧ v21 = .int .i64 hi ∧ ((mid < m ∧ lo = n - b ∧ hi = mid) ∨ (m ≤ mid ∧ lo = a ∧ hi = m))) ∧ wc = w)
  case first =>
    by_cases hc : mid < m
    · have hdc : decide (mid < m) = true := decide_eq_true hc
      obtain ⟨lo, hlo⟩ : ∃ x, x = n - b := ⟨_, rfl⟩
      have elo : (n : Int) - (b : Int) = (lo : Int) := by have := f1.out; omega
      have hlo' : Hid (lo = n - b) := hlo
      clear hlo hnbv
      go_wp2
      go_meet
      case rel => exact ⟨⟨lo, mid, rfl, rfl, Or.inl ⟨hc, hlo'.out, rfl⟩⟩, rfl⟩
    · have hdc : decide (mid < m) = false := decide_eq_false hc
      clear hnbv
      go_wp2
      go_meet
      case rel => exact ⟨⟨a, m, rfl, rfl, Or.inr ⟨by omega, rfl, rfl⟩⟩, rfl⟩
  case rest =>
    obtain ⟨⟨lo, hi, rfl, rfl, hlh⟩, hwc⟩ := hcut
    have hwc2 := hwc.symm
    clear hwc
    subst hwc2
    have hlh' : Hid ((mid < m ∧ lo = n - b ∧ hi = mid) ∨ (m ≤ mid ∧ lo = a ∧ hi = m)) := hlh
    have hlob : lo ≤ hi ∧ hi ≤ m ∧ a ≤ lo ∧ p + 1 ≤ lo + b ∧ hi ≤ mid ∧ m ≤ p + 1 := by have := f1.out; omega
    obtain ⟨q1, q2, q3, q4, q5, q6⟩ := hlob
    clear hlh hnbv
    go_upto_block 8 with fail
    go_cut [20, 21, 23] from 149 to 174 (fun v20 _ _ wc => ∃ s : Nat, v20 = .int .i64 s ∧ Parted (ltOf cv) f a m b mid n s ∧ Draws w wc)
    case first =>
      go_wp2
      go_loopw [20, 21, 23] (fun v20 v21 _ wr => ∃ s r : Nat, v20 = .int .i64 s ∧ v21 = .int .i64 r ∧ lo ≤ s ∧ s ≤ r ∧ r ≤ hi ∧ (lo < s → ltOf cv (f (n - 1 - (s - 1))) (f (s - 1)) = false) ∧ (r < hi → ltOf cv (f (n - 1 - r)) (f r) = true) ∧ Draws w wr) (fun v20 v21 _ _ => (intOf v21).toNat - (intOf v20).toNat)
      case atStart => exact ⟨lo, hi, rfl, rfl, Nat.le_refl _, q1, Nat.le_refl _, fun h => by omega, fun h => by omega, Draws.refl w⟩
      case round =>
        obtain ⟨s, r, rfl, rfl, hls, hsr, hrh, h1, h2, hdr⟩ := hrel
        have hdr' : Hid (Draws w wr) := hdr
        have h1' : Hid (lo < s → ltOf cv (f (n - 1 - (s - 1))) (f (s - 1)) = false) := h1
        have h2' : Hid (r < hi → ltOf cv (f (n - 1 - r)) (f r) = true) := h2
        clear h1 h2 hdr
        by_cases hlt : s < r
        · have hdd : decide (s < r) = true := decide_eq_true hlt
          obtain ⟨u, hu⟩ : ∃ x, x = s + r := ⟨_, rfl⟩
          have eu : (s : Int) + (r : Int) = (u : Int) := by omega
          obtain ⟨c, hcv⟩ : ∃ x, x = u / 2 := ⟨_, rfl⟩
          have ec : (u : Int) / 2 = (c : Int) := by omega
          have hub : u ≤ 131072 := by omega
          have hcs : s ≤ c := by omega
          have hcr : c < r := by omega
          obtain ⟨pc, hpc⟩ : ∃ x, x = p - c := ⟨_, rfl⟩
          have epc : (p : Int) - (c : Int) = (pc : Int) := by omega
          have hpcN : pc < N := by omega
          have hcN : c < N := by omega
          have epcw : IntKind.i64.wrap (pc : Int) = (pc : Int) := wrap_nat pc (by omega)
          obtain ⟨x, hx⟩ : ∃ x, x = f pc := ⟨_, rfl⟩
          obtain ⟨y, hy⟩ : ∃ x, x = f c := ⟨_, rfl⟩
          have cx : wr.cell? ⟨g, pc, none⟩ = some (.int .i64 x) := by rw [hx]; exact hdr'.out.cell (hr'.out.cell hpcN)
          have cy : wr.cell? ⟨g, c, none⟩ = some (.int .i64 y) := by rw [hy]; exact hdr'.out.cell (hr'.out.cell hcN)
          obtain ⟨cc, hcc⟩ : ∃ c, c = cv x y := ⟨_, rfl⟩
          have hcl : Hid (∀ n, Calls Yba.prog 11 #[.int .i64 x, .int .i64 y, cap] (wr.drewN n) fun ex w2 => ex = .returned (.int .i64 cc) ∧ ∃ m, w2 = (wr.drewN n).drewN m) := fun n => by rw [hcc]; exact hcmp'.out _ ((fr_draws hfr0'.out hdr'.out).drewN n) x y (by rw [hx]; exact hdom'.out pc hpcN) (by rw [hy]; exact hdom'.out c hcN)
          have hcc' : Hid (decide (cc < 0) = ltOf cv (f (n - 1 - c)) (f c)) := by unfold Hid ltOf; rw [hcc, hx, hy, hpc, hpv.out]
          obtain ⟨c1, hc1⟩ : ∃ x, x = c + 1 := ⟨_, rfl⟩
          have ec1 : (c : Int) + 1 = (c1 : Int) := by omega
          have hc1' : Hid (c1 = c + 1) := hc1
          obtain ⟨bb, hbb⟩ : ∃ b, b = !decide (cc < 0) := ⟨_, rfl⟩
          have hbb' : Hid (bb = !decide (cc < 0)) := hbb
          clear hu hcv hpc hx hy hcc hc1 hbb
          go_upto_region 35 with fail
          go_cut [171] from 158 to 171 (fun v wx => v = .bool bb ∧ Draws w wx)
          case first =>
            go_quiet (first | (go_at_call 11; exact Calls.quiet_of (hcl.out _)) | fail)
            go_wp2
            go_meet
            case rel => exact ⟨by rw [hbb'.out], hdr'.out.drewN _⟩
          case rest =>
            obtain ⟨rfl, hdr2⟩ := hcut
            have hdr2' : Hid (Draws w wc) := hdr2
            clear hdr2
            cases bb with
            | false =>
              have hl9 : Hid (ltOf cv (f (n - 1 - c)) (f c) = true) := by
                unfold Hid; rw [← hcc'.out]; have := hbb'.out
                cases h9 : decide (cc < 0) with
                | true => rfl
                | false => rw [h9] at this; simp at this
              clear cx cy hcl
              go_wp2
              refine ⟨⟨s, c, rfl, rfl, hls, hcs, by omega, h1'.out, fun _ => hl9.out, hdr2'.out⟩, ?_⟩
              simp [intOf]; omega
            | true =>
              have hl9 : Hid (ltOf cv (f (n - 1 - c)) (f c) = false) := by
                unfold Hid; rw [← hcc'.out]; have := hbb'.out
                cases h9 : decide (cc < 0) with
                | true => rw [h9] at this; simp at this
                | false => rfl
              clear cx cy hcl
              go_wp2
              refine ⟨⟨c1, r, rfl, rfl, ?_, ?_, hrh, fun _ => ?_, h2'.out, hdr2'.out⟩, ?_⟩
              · have := hc1'.out; omega
              · have := hc1'.out; omega
              · rw [hc1'.out, Nat.add_sub_cancel]; exact hl9.out
              · have := hc1'.out; simp [intOf]; omega
        · have hdd : decide (s < r) = false := decide_eq_false hlt
          obtain rfl : s = r := by omega
          have hpart : Hid (Parted (ltOf cv) f a m b mid n s) := parted_of hmidv.out hnv.out (by omega) (by omega) hlh'.out hls hrh h1'.out h2'.out
          go_wp2
          go_meet
          case rel => exact ⟨s, rfl, hpart.out, hdr'.out⟩
    case rest =>
      obtain ⟨s, rfl, hpt, hdr⟩ := hcut
      have hpt' : Hid (Parted (ltOf cv) f a m b mid n s) := hpt
      have hdr' : Hid (Draws w wc) := hdr
      have p1 := hpt.a_s
      have p2 := hpt.s_m
      have p3 := hpt.m_e
      have p4 := hpt.e_b
      obtain ⟨e, he⟩ : ∃ x, x = n - s := ⟨_, rfl⟩
      have ee : (n : Int) - (s : Int) = (e : Int) := by have := f1.out; omega
      rw [← he] at p3 p4
      have hsmid : s ≤ mid := by have := f1.out; omega
      have hmide : mid ≤ e := by have := f1.out; omega
      have he' : Hid (e = n - s) := he
      have hparts := rot_parts W'.out hnv.out hmidv.out (by omega) (by omega) hs1'.out hs2'.out hpt
      rw [← he] at hparts
      obtain ⟨r1, r2, r3, r4, r5⟩ := hparts
      have r1' : Hid (Srt (ltOf cv) (rot f s m e) a s) := r1
      have r2' : Hid (Srt (ltOf cv) (rot f s m e) s mid) := r2
      have r3' : Hid (Srt (ltOf cv) (rot f s m e) mid e) := r3
      have r4' : Hid (Srt (ltOf cv) (rot f s m e) e b) := r4
      have r5' : Hid (∀ i j, a ≤ i → i < mid → mid ≤ j → j < b → ltOf cv (rot f s m e j) (rot f s m e i) = false) := r5
      have hwr : Hid (Within f (rot f s m e) a b) := (rot_within f p2 p3).mono p1 p4
      have hdm : Hid (Dom (rot f s m e) N L) := hdom'.out.within hwr.out hb
      obtain ⟨wd, hwd⟩ : ∃ x, x = wc := ⟨_, rfl⟩
      subst hwd
      have hrd : Hid (IRow wd g N f) := hr'.out.below (hdr.below (Below.refl _ w))
      have hfd : Hid (Fr g none wb.heap.size wb wd) := fr_draws hfr0'.out hdr
      obtain ⟨b1, hb1⟩ : ∃ x, x = (decide (s < m) && decide (m < e)) := ⟨_, rfl⟩
      have hb1' : Hid (b1 = (decide (s < m) && decide (m < e))) := hb1
      clear hpt hdr he r1 r2 r3 r4 r5 hb1
      go_upto_region 39 with fail
      go_cut [185] from 178 to 185 (fun v wx => v = .bool b1 ∧ wx = wd)
      case first =>
        by_cases c1 : s < m
        · have d1 : decide (s < m) = true := decide_eq_true c1
          go_wp2
          go_meet
          case rel => exact ⟨by rw [hb1'.out]; simp [c1], rfl⟩
        · have d1 : decide (s < m) = false := decide_eq_false c1
          go_wp2
          go_meet
          case rel => exact ⟨by rw [hb1'.out]; simp [c1], rfl⟩
      case rest =>
        obtain ⟨rfl, hwx⟩ := hcut
        have hwx2 := hwx.symm
        clear hwx
        subst hwx2
        go_upto_if 185 with fail
        go_cut [] from 185 to 191 (fun wx => IRow wx g N (rot f s m e) ∧ Fr g none wb.heap.size wb wx)
        case first =>
          cases b1 with
          | true =>
            have c1 : s < m ∧ m < e := by have := hb1'.out; simp at this; exact this
            have hcall := rotate_calls g N s m e f (.func (.func 11) #[] #[cap]) wd hrd.out hN c1.1 c1.2 (by omega)
            clear c1
            go_wp2_with (go_at_call 48; refine hcall.mono ?_; rintro ex w5 ⟨rfl, q7, q8⟩)
            go_meet
            case rel => exact ⟨q7, hfd.out.then q8⟩
          | false =>
            have hsame : Hid (rot f s m e = f) := by
              unfold Hid
              by_cases c1 : s = m
              · rw [c1]; exact rot_same_left f m e p3
              · have : m = e := by have := hb1'.out; simp at this; omega
                rw [← this]; exact rot_same_right f s m p2
            go_wp2
            go_meet
            case rel => exact ⟨by rw [hsame.out]; exact hrd.out, hfd.out⟩
        case rest =>
          obtain ⟨hR, hF⟩ := hcut
          have hR' : Hid (IRow wc g N (rot f s m e)) := hR
          have hF' : Hid (Fr g none wb.heap.size wb wc) := hF
          obtain ⟨we, hwe⟩ : ∃ x, x = wc := ⟨_, rfl⟩
          subst hwe
          obtain ⟨b2, hb2⟩ : ∃ x, x = (decide (a < s) && decide (s < mid)) := ⟨_, rfl⟩
          have hb2' : Hid (b2 = (decide (a < s) && decide (s < mid))) := hb2
          clear hR hF hb2
          go_upto_region 41 with fail
          go_cut [199] from 192 to 199 (fun v wx => v = .bool b2 ∧ wx = we)
          case first =>
            by_cases c1 : a < s
            · have d1 : decide (a < s) = true := decide_eq_true c1
              go_wp2
              go_meet
              case rel => exact ⟨by rw [hb2'.out]; simp [c1], rfl⟩
            · have d1 : decide (a < s) = false := decide_eq_false c1
              go_wp2
              go_meet
              case rel => exact ⟨by rw [hb2'.out]; simp [c1], rfl⟩
          case rest =>
            obtain ⟨rfl, hwx⟩ := hcut
            have hwx2 := hwx.symm
            clear hwx
            subst hwx2
            go_upto_if 199 with fail
            go_cut [] from 199 to 205 (fun wx => ∃ h1, IRow wx g N h1 ∧ Merged (ltOf cv) (rot f s m e) h1 a mid ∧ Fr g none wb.heap.size wb wx)
            case first =>
              cases b2 with
              | true =>
                have c1 : a < s ∧ s < mid := by have := hb2'.out; simp at this; exact this
                have hcall := ih'.out a s mid (rot f s m e) we (by omega) c1.1 c1.2 (by omega) hR'.out hF'.out hdm.out r1'.out r2'.out
                clear c1
                go_wp2_with (go_at_call 35; refine hcall.mono ?_; rintro ex w5 ⟨rfl, h1, q7, q8, q9⟩)
                go_meet
                case rel => exact ⟨h1, q7, q8, q9⟩
              | false =>
                have hsrt : Hid (Srt (ltOf cv) (rot f s m e) a mid) := by
                  unfold Hid
                  have := hb2'.out
                  simp at this
                  by_cases c1 : a < s
                  · have e9 : s = mid := by have := this c1; omega
                    rw [← e9]; exact r1'.out
                  · have e9 : a = s := by omega
                    rw [e9]; exact r2'.out
                go_wp2
                go_meet
                case rel => exact ⟨_, hR'.out, ⟨Within.refl _ _ _, hsrt.out⟩, hF'.out⟩
            case rest =>
              obtain ⟨h1, k1, k2, k3⟩ := hcut
              have k1' : Hid (IRow wc g N h1) := k1
              have k2' : Hid (Merged (ltOf cv) (rot f s m e) h1 a mid) := k2
              have k3' : Hid (Fr g none wb.heap.size wb wc) := k3
              have hs3 : Hid (Srt (ltOf cv) h1 mid e) := fun i j x1 x2 x3 => by rw [k2.1.1 i (Or.inr x1), k2.1.1 j (Or.inr (by omega))]; exact r3'.out i j x1 x2 x3
              have hs4 : Hid (Srt (ltOf cv) h1 e b) := fun i j x1 x2 x3 => by rw [k2.1.1 i (Or.inr (by omega)), k2.1.1 j (Or.inr (by omega))]; exact r4'.out i j x1 x2 x3
              have hdm2 : Hid (Dom h1 N L) := hdm.out.within (k2.1.mono (Nat.le_refl _) (Nat.le_of_lt hmidb)) hb
              obtain ⟨b3, hb3⟩ : ∃ x, x = (decide (mid < e) && decide (e < b)) := ⟨_, rfl⟩
              have hb3' : Hid (b3 = (decide (mid < e) && decide (e < b))) := hb3
              obtain ⟨wg, hwg⟩ : ∃ x, x = wc := ⟨_, rfl⟩
              subst hwg
              clear k1 k2 k3 hb3
              go_upto_region 43 with fail
              go_cut [213] from 206 to 213 (fun v wx => v = .bool b3 ∧ wx = wg)
              case first =>
                by_cases c1 : mid < e
                · have d1 : decide (mid < e) = true := decide_eq_true c1
                  go_wp2
                  go_meet
                  case rel => exact ⟨by rw [hb3'.out]; simp [c1], rfl⟩
                · have d1 : decide (mid < e) = false := decide_eq_false c1
                  go_wp2
                  go_meet
                  case rel => exact ⟨by rw [hb3'.out]; simp [c1], rfl⟩
              case rest =>
                obtain ⟨rfl, hwx⟩ := hcut
                have hwx2 := hwx.symm
                clear hwx
                subst hwx2
                cases b3 with
                | true =>
                  have c1 : mid < e ∧ e < b := by have := hb3'.out; simp at this; exact this
                  have hcall := ih'.out mid e b h1 wg (by omega) c1.1 c1.2 hb k1'.out k3'.out hdm2.out hs3.out hs4.out
                  clear c1
                  go_wp2_with (go_at_call 35; refine hcall.mono ?_; rintro ex w5 ⟨rfl, h2, q7, q8, q9⟩)
                  (try simp only [Exit.inBlock, Exit.then])
                  go_end0
                  have hm9 := merged_halves W'.out (Nat.le_of_lt hamid) (Nat.le_of_lt hmidb) r5'.out k2'.out q8
                  exact ⟨rfl, h2, q7, ⟨hwr.out.trans hm9.1, hm9.2⟩, q9⟩
                | false =>
                  have hsrt : Hid (Srt (ltOf cv) h1 mid b) := by
                    unfold Hid
                    have := hb3'.out
                    simp at this
                    by_cases c1 : mid < e
                    · have e9 : e = b := by have := this c1; omega
                      rw [← e9]; exact hs3.out
                    · have e9 : mid = e := by omega
                      rw [e9]; exact hs4.out
                  go_wp2
                  (try simp only [Exit.inBlock, Exit.then])
                  go_end0
                  have hm9 := merged_halves W'.out (Nat.le_of_lt hamid) (Nat.le_of_lt hmidb) r5'.out k2'.out (show Merged (ltOf cv) h1 h1 mid b from ⟨Within.refl _ _ _, hsrt.out⟩)
                  exact ⟨rfl, h1, k1'.out, ⟨hwr.out.trans hm9.1, hm9.2⟩, k3'.out⟩

theorem symMerge_calls (g N L : Nat) (cv : Nat → Nat → Int) (W : Weak (ltOf cv)) (cap : Value) (wb : World) (hcmp : CmpAt g wb L cv cap) (hN : N ≤ 65536) : ∀ sz, SymOk g N L cv cap wb sz
  | 0 => fun a m b f w hsz ham hmb hb hr hfr hd h1 h2 => by omega
  | sz + 1 => fun a m b f w hsz ham hmb hb hr hfr hd h1 h2 => by
    by_cases c1 : m = a + 1
    · subst c1
      exact sym_left g N L a b cv W f cap wb w hr hfr hcmp hN hmb hb hd h2
    · by_cases c2 : b = m + 1
      · subst c2
        exact sym_right g N L a m cv W f cap wb w hr hfr hcmp hN (by omega) hb hd h1
      · exact sym_main g N L cv W cap wb hcmp hN sz (symMerge_calls g N L cv W cap wb hcmp hN sz) a m b f w hsz (by omega) (by omega) hb hr hfr hd h1 h2
end Go.Proofs.Ybulkeeeq
