import Derived.Test.YbulkeeeqSymM
namespace Go.Proofs.Ybulkeeeq
open Go.RowKit
set_option linter.unusedVariables false

theorem dvd_gap {d x a : Nat} (h1 : d ∣ x) (h2 : d ∣ a) (h : x < a) : x + d ≤ a := by
  have := Nat.le_of_dvd (by omega) (Nat.dvd_sub h2 h1)
  omega
/-- Every block of bs is sorted. -/
def SB (lt : Nat → Nat → Bool) (bs n : Nat) (h : Nat → Nat) : Prop := ∀ x, bs ∣ x → Srt lt h x (min (x + bs) n)
theorem Srt.keep {lt : Nat → Nat → Bool} {f g : Nat → Nat} {a b x y : Nat} (h : Srt lt f x y) (w : Within f g a b) (hd : y ≤ a ∨ b ≤ x) : Srt lt g x y := fun i j h1 h2 h3 => by
  rw [w.1 i (by omega), w.1 j (by omega)]; exact h i j h1 h2 h3
theorem SB.first {lt : Nat → Nat → Bool} {n a bs : Nat} {h h' : Nat → Nat} (hbs : 0 < bs) (ha : bs ∣ a) (han : a ≤ n) (hov : n < a + bs) (hl : ∀ x, bs ∣ x → x < a → Srt lt h x (x + bs)) (m : Merged lt h h' a n) : SB lt bs n h' := by
  intro x hx
  by_cases c1 : x < a
  · have hg := dvd_gap hx ha c1
    have := (hl x hx c1).keep m.1 (Or.inl hg)
    rw [Nat.min_eq_left (by omega)]; exact this
  · by_cases c2 : x = a
    · subst c2; rw [Nat.min_eq_right (by omega)]; exact m.2
    · have hg := dvd_gap ha hx (by omega)
      intro i j h1 h2 h3
      have := Nat.min_le_right (x + bs) n
      omega
/-- While blocks of bs are merged to blocks of twice that. -/
structure Half (lt : Nat → Nat → Bool) (bs n a : Nat) (h : Nat → Nat) : Prop where
  dv : 2 * bs ∣ a
  an : a ≤ n
  lo : ∀ x, 2 * bs ∣ x → x < a → Srt lt h x (x + 2 * bs)
  hi : ∀ x, bs ∣ x → a ≤ x → Srt lt h x (min (x + bs) n)
theorem Half.start {lt : Nat → Nat → Bool} {bs n : Nat} {h : Nat → Nat} (s : SB lt bs n h) : Half lt bs n 0 h := ⟨Nat.dvd_zero _, Nat.zero_le _, fun x _ hx => by omega, fun x hx _ => s x hx⟩
theorem dvd_of_two {bs a : Nat} (h : 2 * bs ∣ a) : bs ∣ a := Nat.dvd_trans ⟨2, by omega⟩ h
theorem Half.left {lt : Nat → Nat → Bool} {bs n a : Nat} {h : Nat → Nat} (s : Half lt bs n a h) (hm : a + bs ≤ n) : Srt lt h a (a + bs) := by
  have := s.hi a (dvd_of_two s.dv) (Nat.le_refl _)
  rw [Nat.min_eq_left hm] at this; exact this
theorem Half.right {lt : Nat → Nat → Bool} {bs n a : Nat} {h : Nat → Nat} (s : Half lt bs n a h) (e : Nat) (he : e = min (a + bs + bs) n) : Srt lt h (a + bs) e := by
  rw [he]; exact s.hi (a + bs) (Nat.dvd_add (dvd_of_two s.dv) (Nat.dvd_refl _)) (by omega)
theorem Half.step {lt : Nat → Nat → Bool} {bs n a : Nat} {h h' : Nat → Nat} (s : Half lt bs n a h) (hm : a + 2 * bs ≤ n) (m : Merged lt h h' a (a + 2 * bs)) : Half lt bs n (a + 2 * bs) h' := by
  refine ⟨Nat.dvd_add s.dv (Nat.dvd_refl _), hm, fun x hx hlt => ?_, fun x hx hle => ?_⟩
  · by_cases c1 : x < a
    · exact (s.lo x hx c1).keep m.1 (Or.inl (dvd_gap hx s.dv c1))
    · by_cases c2 : x = a
      · subst c2; exact m.2
      · have := dvd_gap s.dv hx (by omega); omega
  · exact (s.hi x hx (by omega)).keep m.1 (Or.inr hle)
theorem Half.done {lt : Nat → Nat → Bool} {bs n a : Nat} {h h' : Nat → Nat} (hbs : 0 < bs) (s : Half lt bs n a h) (hov : n < a + 2 * bs) (m : Merged lt h h' a n) : SB lt (2 * bs) n h' :=
  SB.first (by omega) s.dv s.an hov s.lo m
theorem SB.all {lt : Nat → Nat → Bool} {bs n : Nat} {h : Nat → Nat} (s : SB lt bs n h) (hb : n ≤ bs) : Srt lt h 0 n := by
  have := s 0 (Nat.dvd_zero _)
  rw [Nat.zero_add, Nat.min_eq_right hb] at this; exact this

set_option maxHeartbeats 2000000 in
set_option maxRecDepth 100000 in
theorem stable_calls (g N L : Nat) (cv : Nat → Nat → Int) (W : Weak (ltOf cv)) (f : Nat → Nat) (cap : Value) (wb w : World) (hr : IRow w g N f) (hfr0 : Fr g none wb.heap.size wb w) (hcmp : CmpAt g wb L cv cap) (hN : N ≤ 65536) (hdom : Dom f N L) :
    Calls Yba.prog 21 #[.slice (some ⟨g, 0, none⟩) N N, .int .i64 N, .func (.func 11) #[] #[cap]] w fun ex w' => ex = .returned (.tuple #[]) ∧ ∃ h, IRow w' g N h ∧ Merged (ltOf cv) f h 0 N ∧ Fr g none wb.heap.size wb w' := by
  have hr' : Hid (IRow w g N f) := hr
  have hcmp' : Hid (CmpAt g wb L cv cap) := hcmp
  have hfr0' : Hid (Fr g none wb.heap.size wb w) := hfr0
  have hdom' : Hid (Dom f N L) := hdom
  have W' : Hid (Weak (ltOf cv)) := W
  have hsym : Hid (∀ sz, SymOk g N L cv cap wb sz) := symMerge_calls g N L cv W cap wb hcmp hN
  clear hr hcmp hfr0 hdom W
  go_enter Yba.func21, Yba.ntmps21
  go_upto_block 0 with fail
  go_cut [7, 8] from 11 to 22 (fun v7 _ wc => ∃ (a : Nat) (h : Nat → Nat), v7 = .int .i64 a ∧ 20 ∣ a ∧ a ≤ N ∧ N < a + 20 ∧ IRow wc g N h ∧ Within f h 0 N ∧ (∀ x, 20 ∣ x → x < a → Srt (ltOf cv) h x (x + 20)) ∧ Fr g none wb.heap.size wb wc)
  case first =>
    go_wp2
    go_loopw [7, 8] (fun v7 v8 wr => ∃ (a b : Nat) (h : Nat → Nat), v7 = .int .i64 a ∧ v8 = .int .i64 b ∧ b = a + 20 ∧ 20 ∣ a ∧ a ≤ N ∧ IRow wr g N h ∧ Within f h 0 N ∧ (∀ x, 20 ∣ x → x < a → Srt (ltOf cv) h x (x + 20)) ∧ Fr g none wb.heap.size wb wr) (fun _ v8 _ => N + 21 - (intOf v8).toNat)
    case atStart => exact ⟨0, 20, f, rfl, rfl, rfl, Nat.dvd_zero _, Nat.zero_le _, hr'.out, Within.refl _ _ _, fun x _ h => by omega, hfr0'.out⟩
    case round =>
      obtain ⟨a, b, h, rfl, rfl, hba, hda, haN, hrow, hwi, hso, hfr⟩ := hrel
      have hda' : Hid (20 ∣ a) := hda
      have hba' : Hid (b = a + 20) := hba
      have hwi' : Hid (Within f h 0 N) := hwi
      have hso' : Hid (∀ x, 20 ∣ x → x < a → Srt (ltOf cv) h x (x + 20)) := hso
      have hrow' : Hid (IRow wr g N h) := hrow
      have hfr' : Hid (Fr g none wb.heap.size wb wr) := hfr
      have hbb : b ≤ 65556 := by omega
      by_cases hb : b ≤ N
      · have hdb : decide (b ≤ N) = true := decide_eq_true hb
        have hcall := insertion_calls g N L a b cv W'.out h cap wb wr hrow hfr hcmp'.out hN (by omega) hb (hdom'.out.within hwi (Nat.le_refl _))
        obtain ⟨b2, hb2⟩ : ∃ x, x = b + 20 := ⟨_, rfl⟩
        have eb2 : (b : Int) + 20 = (b2 : Int) := by omega
        have hb2' : Hid (b2 = b + 20) := hb2
        clear hda hba hwi hso hrow hfr hb2
        go_wp2_with (go_at_call 34; refine hcall.mono ?_; rintro ex w5 ⟨rfl, h2, q1, q2, q3⟩)
        refine ⟨⟨b, b2, h2, rfl, rfl, hb2'.out, ?_, hb, q1, hwi'.out.trans (q2.1.mono (Nat.zero_le _) hb), fun x hx hlt => ?_, q3⟩, ?_⟩
        · rw [hba'.out]; exact Nat.dvd_add hda'.out (Nat.dvd_refl _)
        · by_cases c1 : x < a
          · exact (hso'.out x hx c1).keep q2.1 (Or.inl (dvd_gap hx hda'.out c1))
          · by_cases c2 : x = a
            · subst c2; rw [← hba'.out]; exact q2.2
            · have := dvd_gap hda'.out hx (by omega); have := hba'.out; omega
        · have := hb2'.out; simp [intOf]; omega
      · have hdb : decide (b ≤ N) = false := decide_eq_false hb
        clear hda hba hwi hso hrow hfr
        go_wp2
        go_meet
        case rel => exact ⟨a, h, rfl, hda'.out, haN, by have := hba'.out; omega, hrow'.out, hwi'.out, hso'.out, hfr'.out⟩
  case rest =>
    obtain ⟨a, h, rfl, hda, haN, hov, hrow, hwi, hso, hfr⟩ := hcut
    have hcall := insertion_calls g N L a N cv W'.out h cap wb wc hrow hfr hcmp'.out hN haN (Nat.le_refl _) (hdom'.out.within hwi (Nat.le_refl _))
    have hpost : Hid (∀ h2, Merged (ltOf cv) h h2 a N → SB (ltOf cv) 20 N h2 ∧ Within f h2 0 N) := fun h2 m => ⟨SB.first (by omega) hda haN hov hso m, hwi.trans (m.1.mono (Nat.zero_le _) (Nat.le_refl _))⟩
    clear hda hwi hso hrow hfr
    go_upto_block 2 with (go_at_call 34; refine hcall.mono ?_; rintro ex w5 ⟨rfl, h2, q1, q2, q3⟩)
    have q1' : Hid (IRow w5 g N h2) := q1
    have q2' : Hid (SB (ltOf cv) 20 N h2 ∧ Within f h2 0 N) := hpost.out h2 q2
    have q3' : Hid (Fr g none wb.heap.size wb w5) := q3
    clear q1 q2 q3 hcall hpost
    go_wp2
    go_loopw [6, 7, 8, 9] (fun v6 _ _ _ wr => ∃ (bs : Nat) (h : Nat → Nat), v6 = .int .i64 bs ∧ 0 < bs ∧ bs ≤ 131072 ∧ IRow wr g N h ∧ Within f h 0 N ∧ SB (ltOf cv) bs N h ∧ Fr g none wb.heap.size wb wr) (fun v6 _ _ _ _ => N - (intOf v6).toNat)
    case atStart => exact ⟨20, h2, rfl, by omega, by omega, q1'.out, q2'.out.2, q2'.out.1, q3'.out⟩
    case round =>
      obtain ⟨bs, h, rfl, hp, hbb, hrow, hwi, hsb, hfr⟩ := hrel
      have hrow' : Hid (IRow wr g N h) := hrow
      have hwi' : Hid (Within f h 0 N) := hwi
      have hsb' : Hid (SB (ltOf cv) bs N h) := hsb
      have hfr' : Hid (Fr g none wb.heap.size wb wr) := hfr
      clear hrow hwi hsb hfr q1' q2' q3'
      by_cases hc : bs < N
      · have hdc : decide (bs < N) = true := decide_eq_true hc
        obtain ⟨b2, hb2⟩ : ∃ x, x = 2 * bs := ⟨_, rfl⟩
        have eb2 : 2 * (bs : Int) = (b2 : Int) := by omega
        have eb3 : (bs : Int) * 2 = (b2 : Int) := by omega
        have hb2b : b2 ≤ 131072 := by omega
        have hb2' : Hid (b2 = 2 * bs) := hb2
        clear hb2
        go_upto_block 4 with fail
        go_cut [7, 8] from 33 to 48 (fun v7 _ wc => ∃ (a : Nat) (h2 : Nat → Nat), v7 = .int .i64 a ∧ N < a + b2 ∧ Half (ltOf cv) bs N a h2 ∧ IRow wc g N h2 ∧ Within f h2 0 N ∧ Fr g none wb.heap.size wb wc)
        case first =>
          go_wp2
          go_loopw [7, 8] (fun v7 v8 wx => ∃ (a b : Nat) (h2 : Nat → Nat), v7 = .int .i64 a ∧ v8 = .int .i64 b ∧ b = a + b2 ∧ Half (ltOf cv) bs N a h2 ∧ IRow wx g N h2 ∧ Within f h2 0 N ∧ Fr g none wb.heap.size wb wx) (fun _ v8 _ => N + b2 + 1 - (intOf v8).toNat)
          case atStart => exact ⟨0, b2, h, rfl, rfl, (Nat.zero_add _).symm, Half.start hsb'.out, hrow'.out, hwi'.out, hfr'.out⟩
          case round =>
            obtain ⟨a, b, h2, rfl, rfl, hba, hh, hrow, hwi, hfr⟩ := hrel
            have haN := hh.an
            have hba' : Hid (b = a + b2) := hba
            have hh' : Hid (Half (ltOf cv) bs N a h2) := hh
            have hrow2 : Hid (IRow wr g N h2) := hrow
            have hwi2 : Hid (Within f h2 0 N) := hwi
            have hfr2 : Hid (Fr g none wb.heap.size wb wr) := hfr
            have hbb2 : b ≤ 200000 := by omega
            by_cases hb : b ≤ N
            · have hdb : decide (b ≤ N) = true := decide_eq_true hb
              obtain ⟨m, hm⟩ : ∃ x, x = a + bs := ⟨_, rfl⟩
              have em : (a : Int) + (bs : Int) = (m : Int) := by omega
              have hb22 := hb2'.out
              have hcall := hsym.out (b - a) a m b h2 wr (Nat.le_refl _) (by omega) (by omega) hb hrow hfr (hdom'.out.within hwi (Nat.le_refl _)) (by rw [hm]; exact hh.left (by omega)) (by rw [hm]; exact hh.right b (by rw [Nat.min_eq_left (by omega)]; omega))
              obtain ⟨b3, hb3⟩ : ∃ x, x = b + b2 := ⟨_, rfl⟩
              have eb4 : (b : Int) + (b2 : Int) = (b3 : Int) := by omega
              have hb3' : Hid (b3 = b + b2) := hb3
              clear hm hb3 hba hh hrow hwi hfr hb22
              go_wp2_with (go_at_call 35; refine hcall.mono ?_; rintro ex w6 ⟨rfl, h3, k1, k2, k3⟩)
              have e9 : b = a + 2 * bs := by rw [hba'.out, hb2'.out]
              refine ⟨⟨b, b3, h3, rfl, rfl, hb3'.out, ?_, k1, hwi2.out.trans (k2.1.mono (Nat.zero_le _) hb), k3⟩, ?_⟩
              · rw [e9] at k2 hb ⊢; exact hh'.out.step hb k2
              · have := hb3'.out; have := hb2'.out; simp [intOf]; omega
            · have hdb : decide (b ≤ N) = false := decide_eq_false hb
              clear hba hh hrow hwi hfr
              go_wp2
              go_meet
              case rel => exact ⟨a, h2, rfl, by have := hba'.out; omega, hh'.out, hrow2.out, hwi2.out, hfr2.out⟩
        case rest =>
          obtain ⟨a, h2, rfl, hov, hh, hrow, hwi, hfr⟩ := hcut
          have haN := hh.an
          have hh' : Hid (Half (ltOf cv) bs N a h2) := hh
          have hrow2 : Hid (IRow wc g N h2) := hrow
          have hwi2 : Hid (Within f h2 0 N) := hwi
          have hfr2 : Hid (Fr g none wb.heap.size wb wc) := hfr
          obtain ⟨m, hm⟩ : ∃ x, x = a + bs := ⟨_, rfl⟩
          have em : (a : Int) + (bs : Int) = (m : Int) := by omega
          have hmb : m ≤ 200000 := by omega
          have hm' : Hid (m = a + bs) := hm
          by_cases hmN : m < N
          · have hdm : decide (m < N) = true := decide_eq_true hmN
            have hb22 := hb2'.out
            have hcall := hsym.out (N - a) a m N h2 wc (Nat.le_refl _) (by omega) hmN (Nat.le_refl _) hrow hfr (hdom'.out.within hwi (Nat.le_refl _)) (by rw [hm]; exact hh.left (by omega)) (by rw [hm]; exact hh.right N (by rw [Nat.min_eq_right (by omega)]))
            clear hm hh hrow hwi hfr hb22
            go_wp2_with (go_at_call 35; refine hcall.mono ?_; rintro ex w6 ⟨rfl, h3, k1, k2, k3⟩)
            refine ⟨⟨b2, h3, rfl, by have := hb2'.out; omega, hb2b, k1, hwi2.out.trans (k2.1.mono (Nat.zero_le _) (Nat.le_refl _)), ?_, k3⟩, by have := hb2'.out; simp [intOf]; omega⟩
            rw [hb2'.out]
            exact hh'.out.done hp (by have := hb2'.out; omega) k2
          · have hdm : decide (m < N) = false := decide_eq_false hmN
            have hsrt : Hid (Srt (ltOf cv) h2 a N) := by
              have := hh.hi a (dvd_of_two hh.dv) (Nat.le_refl _)
              rw [Nat.min_eq_right (by omega)] at this; exact this
            clear hm hh hrow hwi hfr
            go_wp2
            refine ⟨⟨b2, h2, rfl, by have := hb2'.out; omega, hb2b, hrow2.out, hwi2.out, ?_, hfr2.out⟩, by have := hb2'.out; simp [intOf]; omega⟩
            rw [hb2'.out]
            exact hh'.out.done hp (by have := hb2'.out; omega) ⟨Within.refl _ _ _, hsrt.out⟩
      · have hdc : decide (bs < N) = false := decide_eq_false hc
        go_wp2
        (try simp only [Exit.inBlock, Exit.then])
        go_end0
        exact ⟨rfl, h, hrow'.out, ⟨hwi'.out, hsb'.out.all (by omega)⟩, hfr'.out⟩

set_option maxHeartbeats 1000000 in
theorem sortStable_calls (g N L : Nat) (cv : Nat → Nat → Int) (W : Weak (ltOf cv)) (f : Nat → Nat) (cap : Value) (wb w : World) (hr : IRow w g N f) (hfr0 : Fr g none wb.heap.size wb w) (hcmp : CmpAt g wb L cv cap) (hN : N ≤ 65536) (hdom : Dom f N L) :
    Calls Yba.prog 10 #[.slice (some ⟨g, 0, none⟩) N N, .func (.func 11) #[] #[cap]] w fun ex w' => ex = .returned (.tuple #[]) ∧ ∃ h, IRow w' g N h ∧ Merged (ltOf cv) f h 0 N ∧ Fr g none wb.heap.size wb w' := by
  have hcall := stable_calls g N L cv W f cap wb w hr hfr0 hcmp hN hdom
  clear hr hfr0 hcmp hdom W
  go_enter Yba.func10, Yba.ntmps10
  go_wp2_with (go_at_call 21; refine hcall.mono ?_; rintro ex w6 ⟨rfl, hpost⟩)
  go_end0
  exact ⟨rfl, hpost⟩
end Go.Proofs.Ybulkeeeq
