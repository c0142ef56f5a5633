import Derived.Test.YbulkeeeqSwap
namespace Go.Proofs.Ybulkeeeq
open Go.RowKit
set_option linter.unusedVariables false

/-- What the sort asks of the function that compares: at whatever world in which nothing but block g has turned; it only reads. -/
def CmpAt (g : Nat) (wb : World) (L : Nat) (cv : Nat → Nat → Int) (cap : Value) : Prop :=
  ∀ w', Fr g none wb.heap.size wb w' → ∀ x y : Nat, x < L → y < L → Calls Yba.prog 11 #[.int .i64 x, .int .i64 y, cap] w' fun ex w2 => ex = .returned (.int .i64 (cv x y)) ∧ ∃ n, w2 = w'.drewN n
def ltOf (cv : Nat → Nat → Int) : Nat → Nat → Bool := fun x y => decide (cv x y < 0)
def Dom (f : Nat → Nat) (N L : Nat) : Prop := ∀ j, j < N → f j < L
theorem Dom.within {f g : Nat → Nat} {a b N L : Nat} (h : Dom f N L) (w : Within f g a b) (hb : b ≤ N) : Dom g N L := by
  intro j hj
  by_cases e : j < a ∨ b ≤ j
  · rw [w.1 j e]; exact h j hj
  · obtain ⟨k, k1, k2, k3⟩ := w.2 j (by omega) (by omega)
    rw [k3]; exact h k (by omega)
theorem Fr.after {g : Nat} {wb w w' : World} (h : Fr g none wb.heap.size wb w) (hb : Below w.heap.size w w') : Fr g none wb.heap.size wb w' := h.trans (Fr.of_below (hb.mono h.size))
theorem Fr.then {g : Nat} {wb w w' : World} (h : Fr g none wb.heap.size wb w) (q : Fr g none w.heap.size w w') : Fr g none wb.heap.size wb w' :=
  h.trans ⟨q.os, q.tape, q.output, q.size, fun k hk h1 h2 => q.block k (by have := h.size; omega) h1 h2⟩

theorem wrap_nat (x : Nat) (h : x ≤ 1000000) : IntKind.i64.wrap (x : Int) = (x : Int) := by
  unfold IntKind.wrap
  have e1 : (2 ^ IntKind.i64.bits : Int) = 18446744073709551616 := by decide
  have e2 : (2 ^ (IntKind.i64.bits - 1) : Int) = 9223372036854775808 := by decide
  have e3 : IntKind.i64.signed = true := rfl
  simp only [e1, e2, e3]
  rw [if_neg (by simp; omega)]; omega

set_option maxHeartbeats 1000000 in
set_option maxRecDepth 100000 in
theorem insertion_calls (g N L a b : Nat) (cv : Nat → Nat → Int) (W : Weak (ltOf cv)) (f : Nat → Nat) (cap : Value) (wb w : World) (hr : IRow w g N f) (hfr0 : Fr g none wb.heap.size wb w) (hcmp : CmpAt g wb L cv cap) (hN : N ≤ 65536) (hab : a ≤ b) (hb : b ≤ N) (hdom : Dom f N L) :
    Calls Yba.prog 34 #[.slice (some ⟨g, 0, none⟩) N N, .int .i64 a, .int .i64 b, .func (.func 11) #[] #[cap]] w fun ex w' => ex = .returned (.tuple #[]) ∧ ∃ h, IRow w' g N h ∧ Merged (ltOf cv) f h a b ∧ Fr g none wb.heap.size wb w' := by
  have hr' : Hid (IRow w g N f) := hr
  have hcmp' : Hid (CmpAt g wb L cv cap) := hcmp
  have hfr0' : Hid (Fr g none wb.heap.size wb w) := hfr0
  have hdom' : Hid (Dom f N L) := hdom
  have W' : Hid (Weak (ltOf cv)) := W
  clear hr hcmp hfr0 hdom W
  obtain ⟨a1, ha1⟩ : ∃ x, x = a + 1 := ⟨_, rfl⟩
  have ea1 : (a : Int) + 1 = (a1 : Int) := by omega
  have ha1' : Hid (a1 = a + 1) := ha1
  have ha1b : a1 ≤ 65537 := by omega
  clear ha1
  go_enter Yba.func34, Yba.ntmps34
  go_upto_block 0 with fail
  go_wp2
  go_loopw [8, 9] (fun v8 _ wr => ∃ (i : Nat) (h : Nat → Nat), v8 = .int .i64 i ∧ a < i ∧ (i ≤ b ∨ i = a + 1) ∧ IRow wr g N h ∧ Within f h a b ∧ Srt (ltOf cv) h a i ∧ Fr g none wb.heap.size wb wr) (fun v8 _ _ => N + 1 - (intOf v8).toNat)
  case atStart => exact ⟨a1, f, rfl, by have := ha1'.out; omega, Or.inr ha1'.out, hr'.out, Within.refl f a b, fun p q h1 h2 h3 => by have := ha1'.out; rw [show p = a by omega, show q = a by omega]; exact W'.out.refl _, hfr0'.out⟩
  case round =>
    obtain ⟨i, h, rfl, hai, hib, hrow, hwi, hso, hfr⟩ := hrel
    have hrow' : Hid (IRow wr g N h) := hrow
    have hwi' : Hid (Within f h a b) := hwi
    have hso' : Hid (Srt (ltOf cv) h a i) := hso
    have hfr' : Hid (Fr g none wb.heap.size wb wr) := hfr
    clear hrow hwi hso hfr
    by_cases hi : i < b
    · have hdi : decide (i < b) = true := decide_eq_true hi
      obtain ⟨i1, hi1⟩ : ∃ x, x = i + 1 := ⟨_, rfl⟩
      have ei1 : (i : Int) + 1 = (i1 : Int) := by omega
      have hi1' : Hid (i1 = i + 1) := hi1
      clear hi1 hib
      obtain ⟨wo, hwo⟩ : ∃ x, x = wr := ⟨_, rfl⟩
      subst hwo
      go_upto_block 1 with fail
      go_cut [9] from 17 to 52 (fun _ wc => ∃ h2, IRow wc g N h2 ∧ Within f h2 a b ∧ Srt (ltOf cv) h2 a (i + 1) ∧ Fr g none wb.heap.size wb wc)
      case first =>
        go_wp2
        go_loopw [9] (fun v9 wx => ∃ (j : Nat) (h2 : Nat → Nat), v9 = .int .i64 j ∧ IRow wx g N h2 ∧ Within f h2 a b ∧ Down (ltOf cv) h2 a i j ∧ Fr g none wb.heap.size wb wx) (fun v9 _ => (intOf v9).toNat)
        case atStart => exact ⟨i, h, rfl, hrow'.out, hwi'.out, Down.start hso'.out (by omega), hfr'.out⟩
        case round =>
          obtain ⟨j, h2, rfl, hrow, hwi, hdn, hfr⟩ := hrel
          have haj := hdn.aj
          have hji := hdn.ji
          have hrow2' : Hid (IRow wr g N h2) := hrow
          have hwi2' : Hid (Within f h2 a b) := hwi
          have hdn' : Hid (Down (ltOf cv) h2 a i j) := hdn
          have hfr2' : Hid (Fr g none wb.heap.size wb wr) := hfr
          by_cases hj : a < j
          · have hdj : decide (a < j) = true := decide_eq_true hj
            obtain ⟨j1, hj1⟩ : ∃ x, x = j - 1 := ⟨_, rfl⟩
            have ej1 : (j : Int) - 1 = (j1 : Int) := by omega
            have ej1w : IntKind.i64.wrap (j1 : Int) = (j1 : Int) := wrap_nat j1 (by omega)
            have hj1N : j1 < N := by omega
            have hjN : j < N := by omega
            have hd2 := hdom'.out.within hwi hb
            obtain ⟨x, hx⟩ : ∃ x, x = h2 j := ⟨_, rfl⟩
            obtain ⟨y, hy⟩ : ∃ x, x = h2 j1 := ⟨_, rfl⟩
            have cx : wr.cell? ⟨g, j, none⟩ = some (.int .i64 x) := by rw [hx]; exact hrow.cell hjN
            have cy : wr.cell? ⟨g, j1, none⟩ = some (.int .i64 y) := by rw [hy]; exact hrow.cell hj1N
            have hc : Hid (∀ nq, Calls Yba.prog 11 #[.int .i64 x, .int .i64 y, cap] (wr.drewN nq) fun ex w2 => ex = .returned (.int .i64 (cv x y)) ∧ ∃ m, w2 = (wr.drewN nq).drewN m) := fun nq => hcmp'.out _ (hfr.drewN nq) x y (by rw [hx]; exact hd2 j hjN) (by rw [hy]; exact hd2 j1 hj1N)
            obtain ⟨c, hcv⟩ : ∃ c, c = cv x y := ⟨_, rfl⟩
            rw [← hcv] at hc
            have hcv' : Hid (c = cv x y) := hcv
            have hx' : Hid (x = h2 j) := hx
            have hy' : Hid (y = h2 j1) := hy
            have hj1' : Hid (j1 = j - 1) := hj1
            clear hcv hx hy hd2 hj1
            go_upto_region 4 with fail
            go_cut [34] from 18 to 34 (fun v wx => v = .bool (decide (c < 0)) ∧ ∃ nq, wx = wr.drewN nq)
            case first =>
              go_quiet (first | (go_at_call 11; exact Calls.quiet_of (hc.out _)) | fail)
              go_wp2
              go_meet
              case rel => exact ⟨rfl, _, rfl⟩
            case rest =>
              obtain ⟨rfl, nq, hwx⟩ := hcut
              have hrow3 : IRow wc g N h2 := by rw [hwx]; exact hrow2'.out.below (below_drewN (Below.refl _ wr) nq)
              have hfr3 : Hid (Fr g none wb.heap.size wb wc) := by rw [hwx]; exact hfr2'.out.drewN nq
              by_cases hc0 : c < 0
              · have hdc : decide (c < 0) = true := decide_eq_true hc0
                have cx3 : wc.cell? ⟨g, j, none⟩ = some (.int .i64 x) := by rw [hx'.out]; exact hrow3.cell hjN
                have cy3 : wc.cell? ⟨g, j1, none⟩ = some (.int .i64 y) := by rw [hy'.out]; exact hrow3.cell hj1N
                have hrow3' : Hid (IRow wc g N h2) := hrow3
                obtain ⟨cs, q1, q2, _⟩ := hrow3
                have fx := q1.frozen j
                have q3 := q1.set j (.int .i64 y)
                have cy4 : (wc.setCell ⟨g, j, none⟩ (.int .i64 y)).cell? ⟨g, j1, none⟩ = some (.int .i64 y) := by rw [q3.cell, Array.getElem?_setIfInBounds_ne (by omega), ← q1.cell]; exact cy3
                have fy := q3.frozen j1
                have hsw : Hid (IRow ((wc.setCell ⟨g, j, none⟩ (.int .i64 y)).setCell ⟨g, j1, none⟩ (.int .i64 x)).drew g N (swp h2 j j1)) := by
                  have := hrow3'.out.swap hjN hj1N
                  rw [← hx'.out, ← hy'.out] at this
                  exact this
                have hfs : Hid (Fr g none wb.heap.size wb ((wc.setCell ⟨g, j, none⟩ (.int .i64 y)).setCell ⟨g, j1, none⟩ (.int .i64 x)).drew) := fr_swap hfr3.out j j1 _ _
                have hws : Hid (Within f (swp h2 j j1) a b) := hwi2'.out.trans (swp_within h2 (by omega) (by omega) (by omega) (by omega))
                have hds : Hid (Down (ltOf cv) (swp h2 j j1) a i j1) := by
                  have hd9 := hdn'.out
                  have e9 : j = j1 + 1 := by have := hj1'.out; omega
                  have hl9 : ltOf cv (h2 (j1 + 1)) (h2 j1) = true := by unfold ltOf; rw [← e9, ← hx'.out, ← hy'.out, ← hcv'.out]; exact hdc
                  rw [e9] at hd9 ⊢
                  exact hd9.step W'.out (by omega) hl9
                clear hwx q1 q2 q3 cx cy hrow hwi hdn hfr hrow2' hfr2'
                go_upto_region 6 with fail
                go_region
                all_goals
                  go_wp2
                  exact ⟨⟨j1, _, rfl, hsw.out, hws.out, hds.out, hfs.out⟩, by simp [intOf]; omega⟩
              · have hdc : decide (c < 0) = false := decide_eq_false hc0
                have hend : Hid (Srt (ltOf cv) h2 a (i + 1)) := hdn'.out.done W'.out (Or.inr (by rw [← hj1'.out]; unfold ltOf; rw [← hx'.out, ← hy'.out, ← hcv'.out]; exact hdc))
                have hrow3' : Hid (IRow wc g N h2) := hrow3
                clear hwx cx cy hrow hwi hdn hfr hrow2' hfr2' hrow3
                go_wp2
                go_meet
                case rel => exact ⟨h2, hrow3'.out, hwi2'.out, hend.out, hfr3.out⟩
          · have hdj : decide (a < j) = false := decide_eq_false hj
            have hend : Hid (Srt (ltOf cv) h2 a (i + 1)) := hdn'.out.done W'.out (Or.inl (by omega))
            clear hrow hwi hdn hfr
            go_upto_region 4 with fail
            go_quiet (fail)
            go_wp2
            go_meet
            case rel => exact ⟨h2, hrow2'.out.below (below_drewN (Below.refl _ wr) _), hwi2'.out, hend.out, hfr2'.out.drewN _⟩
      case rest =>
        obtain ⟨h2, q1, q2, q3, q4⟩ := hcut
        have q1' : Hid (IRow wc g N h2) := q1
        have q2' : Hid (Within f h2 a b) := q2
        have q3' : Hid (Srt (ltOf cv) h2 a (i + 1)) := q3
        have q4' : Hid (Fr g none wb.heap.size wb wc) := q4
        clear q1 q2 q3 q4
        go_wp2
        exact ⟨⟨i + 1, h2, by rw [hi1'.out], by omega, Or.inl hi, q1'.out, q2'.out, q3'.out, q4'.out⟩, by have := hi1'.out; simp [intOf]; omega⟩
    · have hdi : decide (i < b) = false := decide_eq_false hi
      have hfin : Hid (Srt (ltOf cv) h a b) := fun p q h1 h2 h3 => hso'.out p q h1 h2 (by omega)
      go_wp2
      go_end0
      exact ⟨rfl, h, hrow'.out, ⟨hwi'.out, hfin.out⟩, hfr'.out⟩
end Go.Proofs.Ybulkeeeq
