import Derived.Test.YbulkeeeqPush
import Derived.Test.YbulkeeeqSortP
namespace Go.Proofs.Ybulkeeeq
open Go.RowKit
set_option linter.unusedVariables false

/-- Block g holds the N numbers f. -/
def IRow (w : World) (g N : Nat) (f : Nat → Nat) : Prop := ∃ cs, Blk w g 3 cs ∧ cs.size = N ∧ Hid (∀ j, j < N → cs[j]? = some (.int .i64 (f j)))
theorem IRow.cell {w : World} {g N : Nat} {f : Nat → Nat} (h : IRow w g N f) {j : Nat} (hj : j < N) : w.cell? ⟨g, j, none⟩ = some (.int .i64 (f j)) := by
  obtain ⟨cs, h1, h2, h3⟩ := h; rw [h1.cell]; exact h3.out j hj
theorem IRow.lt {w : World} {g N : Nat} {f : Nat → Nat} (h : IRow w g N f) : g < w.heap.size := by obtain ⟨cs, h1, _⟩ := h; exact h1.lt
theorem IRow.below {w w' : World} {g N : Nat} {f : Nat → Nat} (h : IRow w g N f) (hb : Below w.heap.size w w') : IRow w' g N f := by
  obtain ⟨cs, h1, h2⟩ := h; exact ⟨cs, h1.below hb h1.lt, h2⟩
theorem IRow.congr {w : World} {g N : Nat} {f f' : Nat → Nat} (h : IRow w g N f) (hf : ∀ j, j < N → f j = f' j) : IRow w g N f' := by
  obtain ⟨cs, h1, h2, h3⟩ := h; exact ⟨cs, h1, h2, fun j hj => by rw [← hf j hj]; exact h3.out j hj⟩
/-- Two places change: what the stores leave. -/
theorem IRow.swap {w : World} {g N : Nat} {f : Nat → Nat} (h : IRow w g N f) {i j : Nat} (hi : i < N) (hj : j < N) : IRow ((w.setCell ⟨g, i, none⟩ (.int .i64 (f j))).setCell ⟨g, j, none⟩ (.int .i64 (f i))).drew g N (swp f i j) := by
  obtain ⟨cs, h1, h2, h3⟩ := h
  refine ⟨_, ((h1.set i _).set j _).drew, by simpa using h2, fun k hk => ?_⟩
  by_cases e2 : k = j
  · subst e2; rw [Array.getElem?_setIfInBounds_self_of_lt (by simp; omega), swp_right]
  · rw [Array.getElem?_setIfInBounds_ne (Ne.symm e2)]
    by_cases e1 : k = i
    · subst e1; rw [Array.getElem?_setIfInBounds_self_of_lt (by omega), swp_left]
    · rw [Array.getElem?_setIfInBounds_ne (Ne.symm e1), swp_ne f e1 e2]; exact h3.out k hk
theorem fr_swap {w0 w : World} {g : Nat} {B : Nat} (h : Fr g none B w0 w) (i j : Nat) (x y : Value) : Fr g none B w0 ((w.setCell ⟨g, i, none⟩ x).setCell ⟨g, j, none⟩ y).drew :=
  ((h.setCell g i x (Or.inl rfl)).setCell g j y (Or.inl rfl)).drewN 1

set_option maxHeartbeats 2000000 in
set_option maxRecDepth 100000 in
theorem swapRange_calls (g N a b n : Nat) (f : Nat → Nat) (cv : Value) (w : World) (hr : IRow w g N f) (hN : N ≤ 65536) (hab : a + n ≤ b) (hb : b + n ≤ N) :
    Calls Yba.prog 58 #[.slice (some ⟨g, 0, none⟩) N N, .int .i64 a, .int .i64 b, .int .i64 n, cv] w fun ex w' => ex = .returned (.tuple #[]) ∧ IRow w' g N (swr f a b n) ∧ Fr g none w.heap.size w w' := by
  have hr' : Hid (IRow w g N f) := hr
  clear hr
  go_enter Yba.func58, Yba.ntmps58
  go_upto_block 0 with fail
  go_wp2
  go_loopw [10] (fun v10 wr => ∃ i : Nat, v10 = .int .i64 i ∧ i ≤ n ∧ IRow wr g N (swr f a b i) ∧ Fr g none w.heap.size w wr) (fun v10 _ => n - (intOf v10).toNat)
  case atStart => exact ⟨0, rfl, Nat.zero_le _, by rw [swr_zero]; exact hr'.out, Fr.of_below (Below.refl _ w)⟩
  case round =>
    obtain ⟨i, rfl, hin, hri, hfr⟩ := hrel
    by_cases hi : i < n
    · have hdi : decide (i < n) = true := decide_eq_true hi
      have hri' : Hid (IRow wr g N (swr f a b i)) := hri
      have hfr' : Hid (Fr g none w.heap.size w wr) := hfr
      obtain ⟨x, hx⟩ : ∃ x, x = a + i := ⟨_, rfl⟩
      obtain ⟨y, hy⟩ : ∃ x, x = b + i := ⟨_, rfl⟩
      have ex : (a : Int) + (i : Int) = (x : Int) := by omega
      have ey : (b : Int) + (i : Int) = (y : Int) := by omega
      have hxN : x < N := by omega
      have hyN : y < N := by omega
      have hxy : x < y := by omega
      obtain ⟨vx, hvx⟩ : ∃ v, v = swr f a b i x := ⟨_, rfl⟩
      obtain ⟨vy, hvy⟩ : ∃ v, v = swr f a b i y := ⟨_, rfl⟩
      have cx : wr.cell? ⟨g, x, none⟩ = some (.int .i64 vx) := by rw [hvx]; exact hri.cell hxN
      have cy : wr.cell? ⟨g, y, none⟩ = some (.int .i64 vy) := by rw [hvy]; exact hri.cell hyN
      obtain ⟨cs, q1, q2, _⟩ := hri
      have fx := q1.frozen x
      have q3 := q1.set x (.int .i64 vy)
      have cy2 : (wr.setCell ⟨g, x, none⟩ (.int .i64 vy)).cell? ⟨g, y, none⟩ = some (.int .i64 vy) := by rw [q3.cell, Array.getElem?_setIfInBounds_ne (by omega), ← q1.cell]; exact cy
      have fy := q3.frozen y
      obtain ⟨i1, hi1⟩ : ∃ x, x = i + 1 := ⟨_, rfl⟩
      have ei1 : (i : Int) + 1 = (i1 : Int) := by omega
      have hsw : Hid (IRow ((wr.setCell ⟨g, x, none⟩ (.int .i64 vy)).setCell ⟨g, y, none⟩ (.int .i64 vx)).drew g N (swr f a b (i + 1))) := by
        have := hri'.out.swap hxN hyN
        rw [← hvx, ← hvy, hx, hy, swr_step f a b i (by omega)] at this
        rw [hx, hy]; exact this
      have hfs : Hid (Fr g none w.heap.size w ((wr.setCell ⟨g, x, none⟩ (.int .i64 vy)).setCell ⟨g, y, none⟩ (.int .i64 vx)).drew) := fr_swap hfr x y _ _
      have hi1' : Hid (i1 = i + 1) := hi1
      clear hvx hvy hx hy q1 q2 q3 hfr hi1 hri' hfr'
      go_upto_region 3 with fail
      go_region
      all_goals
        go_wp2
        exact ⟨⟨i + 1, by rw [hi1'.out], hi, hsw.out, hfs.out⟩, by have := hi1'.out; simp [intOf]; omega⟩
    · have hdi : decide (i < n) = false := decide_eq_false hi
      obtain rfl : i = n := by omega
      have hri' : Hid (IRow wr g N (swr f a b i)) := hri
      have hfr' : Hid (Fr g none w.heap.size w wr) := hfr
      clear hri hfr
      go_wp2
      go_end0
      exact ⟨rfl, hri'.out, hfr'.out⟩

set_option maxHeartbeats 2000000 in
set_option maxRecDepth 100000 in
theorem rotate_calls (g N a m b : Nat) (f : Nat → Nat) (cv : Value) (w : World) (hr : IRow w g N f) (hN : N ≤ 65536) (ham : a < m) (hmb : m < b) (hb : b ≤ N) :
    Calls Yba.prog 48 #[.slice (some ⟨g, 0, none⟩) N N, .int .i64 a, .int .i64 m, .int .i64 b, cv] w fun ex w' => ex = .returned (.tuple #[]) ∧ IRow w' g N (rot f a m b) ∧ Fr g none w.heap.size w w' := by
  have hr' : Hid (IRow w g N f) := hr
  clear hr
  obtain ⟨i0, hi0⟩ : ∃ x, x = m - a := ⟨_, rfl⟩
  obtain ⟨j0, hj0⟩ : ∃ x, x = b - m := ⟨_, rfl⟩
  have ei0 : (m : Int) - (a : Int) = (i0 : Int) := by omega
  have ej0 : (b : Int) - (m : Int) = (j0 : Int) := by omega
  have hi0' : Hid (i0 = m - a) := hi0
  have hj0' : Hid (j0 = b - m) := hj0
  have hst : Hid (rot f a m b = rot f (m - i0) m (m + j0)) := by unfold Hid; rw [hi0, hj0, show m - (m - a) = a by omega, show m + (b - m) = b by omega]
  have hbi : i0 ≤ m := by omega
  have hpi : 0 < i0 := by omega
  have hpj : 0 < j0 := by omega
  have hbj : m + j0 ≤ N := by omega
  clear hi0 hj0
  go_enter Yba.func48, Yba.ntmps48
  go_upto_block 0 with fail
  go_cut [10, 11] from 18 to 49 (fun v10 _ wc => ∃ (i : Nat) (h : Nat → Nat), v10 = .int .i64 i ∧ 0 < i ∧ i ≤ m ∧ m + i ≤ N ∧ IRow wc g N h ∧ rot h (m - i) m (m + i) = rot f a m b ∧ Fr g none w.heap.size w wc)
  case first =>
    go_wp2
    go_loopw [10, 11] (fun v10 v11 wr => ∃ (i j : Nat) (h : Nat → Nat), v10 = .int .i64 i ∧ v11 = .int .i64 j ∧ 0 < i ∧ 0 < j ∧ i ≤ m ∧ m + j ≤ N ∧ IRow wr g N h ∧ rot h (m - i) m (m + j) = rot f a m b ∧ Fr g none w.heap.size w wr) (fun v10 v11 _ => (intOf v10).toNat + (intOf v11).toNat)
    case atStart => exact ⟨i0, j0, f, rfl, rfl, hpi, hpj, hbi, hbj, hr'.out, hst.out.symm, Fr.of_below (Below.refl _ w)⟩
    case round =>
      obtain ⟨i, j, h, rfl, rfl, pi, pj, him, hjN, hrow, hrot, hfr⟩ := hrel
      have hrow' : Hid (IRow wr g N h) := hrow
      have hrot' : Hid (rot h (m - i) m (m + j) = rot f a m b) := hrot
      have hfr' : Hid (Fr g none w.heap.size w wr) := hfr
      obtain ⟨mi, hmi⟩ : ∃ x, x = m - i := ⟨_, rfl⟩
      have emi : (m : Int) - (i : Int) = (mi : Int) := by omega
      by_cases hij : i = j
      · have hd : ((i : Int) == (j : Int)) = true := by simp; omega
        have hd2 : ((i : Int) != (j : Int)) = false := by simp; omega
        clear hrow hrot hfr hmi
        subst hij
        go_wp2
        go_meet
        case rel => exact ⟨i, h, rfl, pi, him, hjN, hrow'.out, hrot'.out, hfr'.out⟩
      · have hd : ((i : Int) == (j : Int)) = false := by simp; omega
        have hd2 : ((i : Int) != (j : Int)) = true := by simp; omega
        by_cases hlt : j < i
        · have hdl : decide (j < i) = true := decide_eq_true hlt
          have hcall := swapRange_calls g N mi m j h cv wr hrow hN (by omega) (by omega)
          obtain ⟨i2, hi2⟩ : ∃ x, x = i - j := ⟨_, rfl⟩
          have ei2 : (i : Int) - (j : Int) = (i2 : Int) := by omega
          have hnx : Hid (rot (swr h mi m j) (m - i2) m (m + j) = rot f a m b) := by unfold Hid; rw [hmi, hi2, rot_more h m i j him hlt]; exact hrot
          have hi2b : 0 < i2 := by omega
          have hi2m : i2 ≤ m := by omega
          have hi2' : Hid (i2 = i - j) := hi2
          clear hrow hrot hfr hmi hi2 hij
          go_wp2_with (go_at_call 58; refine hcall.mono ?_; rintro ex w5 ⟨rfl, q1, q2⟩)
          exact ⟨⟨i2, j, _, rfl, rfl, hi2b, pj, hi2m, hjN, q1, hnx.out, hfr'.out.trans ⟨q2.os, q2.tape, q2.output, q2.size, fun k hk h1 h2 => q2.block k (by have := hfr'.out.size; omega) h1 h2⟩⟩, by have := hi2'.out; simp [intOf]; omega⟩
        · have hdl : decide (j < i) = false := decide_eq_false hlt
          obtain ⟨mj, hmj⟩ : ∃ x, x = m + j := ⟨_, rfl⟩
          have emj : (m : Int) + (j : Int) = (mj : Int) := by omega
          obtain ⟨mk, hmk⟩ : ∃ x, x = mj - i := ⟨_, rfl⟩
          have emk : (mj : Int) - (i : Int) = (mk : Int) := by omega
          have hcall := swapRange_calls g N mi mk i h cv wr hrow hN (by omega) (by omega)
          obtain ⟨j2, hj2⟩ : ∃ x, x = j - i := ⟨_, rfl⟩
          have ej2 : (j : Int) - (i : Int) = (j2 : Int) := by omega
          have hnx : Hid (rot (swr h mi mk i) (m - i) m (m + j2) = rot f a m b) := by unfold Hid; rw [hmi, hmk, hmj, hj2, rot_less h m i j him (by omega)]; exact hrot
          have hj2b : 0 < j2 := by omega
          have hj2m : m + j2 ≤ N := by omega
          have hj2' : Hid (j2 = j - i) := hj2
          clear hrow hrot hfr hmi hj2 hij hmj hmk
          go_wp2_with (go_at_call 58; refine hcall.mono ?_; rintro ex w5 ⟨rfl, q1, q2⟩)
          exact ⟨⟨i, j2, _, rfl, rfl, pi, hj2b, him, hj2m, q1, hnx.out, hfr'.out.trans ⟨q2.os, q2.tape, q2.output, q2.size, fun k hk h1 h2 => q2.block k (by have := hfr'.out.size; omega) h1 h2⟩⟩, by have := hj2'.out; simp [intOf]; omega⟩
  case rest =>
    obtain ⟨i, h, rfl, pi, him, hiN, hrow, hrot, hfr⟩ := hcut
    have hfr' : Hid (Fr g none w.heap.size w wc) := hfr
    obtain ⟨mi, hmi⟩ : ∃ x, x = m - i := ⟨_, rfl⟩
    have emi : (m : Int) - (i : Int) = (mi : Int) := by omega
    have hcall := swapRange_calls g N mi m i h cv wc hrow hN (by omega) (by omega)
    have hnx : Hid (swr h mi m i = rot f a m b) := by unfold Hid; rw [hmi, rot_last h m i him]; exact hrot
    clear hrow hrot hfr hmi
    go_wp2_with (go_at_call 58; refine hcall.mono ?_; rintro ex w5 ⟨rfl, q1, q2⟩)
    go_end0
    exact ⟨rfl, by rw [← hnx.out]; exact q1, hfr'.out.trans ⟨q2.os, q2.tape, q2.output, q2.size, fun k hk h1 h2 => q2.block k (by have := hfr'.out.size; omega) h1 h2⟩⟩
end Go.Proofs.Ybulkeeeq
