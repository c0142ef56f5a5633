import Derived.Test.YbulkeeawFmtTrace
import Derived.Deep.RegionWith
namespace Go.Proofs.YbulkeeawFmt
open Go.RowKit
set_option linter.unusedVariables false

/-- What windowBits reckons with. -/
structure Win (kb : Nat → Nat) (m s n q r wh : Nat) : Prop where
  q0 : ((1000 * n : Nat) : Int) / ((1000 * m : Nat) : Int) = (q : Int)
  r0 : ((1000 * n : Nat) : Int) % ((1000 * m : Nat) : Int) = ((1000 * r : Nat) : Int)
  wh0 : (q : Int) * ((P kb m : Nat) : Int) = (wh : Int)
  rm : r < m
  q64 : q ≤ 64
  whb : wh ≤ 1000000000
  gt : decide ((9223372036854775807 : Int) / (q : Int) < ((P kb m : Nat) : Int)) = false ∨ q = 0
  near : r ≤ m - s → W kb m s n + P kb s = wh + P kb (s + r)
  far : m - s < r → W kb m s n + P kb s = wh + (P kb m + P kb (r - (m - s)))

theorem win_of {kb : Nat → Nat} {m s n : Nat} (hk : ∀ q, kb q ≤ 5) (hm : m ≤ 65537) (hs : s < m) (hn : n ≤ 64) : Win kb m s n (n / m) (n % m) (n / m * P kb m) := by
  have h := W_window kb m s n hs
  have hq : n / m ≤ 64 := Nat.le_trans (Nat.div_le_self n m) hn
  have hP := P_le hk m
  have hwh : n / m * P kb m ≤ 64 * 327685000 := Nat.mul_le_mul hq (by omega)
  have hm0 : 0 < m := by omega
  refine ⟨?_, ?_, by simp, Nat.mod_lt n hm0, hq, ?_, ?_, h.1, h.2⟩
  · rw [← Int.natCast_ediv, Nat.mul_div_mul_left _ _ (by omega)]
  · rw [← Int.natCast_emod, Nat.mul_mod_mul_left]
  · have h1 := W_le hk m s n
    have h2 := P_le hk s
    by_cases hc : n % m ≤ m - s
    · have := h.1 hc; omega
    · have := h.2 (by omega); omega
  · rcases Nat.eq_zero_or_pos (n / m) with h0 | h0
    · exact Or.inr h0
    · left
      simp only [decide_eq_false_iff_not, Int.not_lt]
      refine Int.le_trans (b := 1000000000) (by omega) ?_
      exact Int.le_ediv_of_mul_le (by omega) (by omega)
theorem i64_wrap_small (z : Int) (h0 : -9000000000 ≤ z) (h1 : z ≤ 9000000000) : IntKind.i64.wrap z = z := by
  rw [IntKind.wrap_i64]; omega

set_option maxHeartbeats 1000000 in
set_option maxRecDepth 100000 in
theorem window_near_pos (T : Nat) (D L S R X q wh Pm : Int) (bf : Int → Int) (ok : Int → Prop) (w : World) (c0 : w.cell? ⟨T, 0, none⟩ = some (.int .i64 D)) (c1 : w.cell? ⟨T, 1, none⟩ = some (.int .i64 Pm))
    (hD : 0 < D) (hD1 : D ≤ 100000000) (hL : 0 ≤ L) (hL1 : L ≤ 100000) (e1 : L / D = q) (e2 : L % D = R) (e3 : q * Pm = wh) (hS : 0 ≤ S) (hS1 : S ≤ 100000000) (hR : 0 ≤ R) (hR1 : R ≤ 100000000) (hq : 0 ≤ q) (hq1 : q ≤ 64) (hwh : 0 ≤ wh) (hwh1 : wh ≤ 1000000000)
    (hPm : 0 ≤ Pm) (hPm1 : Pm ≤ 1000000000) (hPa : 0 ≤ bf X) (hPa1 : bf X ≤ 1000000000) (hPb : 0 ≤ bf S) (hPb1 : bf S ≤ 1000000000)
    (hq0 : 0 < q) (hgt : decide ((9223372036854775807 : Int) / q < Pm) = false) (okS : ok S) (okX : ok X) (hX : S + R = X) (hX0 : 0 ≤ X) (hX1 : X ≤ 100000000) (hle : R ≤ D - S)
    (hc : ∀ w' x, ok x → Below w.heap.size w w' → Calls Ybaf.prog 24 #[.pointer (some ⟨T, 0, none⟩), .int .i64 x] w' fun e w'' => e = .returned (.int .i64 (bf x)) ∧ Below w.heap.size w w'') :
    Calls Ybaf.prog 22 #[.pointer (some ⟨T, 0, none⟩), .int .i64 S, .int .i64 L] w fun e w' => e = .returned (.tuple #[.int .i64 (wh + (bf X - bf S)), .bool true]) ∧ Below w.heap.size w w' := by
  have hdec : decide (0 < q) = true := decide_eq_true (by omega)
  go_enter Ybaf.func22, Ybaf.ntmps22
  go_wp2
  go_quiet (fail)
  go_wp2_with (first
    | (go_at_call 24; refine (hc _ _ okS hbel1).mono ?_; rintro e w2 ⟨rfl, hbel2⟩)
    | (go_at_call 24; refine (hc _ _ okX (below_drewN (Below.refl _ w) _)).mono ?_; rintro e w1 ⟨rfl, hbel1⟩))
  go_ret2
  exact ⟨by first | rfl | (simp; done) | go_num, hbel2⟩

set_option maxHeartbeats 1000000 in
set_option maxRecDepth 100000 in
theorem window_near_zero (T : Nat) (D L S R X q wh Pm : Int) (bf : Int → Int) (ok : Int → Prop) (w : World) (c0 : w.cell? ⟨T, 0, none⟩ = some (.int .i64 D)) (c1 : w.cell? ⟨T, 1, none⟩ = some (.int .i64 Pm))
    (hD : 0 < D) (hD1 : D ≤ 100000000) (hL : 0 ≤ L) (hL1 : L ≤ 100000) (e1 : L / D = q) (e2 : L % D = R) (e3 : q * Pm = wh) (hS : 0 ≤ S) (hS1 : S ≤ 100000000) (hR : 0 ≤ R) (hR1 : R ≤ 100000000) (hq : 0 ≤ q) (hq1 : q ≤ 64) (hwh : 0 ≤ wh) (hwh1 : wh ≤ 1000000000)
    (hPm : 0 ≤ Pm) (hPm1 : Pm ≤ 1000000000) (hPa : 0 ≤ bf X) (hPa1 : bf X ≤ 1000000000) (hPb : 0 ≤ bf S) (hPb1 : bf S ≤ 1000000000)
    (hq0 : q = 0) (okS : ok S) (okX : ok X) (hX : S + R = X) (hX0 : 0 ≤ X) (hX1 : X ≤ 100000000) (hle : R ≤ D - S)
    (hc : ∀ w' x, ok x → Below w.heap.size w w' → Calls Ybaf.prog 24 #[.pointer (some ⟨T, 0, none⟩), .int .i64 x] w' fun e w'' => e = .returned (.int .i64 (bf x)) ∧ Below w.heap.size w w'') :
    Calls Ybaf.prog 22 #[.pointer (some ⟨T, 0, none⟩), .int .i64 S, .int .i64 L] w fun e w' => e = .returned (.tuple #[.int .i64 (wh + (bf X - bf S)), .bool true]) ∧ Below w.heap.size w w' := by
  obtain rfl : wh = 0 := by rw [← e3, hq0]; simp
  have hdec : decide (0 < q) = false := decide_eq_false (by omega)
  go_enter Ybaf.func22, Ybaf.ntmps22
  go_wp2
  go_quiet (fail)
  go_wp2_with (first
    | (go_at_call 24; refine (hc _ _ okS hbel1).mono ?_; rintro e w2 ⟨rfl, hbel2⟩)
    | (go_at_call 24; refine (hc _ _ okX (below_drewN (Below.refl _ w) _)).mono ?_; rintro e w1 ⟨rfl, hbel1⟩))
  go_ret2
  exact ⟨by first | rfl | (simp; done) | go_num, hbel2⟩

end Go.Proofs.YbulkeeawFmt
