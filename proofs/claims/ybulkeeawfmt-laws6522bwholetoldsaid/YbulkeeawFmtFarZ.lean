import Derived.Test.YbulkeeawFmtWindow
namespace Go.Proofs.YbulkeeawFmt
open Go.RowKit
set_option linter.unusedVariables false

set_option maxHeartbeats 1000000 in
set_option maxRecDepth 100000 in
theorem window_far_zero (T : Nat) (D L S R X q wh Pm : Int) (bf : Int → Int) (ok : Int → Prop) (w : World) (c0 : w.cell? ⟨T, 0, none⟩ = some (.int .i64 D)) (c1 : w.cell? ⟨T, 1, none⟩ = some (.int .i64 Pm))
    (hD : 0 < D) (hD1 : D ≤ 100000000) (hL : 0 ≤ L) (hL1 : L ≤ 100000) (e1 : L / D = q) (e2 : L % D = R) (e3 : q * Pm = wh) (hS : 0 ≤ S) (hS1 : S ≤ 100000000) (hR : 0 ≤ R) (hR1 : R ≤ 100000000) (hq : 0 ≤ q) (hq1 : q ≤ 64) (hwh : 0 ≤ wh) (hwh1 : wh ≤ 1000000000)
    (hPm : 0 ≤ Pm) (hPm1 : Pm ≤ 1000000000) (hPa : 0 ≤ bf X) (hPa1 : bf X ≤ 1000000000) (hPb : 0 ≤ bf S) (hPb1 : bf S ≤ 1000000000)
    (hq0 : q = 0) (okS : ok S) (okX : ok X) (hX : R - (D - S) = X) (hX0 : 0 ≤ X) (hX1 : X ≤ 100000000) (hle : D - S < R)
    (hc : ∀ w' x, ok x → Below w.heap.size w w' → Calls Ybaf.prog 24 #[.pointer (some ⟨T, 0, none⟩), .int .i64 x] w' fun e w'' => e = .returned (.int .i64 (bf x)) ∧ Below w.heap.size w w'') :
    Calls Ybaf.prog 22 #[.pointer (some ⟨T, 0, none⟩), .int .i64 S, .int .i64 L] w fun e w' => e = .returned (.tuple #[.int .i64 (wh + (Pm - bf S + bf X)), .bool true]) ∧ Below w.heap.size w w' := by
  obtain rfl : wh = 0 := by rw [← e3, hq0]; simp
  subst hq0
  have hwX : IntKind.i64.wrap (R - IntKind.i64.wrap (D - S)) = X := by rw [i64_wrap_small (D - S) (by omega) (by omega), i64_wrap_small _ (by omega) (by omega)]; exact hX
  have okX' : ok (IntKind.i64.wrap (R - IntKind.i64.wrap (D - S))) := by rw [hwX]; exact okX
  have hw1 : IntKind.i64.wrap (Pm - bf S) = Pm - bf S := i64_wrap_small _ (by omega) (by omega)
  have hw2 : IntKind.i64.wrap (Pm - bf S + bf X) = Pm - bf S + bf X := i64_wrap_small _ (by omega) (by omega)
  have hT : T < w.heap.size := lt_of_cell c0
  go_enter Ybaf.func22, Ybaf.ntmps22
  go_wp2
  go_quiet (fail)
  go_upto_region 9 with fail
  simp only [e1, e2]
  go_cut [11] from 58 (fun v wc => v = .int .i64 (Pm - bf S + bf X) ∧ Below w.heap.size w wc)
  case first =>
    clear hD1 hL1 hS hS1 hR hR1 hq hq1 e3 hPm hPm1 hPa hPa1 hPb hPb1 hX hX0 hX1 hle
    go_region_with (go_at_call 24; refine (hc _ _ (by with_reducible first | exact okS | exact okX | exact okX') (by with_reducible first | exact hbel1 | exact below_drewN (Below.refl _ w) _ | exact (below_drewN (Below.refl _ w) _).drew)).mono ?_; rintro e w1 ⟨rfl, hbel1⟩; have c0' := (hbel1.cell (p := ⟨T, 0, none⟩) hT).trans c0; have c1' := (hbel1.cell (p := ⟨T, 1, none⟩) hT).trans c1)
    all_goals
      go_wp2
      go_meet
      case rel => exact ⟨by first | rfl | (simp [hw1, hw2]; done) | (rw [hw1, hw2]), hbel1⟩
  case rest =>
    obtain ⟨rfl, hbelc⟩ := hcut
    go_wp2
    go_ret2
    exact ⟨by first | rfl | (simp; done) | go_num, hbelc⟩


end Go.Proofs.YbulkeeawFmt
