import Derived.Test.YbulkeeawFmtFar
import Derived.Test.YbulkeeawFmtFarZ
namespace Go.Proofs.YbulkeeawFmt
open Go.RowKit
set_option linter.unusedVariables false

/-- windowBits over whole seconds. -/
theorem window_calls (T sp : Nat) (kb : Nat → Nat) (m s n : Nat) (w : World) (h : Tr w T sp kb m) (hs : s < m) (hn : n ≤ 64) :
    Calls Ybaf.prog 22 #[.pointer (some ⟨T, 0, none⟩), .int .i64 (1000 * s : Nat), .int .i64 (1000 * n : Nat)] w fun e w' => e = .returned (.tuple #[.int .i64 (W kb m s n : Nat), .bool true]) ∧ Below w.heap.size w w' := by
  have hw := win_of (n := n) h.k5 h.m2 hs hn
  generalize n / m * P kb m = wh at hw
  generalize n / m = q at hw
  generalize n % m = r at hw
  have c0 : w.cell? ⟨T, 0, none⟩ = some (.int .i64 (1000 * m : Nat)) := by rw [h.blk.cell 0]; rfl
  have c1 : w.cell? ⟨T, 1, none⟩ = some (.int .i64 (P kb m : Nat)) := by rw [h.blk.cell 1]; rfl
  have hm1 := h.m1
  have hm2 := h.m2
  have hrm := hw.rm
  have hPm := P_le h.k5 m
  have hPs := P_le h.k5 s
  have hbs : ∀ k : Nat, (P kb ((((1000 * k : Nat) : Int)) / 1000).toNat : Int) = (P kb k : Int) := fun k => by
    rw [show ((((1000 * k : Nat) : Int)) / 1000).toNat = k by omega]
  have hc : ∀ w' x, (∃ k : Nat, k ≤ m ∧ x = ((1000 * k : Nat) : Int)) → Below w.heap.size w w' → Calls Ybaf.prog 24 #[.pointer (some ⟨T, 0, none⟩), .int .i64 x] w' fun e w'' => e = .returned (.int .i64 ((fun x : Int => (P kb (x / 1000).toNat : Int)) x)) ∧ Below w.heap.size w w'' := by
    rintro w' x ⟨k, hk, rfl⟩ hb
    refine (before_calls T sp kb m k w' (h.grown hb) hk).mono ?_
    rintro e w'' ⟨rfl, hb'⟩
    exact ⟨by simp only [hbs], hb.trans (hb'.mono hb.size)⟩
  by_cases hnear : r ≤ m - s
  · have hPx := P_le h.k5 (s + r)
    have hres := hw.near hnear
    have fin : ∀ e w', (e = Ending.returned (.tuple #[.int .i64 ((wh : Int) + ((P kb ((((1000 * (s + r) : Nat) : Int)) / 1000).toNat : Int) - (P kb ((((1000 * s : Nat) : Int)) / 1000).toNat : Int))), .bool true]) ∧ Below w.heap.size w w') → e = .returned (.tuple #[.int .i64 (W kb m s n : Nat), .bool true]) ∧ Below w.heap.size w w' := by
      rintro e w' ⟨rfl, hb⟩
      refine ⟨?_, hb⟩
      rw [hbs, hbs]
      rw [show (wh : Int) + ((P kb (s + r) : Int) - (P kb s : Int)) = (W kb m s n : Int) by omega]
    rcases Nat.eq_zero_or_pos q with hq | hq
    · exact (window_near_zero T (1000 * m : Nat) (1000 * n : Nat) (1000 * s : Nat) (1000 * r : Nat) (1000 * (s + r) : Nat) q wh (P kb m : Nat) (fun x : Int => (P kb (x / 1000).toNat : Int)) (fun x => ∃ k : Nat, k ≤ m ∧ x = ((1000 * k : Nat) : Int)) w c0 c1 (by omega) (by omega) (by omega) (by omega) hw.q0 hw.r0 hw.wh0 (by omega) (by omega) (by omega) (by omega) (by omega) (by have := hw.q64; omega) (by omega) (by have := hw.whb; omega) (by omega) (by omega) (by simp only [hbs]; omega) (by simp only [hbs]; omega) (by simp only [hbs]; omega) (by simp only [hbs]; omega) (by omega) ⟨s, by omega, rfl⟩ ⟨s + r, by omega, rfl⟩ (by omega) (by omega) (by omega) (by omega) hc).mono fin
    · have hgt := hw.gt.resolve_right (by omega)
      exact (window_near_pos T (1000 * m : Nat) (1000 * n : Nat) (1000 * s : Nat) (1000 * r : Nat) (1000 * (s + r) : Nat) q wh (P kb m : Nat) (fun x : Int => (P kb (x / 1000).toNat : Int)) (fun x => ∃ k : Nat, k ≤ m ∧ x = ((1000 * k : Nat) : Int)) w c0 c1 (by omega) (by omega) (by omega) (by omega) hw.q0 hw.r0 hw.wh0 (by omega) (by omega) (by omega) (by omega) (by omega) (by have := hw.q64; omega) (by omega) (by have := hw.whb; omega) (by omega) (by omega) (by simp only [hbs]; omega) (by simp only [hbs]; omega) (by simp only [hbs]; omega) (by simp only [hbs]; omega) (by omega) hgt ⟨s, by omega, rfl⟩ ⟨s + r, by omega, rfl⟩ (by omega) (by omega) (by omega) (by omega) hc).mono fin
  · have hPx := P_le h.k5 (r - (m - s))
    have hres := hw.far (by omega)
    have hsm := P_mono kb (show s ≤ m by omega)
    have fin : ∀ e w', (e = Ending.returned (.tuple #[.int .i64 ((wh : Int) + ((P kb m : Int) - (P kb ((((1000 * s : Nat) : Int)) / 1000).toNat : Int) + (P kb ((((1000 * (r - (m - s)) : Nat) : Int)) / 1000).toNat : Int))), .bool true]) ∧ Below w.heap.size w w') → e = .returned (.tuple #[.int .i64 (W kb m s n : Nat), .bool true]) ∧ Below w.heap.size w w' := by
      rintro e w' ⟨rfl, hb⟩
      refine ⟨?_, hb⟩
      rw [hbs, hbs]
      rw [show (wh : Int) + ((P kb m : Int) - (P kb s : Int) + (P kb (r - (m - s)) : Int)) = (W kb m s n : Int) by omega]
    rcases Nat.eq_zero_or_pos q with hq | hq
    · exact (window_far_zero T (1000 * m : Nat) (1000 * n : Nat) (1000 * s : Nat) (1000 * r : Nat) (1000 * (r - (m - s)) : Nat) q wh (P kb m : Nat) (fun x : Int => (P kb (x / 1000).toNat : Int)) (fun x => ∃ k : Nat, k ≤ m ∧ x = ((1000 * k : Nat) : Int)) w c0 c1 (by omega) (by omega) (by omega) (by omega) hw.q0 hw.r0 hw.wh0 (by omega) (by omega) (by omega) (by omega) (by omega) (by have := hw.q64; omega) (by omega) (by have := hw.whb; omega) (by omega) (by omega) (by simp only [hbs]; omega) (by simp only [hbs]; omega) (by simp only [hbs]; omega) (by simp only [hbs]; omega) (by omega) ⟨s, by omega, rfl⟩ ⟨r - (m - s), by omega, rfl⟩ (by omega) (by omega) (by omega) (by omega) hc).mono fin
    · have hgt := hw.gt.resolve_right (by omega)
      exact (window_far_pos T (1000 * m : Nat) (1000 * n : Nat) (1000 * s : Nat) (1000 * r : Nat) (1000 * (r - (m - s)) : Nat) q wh (P kb m : Nat) (fun x : Int => (P kb (x / 1000).toNat : Int)) (fun x => ∃ k : Nat, k ≤ m ∧ x = ((1000 * k : Nat) : Int)) w c0 c1 (by omega) (by omega) (by omega) (by omega) hw.q0 hw.r0 hw.wh0 (by omega) (by omega) (by omega) (by omega) (by omega) (by have := hw.q64; omega) (by omega) (by have := hw.whb; omega) (by omega) (by omega) (by simp only [hbs]; omega) (by simp only [hbs]; omega) (by simp only [hbs]; omega) (by simp only [hbs]; omega) (by omega) hgt ⟨s, by omega, rfl⟩ ⟨r - (m - s), by omega, rfl⟩ (by omega) (by omega) (by omega) (by omega) hc).mono fin
set_option maxHeartbeats 400000 in
theorem start_calls (T sp : Nat) (kb : Nat → Nat) (m off j : Nat) (w : World) (h : Tr w T sp kb m) (hoff : off ≤ 64) (hj : 1 ≤ j) (hj1 : j ≤ 64) :
    Calls Ybaf.prog 23 #[.pointer (some ⟨T, 0, none⟩), .int .i64 off, .int .i64 j] w fun e w' => e = .returned (.int .i64 (1000 * ((off + j - 1) % m) : Nat)) ∧ Below w.heap.size w w' := by
  have c0 : w.cell? ⟨T, 0, none⟩ = some (.int .i64 (1000 * m : Nat)) := by rw [h.blk.cell 0]; rfl
  have hm1 := h.m1
  have hm2 := h.m2
  obtain ⟨x, hx⟩ : ∃ x, x = off + j - 1 := ⟨_, rfl⟩
  have hx1 : (off : Int) + ((j : Int) - 1) = (x : Int) := by omega
  have hx2 : x ≤ 1048576 := by omega
  have hrem := rem_small (1000 * x) (1000 * m) (by omega) (by omega) (by omega)
  have hmul := mul_small x hx2
  rw [Nat.mul_mod_mul_left] at hrem
  rw [← hx]
  have hr : x % m < m := Nat.mod_lt x (by omega)
  obtain ⟨y, hy⟩ : ∃ y, y = 1000 * x := ⟨_, rfl⟩
  obtain ⟨D, hD⟩ : ∃ D, D = 1000 * m := ⟨_, rfl⟩
  obtain ⟨z, hz⟩ : ∃ z, z = 1000 * (x % m) := ⟨_, rfl⟩
  rw [← hy] at hmul hrem
  rw [← hD] at hrem c0
  rw [← hz] at hrem ⊢
  have hy1 : y ≤ 1048576000 := by omega
  have hD1 : D ≤ 65537000 := by omega
  have hz1 : z ≤ 65537000 := by omega
  clear hx hy hD hz hr h
  go_enter Ybaf.func23, Ybaf.ntmps23
  go_wp2_with (first
    | (go_at_call 25; refine (hmul _).mono ?_; rintro e w1 ⟨rfl, hw1⟩; obtain rfl := hw1.symm; clear hw1)
    | (go_at_call 26; refine (hrem _).mono ?_; rintro e w2 ⟨rfl, hdr⟩))
  go_ret
  exact ⟨rfl, hdr.below (Below.refl _ w)⟩

set_option maxHeartbeats 400000 in
/-- (*Trace).slotsBits -/
theorem tslots_calls (T sp : Nat) (kb : Nat → Nat) (m off j n : Nat) (w : World) (h : Tr w T sp kb m) (hoff : off ≤ 64) (hj : 1 ≤ j) (hj1 : j ≤ 64) (hn : n ≤ 64) :
    Calls Ybaf.prog 20 #[.pointer (some ⟨T, 0, none⟩), .int .i64 off, .int .i64 j, .int .i64 n] w fun e w' => e = .returned (.tuple #[.int .i64 (W kb m (off + j - 1) n : Nat), .bool true]) ∧ Below w.heap.size w w' := by
  have hst := start_calls T sp kb m off j w h hoff hj hj1
  have hwi := fun w' (hb : Below w.heap.size w w') => window_calls T sp kb m ((off + j - 1) % m) n w' (h.grown hb) (Nat.mod_lt _ h.m1) hn
  rw [← W_mod] at hwi
  generalize 1000 * ((off + j - 1) % m) = z at hst hwi
  generalize W kb m (off + j - 1) n = y at *
  obtain ⟨L, hL⟩ : ∃ L, L = 1000 * n := ⟨_, rfl⟩
  have hL' : (n : Int) * 1000 = (L : Int) := by omega
  rw [← hL] at hwi
  have hL1 : L ≤ 64000 := by omega
  clear hL
  go_enter Ybaf.func20, Ybaf.ntmps20
  go_wp2_with (first
    | (go_at_call 23; refine hst.mono ?_; rintro e w1 ⟨rfl, hb1⟩)
    | (go_at_call 22; refine (hwi _ hb1).mono ?_; rintro e w2 ⟨rfl, hb2⟩))
  go_ret2
  exact ⟨rfl, hb1.trans (hb2.mono hb1.size)⟩

end Go.Proofs.YbulkeeawFmt
