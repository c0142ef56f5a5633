import Derived.Test.YbulkeeawFmtSess
namespace Go.Proofs.YbulkeeawFmt
open Go.RowKit
set_option linter.unusedVariables false

set_option maxHeartbeats 1000000 in
set_option maxRecDepth 100000 in
theorem fill_short (T sp : Nat) (kb : Nat → Nat) (m off C cs : Nat) (lbA : Option Addr) (nL cL st buf : Nat) (f t n bits : Nat) (w : World) (h : Tr w T sp kb m) (hoff : off ≤ 64) (hf : 1 ≤ f) (hf1 : f ≤ 64) (hn : n ≤ 64) (ht : t + 1 = f + n) (hlt : W kb m (off + f - 1) n < bits) (hb9 : bits ≤ 1000000) :
    Calls Ybaf.prog 15 #[.agg (sessV T off C cs lbA nL cL st buf), .int .i64 f, .int .i64 t, .int .i64 bits] w fun e w' => e = .returned (.tuple #[.int .i64 0, .bool false]) ∧ Below w.heap.size w w' := by
  have hs := fun w' (hb : Below w.heap.size w w') => sslots_calls T sp kb m off C cs lbA nL cL st buf f t n w' (h.grown hb) hoff hf hf1 hn ht
  have hb0 : Below w.heap.size w (w.alloc (.cells (sessV T off C cs lbA nL cL st buf) 37)) := (Below.refl _ w).alloc (Nat.le_refl _) _
  generalize W kb m (off + f - 1) n = y at *
  unfold sessV at *
  go_enter Ybaf.func15, Ybaf.ntmps15
  go_wp2_with (go_at_call 16; refine (hs _ hb0).mono ?_; rintro e w1 ⟨rfl, hb⟩)
  go_ret2
  exact ⟨rfl, hb0.trans (hb.mono (by simp))⟩

set_option maxHeartbeats 2000000 in
set_option maxRecDepth 100000 in
theorem fill_found (T sp : Nat) (kb : Nat → Nat) (m off C cs : Nat) (lbA : Option Addr) (nL cL st buf : Nat) (f t n bits : Nat) (w : World) (h : Tr w T sp kb m) (hoff : off ≤ 64) (hf : 1 ≤ f) (hf1 : f ≤ 64) (hn : n ≤ 64) (ht1 : t ≤ 63) (ht : t + 1 = f + n) (hge : bits ≤ W kb m (off + f - 1) n) (hpos : 0 < bits) (hb9 : bits ≤ 1000000) :
    Calls Ybaf.prog 15 #[.agg (sessV T off C cs lbA nL cL st buf), .int .i64 f, .int .i64 t, .int .i64 bits] w fun e w' => ∃ u, e = .returned (.tuple #[.int .i64 (u : Nat), .bool true]) ∧ (f ≤ u ∧ u ≤ t ∧ W kb m (off + f - 1) (u - f) < bits ∧ bits ≤ W kb m (off + f - 1) (u - f + 1)) ∧ Below w.heap.size w w' := by
  have hs := fun w' (hb : Below w.heap.size w w') => sslots_calls T sp kb m off C cs lbA nL cL st buf f t n w' (h.grown hb) hoff hf hf1 hn ht
  have hb0 : Below w.heap.size w (w.alloc (.cells (sessV T off C cs lbA nL cL st buf) 37)) := (Below.refl _ w).alloc (Nat.le_refl _) _
  have hblk0 : Blk (w.alloc (.cells (sessV T off C cs lbA nL cL st buf) 37)) w.heap.size 37 (sessV T off C cs lbA nL cL st buf) := Blk.new _ _ _
  have hft : f ≤ t := by
    rcases Nat.lt_or_ge t f with h1 | h1
    · have : n = 0 := by omega
      subst this
      simp [W] at hge
      omega
    · exact h1
  have hge' : Hid (bits ≤ W kb m (off + f - 1) n) := hge
  obtain ⟨y, hy⟩ : ∃ y, y = W kb m (off + f - 1) n := ⟨_, rfl⟩
  rw [← hy] at hs hge
  have hyb := W_le h.k5 m (off + f - 1) n
  rw [← hy] at hyb
  clear hy
  have hsess : Hid (sessV T off C cs lbA nL cL st buf = #[.pointer (some ⟨T, 0, none⟩), .int .i64 off, .int .i64 C, .int .i64 cs, .slice lbA nL cL, .int .i64 st, .int .i64 buf, .string ByteArray.empty]) := rfl
  rw [hsess.out] at hs hb0 hblk0 ⊢
  have hdec : decide (y < bits) = false := decide_eq_false (by omega)
  go_enter Ybaf.func15, Ybaf.ntmps15
  go_wp2_with (go_at_call 16; refine (hs _ hb0).mono ?_; rintro e w1 ⟨rfl, hb1⟩)
  have hblk1 := hblk0.below hb1 (by simp)
  have hbw1 : Below w.heap.size w w1 := hb0.trans (hb1.mono (by simp))
  clear hblk0 hb0 hb1 hs
  go_loopw [1, 2, 3] (fun v1 v2 v3 wr => ∃ a b c : Nat, v1 = .int .i64 a ∧ v2 = .int .i64 b ∧ v3 = .int .i64 c ∧ (f ≤ a ∧ a ≤ b ∧ b ≤ t ∧ 0 < c ∧ c + W kb m (off + f - 1) (a - f) = bits ∧ c ≤ W kb m (off + a - 1) (b - a + 1)) ∧ Blk wr w.heap.size 37 #[.pointer (some ⟨T, 0, none⟩), .int .i64 off, .int .i64 C, .int .i64 cs, .slice lbA nL cL, .int .i64 st, .int .i64 buf, .string ByteArray.empty] ∧ Below w.heap.size w wr)
    (fun v1 v2 _ _ => (intOf v2).toNat - (intOf v1).toNat)
  case atStart => exact ⟨f, t, bits, rfl, rfl, rfl, ⟨Nat.le_refl _, hft, Nat.le_refl _, hpos, by simp [W], by have := hge'.out; rw [show t - f + 1 = n by omega]; exact this⟩, hblk1, hbw1⟩
  case round =>
    obtain ⟨a, b, c, rfl, rfl, rfl, hinv, hblk, hbw⟩ := hrel
    clear hblk1 hbw1
    by_cases hab : a < b
    · obtain ⟨d, hd⟩ : ∃ d, d = (b - a) / 2 := ⟨_, rfl⟩
      have e1 : ((b : Int) - (a : Int)) / 2 = (d : Int) := by omega
      obtain ⟨i1, i2, i3, i4, i5, i6⟩ := hinv
      have hd1 : a + d < b := by omega
      clear hd
      have hs2 := sslots_calls T sp kb m off C cs lbA nL cL st buf a (a + d) (d + 1) wr (h.grown hbw) hoff (by omega) (by omega) (by omega) (by omega)
      have hsplit := W_add kb m (off + a - 1) (d + 1) (b - (a + d))
      rw [show d + 1 + (b - (a + d)) = b - a + 1 by omega, show off + a - 1 + (d + 1) = off + (a + d + 1) - 1 by omega] at hsplit
      have hacc := W_add kb m (off + f - 1) (a - f) (d + 1)
      rw [show a - f + (d + 1) = a + d + 1 - f by omega, show off + f - 1 + (a - f) = off + a - 1 by omega] at hacc
      have hgb := W_le h.k5 m (off + a - 1) (d + 1)
      obtain ⟨g, hg⟩ : ∃ g, g = W kb m (off + a - 1) (d + 1) := ⟨_, rfl⟩
      rw [← hg] at hs2 hsplit hacc hgb
      obtain ⟨M, hM⟩ : ∃ M, M = a + d := ⟨_, rfl⟩
      have e2 : (a : Int) + (d : Int) = (M : Int) := by omega
      rw [hsess.out] at hs2
      rw [← hM] at hs2 hd1 hsplit hacc
      have hg' : Hid (g = W kb m (off + a - 1) (d + 1)) := hg
      have hM' : Hid (M = a + d) := hM
      have hsplit' : Hid (W kb m (off + a - 1) (b - a + 1) = g + W kb m (off + (M + 1) - 1) (b - M)) := hsplit
      have hacc' : Hid (W kb m (off + f - 1) (M + 1 - f) = W kb m (off + f - 1) (a - f) + g) := hacc
      have i5' : Hid (c + W kb m (off + f - 1) (a - f) = bits) := i5
      have i6' : Hid (c ≤ W kb m (off + a - 1) (b - a + 1)) := i6
      have hcb : c ≤ bits := by omega
      clear hg hM hsplit hacc i5 i6
      have z0 := hblk.cell 0
      have z1 := hblk.cell 1
      have z2 := hblk.cell 2
      have z3 := hblk.cell 3
      have z4 := hblk.cell 4
      have z5 := hblk.cell 5
      have z6 := hblk.cell 6
      have z7 := hblk.cell 7
      simp at z0 z1 z2 z3 z4 z5 z6 z7
      by_cases hgc : c ≤ g
      · go_wp2_with (go_at_call 16; refine hs2.mono ?_; rintro e w2 ⟨rfl, hb2⟩)
        have hblk2 := hblk.below hb2 hblk.lt
        have h1 := hg'.out
        have h2 := hM'.out
        go_roundw
        case rel =>
          have hfin : c ≤ W kb m (off + a - 1) (M - a + 1) := by rw [show M - a + 1 = d + 1 by omega, ← h1]; exact hgc
          exact ⟨a, M, c, rfl, rfl, rfl, ⟨i1, by omega, by omega, i4, i5'.out, hfin⟩, hblk2, hbw.trans (hb2.mono hbw.size)⟩
        case measure => simp [intOf]; omega
      · go_wp2_with (go_at_call 16; refine hs2.mono ?_; rintro e w2 ⟨rfl, hb2⟩)
        have hblk2 := hblk.below hb2 hblk.lt
        have h1 := hsplit'.out
        have h2 := hM'.out
        have h3 := hacc'.out
        have h4 := i5'.out
        have h5 := i6'.out
        go_roundw
        case rel =>
          have hfin : c - g ≤ W kb m (off + (M + 1) - 1) (b - (M + 1) + 1) := by rw [show b - (M + 1) + 1 = b - M by omega]; omega
          exact ⟨M + 1, b, c - g, by go_num, rfl, by go_num, ⟨by omega, by omega, i3, by omega, by omega, hfin⟩, hblk2, hbw.trans (hb2.mono hbw.size)⟩
        case measure => simp [intOf]; omega
    · go_wp2
      go_ret2
      obtain ⟨i1, i2, i3, i4, i5, i6⟩ := hinv
      have e1 : b = a := by omega
      subst e1
      refine ⟨b, rfl, ⟨i1, i3, by omega, ?_⟩, hbw⟩
      have := W_add kb m (off + f - 1) (b - f) 1
      rw [show off + f - 1 + (b - f) = off + b - 1 by omega] at this
      rw [show b - b + 1 = 1 by omega] at i6
      omega
end Go.Proofs.YbulkeeawFmt
