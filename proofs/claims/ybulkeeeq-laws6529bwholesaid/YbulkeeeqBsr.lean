import Derived.Test.YbulkeeeqBsf
namespace Go.Proofs.Ybulkeeeq
open Go.RowKit
set_option linter.unusedVariables false

/-- How long run r is. -/
def rlen (L M r : Nat) : Nat := min L (M - r * L)
/-- The nR runs, as they lie. -/
def RRow (w : World) (n0 gR nR L M : Nat) (ek : Nat → Ent) : Prop := ∀ r, r < nR → ∃ b c, w.cell? ⟨gR, r, none⟩ = some (.slice (some ⟨b, 0, none⟩) (rlen L M r) c) ∧ b < n0 ∧ rlen L M r ≤ c ∧ KRow w b (rlen L M r) (fun e => ek (r * L + e))
theorem RRow.below {w w' : World} {n0 gR nR L M : Nat} {ek : Nat → Ent} (h : RRow w n0 gR nR L M ek) (hb : Below n0 w w') (hg : gR < n0) : RRow w' n0 gR nR L M ek := fun r hr => by
  obtain ⟨b, c, h1, h2, h4, h3⟩ := h r hr
  exact ⟨b, c, by rw [hb.cell (by exact hg)]; exact h1, h2, h4, h3.below hb h2⟩
/-- The last key of run r is less than s. -/
def rlt (ek : Nat → Ent) (L M : Nat) (s : ByteArray) (r : Nat) : Prop := klt ek s (r * L + (rlen L M r - 1))

set_option maxHeartbeats 2000000 in
set_option maxRecDepth 100000 in
/-- slices.BinarySearchFunc on the runs. -/
theorem searchRuns_calls (n0 b n cap L M : Nat) (ek : Nat → Ent) (s : ByteArray) (w : World) (hn : n ≤ 65536) (hM : M ≤ 65536) (hk : RRow w n0 b n L M ek) (hbl : b < n0) (hn0 : n0 ≤ w.heap.size) (hpos : ∀ r, r < n → 0 < rlen L M r) (hf : Falls (rlt ek L M s) n) :
    Calls Yba.prog 53 #[.slice (some ⟨b, 0, none⟩) n cap, .string s, .func (.func 54) #[] #[]] w fun ex w' => ∃ (j : Nat) (fd : Bool), ex = .returned (.tuple #[.int .i64 j, .bool fd]) ∧ Cut (rlt ek L M s) n j ∧ Below w.heap.size w w' := by
  have hk' : Hid (∀ wr, Below w.heap.size w wr → RRow wr n0 b n L M ek) := fun wr h => hk.below (h.mono hn0) hbl
  have hpos' : Hid (∀ r, r < n → 0 < rlen L M r) := hpos
  have hf' : Hid (Falls (rlt ek L M s) n) := hf
  clear hk hf hpos
  go_enter Yba.func53, Yba.ntmps53
  go_upto_block 0 with fail
  go_cut [9, 10, 11] from 15 to 34 (fun v9 _ _ wc => ∃ i : Nat, v9 = .int .i64 i ∧ Cut (rlt ek L M s) n i ∧ Below w.heap.size w wc)
  case first =>
    go_wp2
    go_loopw [9, 10, 11] (fun v9 v10 _ wr => ∃ i j : Nat, v9 = .int .i64 i ∧ v10 = .int .i64 j ∧ i ≤ j ∧ j ≤ n ∧ (∀ e, e < i → rlt ek L M s e) ∧ (∀ e, j ≤ e → e < n → ¬ rlt ek L M s e) ∧ Below w.heap.size w wr) (fun v9 v10 _ _ => (intOf v10).toNat - (intOf v9).toNat)
    case atStart => exact ⟨0, n, rfl, rfl, Nat.zero_le _, Nat.le_refl _, fun e h => by omega, fun e h1 h2 => by omega, Below.refl _ _⟩
    case round =>
      obtain ⟨i, j, rfl, rfl, hij, hjn, hlo, hhi, hbel⟩ := hrel
      have hlo' : Hid (∀ e, e < i → rlt ek L M s e) := hlo
      have hhi' : Hid (∀ e, j ≤ e → e < n → ¬ rlt ek L M s e) := hhi
      have hbel' : Hid (Below w.heap.size w wr) := hbel
      clear hlo hhi
      by_cases hc : i < j
      · have hd : decide (i < j) = true := decide_eq_true hc
        obtain ⟨h, hh⟩ : ∃ x, x = (i + j) / 2 := ⟨_, rfl⟩
        obtain ⟨sm, hsm⟩ : ∃ x, x = i + j := ⟨_, rfl⟩
        have e1 : (i : Int) + (j : Int) = (sm : Int) := by omega
        have e2 : (sm : Int) / 2 = (h : Int) := by omega
        have hsb : sm ≤ 200000 := by omega
        have hih : i ≤ h := by omega
        have hhj : h < j := by omega
        have hhn : h < n := by omega
        obtain ⟨h1, hh1⟩ : ∃ x, x = h + 1 := ⟨_, rfl⟩
        have e3 : (h : Int) + 1 = (h1 : Int) := by omega
        have hh1' : Hid (h1 = h + 1) := hh1
        obtain ⟨rb, rc, hl, hrb, _, hkr⟩ := hk'.out wr hbel h hhn
        obtain ⟨rl, hrl⟩ : ∃ x, x = rlen L M h := ⟨_, rfl⟩
        rw [← hrl] at hl
        obtain ⟨cv, hcv⟩ : ∃ x, x = Lib.compareBytes (ek (h * L + (rlen L M h - 1))).key.data.toList s.data.toList := ⟨_, rfl⟩
        have hcall : Hid (Calls Yba.prog 54 #[.slice (some ⟨rb, 0, none⟩) rl rc, .string s] wr fun ex w' => ex = .returned (.int .i64 cv) ∧ Below wr.heap.size wr w') := by
          rw [hcv, hrl]; exact lastKey_calls rb _ rc _ s wr (hpos'.out h hhn) (by unfold rlen; omega) hkr
        have hcv' : Hid (cv = Lib.compareBytes (ek (h * L + (rlen L M h - 1))).key.data.toList s.data.toList) := hcv
        clear hkr hrb hrl
        clear hh hsm hh1 hcv hbel
        by_cases hq : cv < 0
        · have hdq : decide (cv < 0) = true := decide_eq_true hq
          have hlo2 : Hid (∀ e, e < h + 1 → rlt ek L M s e) := fun e he => hf'.out e h (by omega) hhn (by unfold rlt klt; rw [← hcv'.out]; exact hq)
          clear hq
          go_wp2_with (go_at_call 54; refine hcall.out.mono ?_; rintro ex w2 ⟨rfl, hq2⟩)
          exact ⟨⟨h1, j, rfl, rfl, by have := hh1'.out; omega, hjn, by rw [hh1'.out]; exact hlo2.out, hhi'.out, hbel'.out.trans (hq2.mono hbel'.out.size)⟩, by have := hh1'.out; simp [intOf]; omega⟩
        · have hdq : decide (cv < 0) = false := decide_eq_false hq
          have hhi2 : Hid (∀ e, h ≤ e → e < n → ¬ rlt ek L M s e) := fun e he hen hlt => hq (by rw [hcv'.out]; exact hf'.out h e he hen hlt)
          clear hq
          go_wp2_with (go_at_call 54; refine hcall.out.mono ?_; rintro ex w2 ⟨rfl, hq2⟩)
          exact ⟨⟨i, h, rfl, rfl, hih, by omega, hlo'.out, hhi2.out, hbel'.out.trans (hq2.mono hbel'.out.size)⟩, by simp [intOf]; omega⟩
      · have hd : decide (i < j) = false := decide_eq_false hc
        have hfin : Hid (Cut (rlt ek L M s) n i) := ⟨by omega, hlo'.out, fun e h1 h2 => hhi'.out e (by omega) h2⟩
        clear hbel
        go_wp2
        go_meet
        case rel => exact ⟨i, rfl, hfin.out, hbel'.out⟩
  case rest =>
    obtain ⟨i, rfl, hcutp, hbel⟩ := hcut
    have hin := hcutp.1
    have hcut' : Hid (Cut (rlt ek L M s) n i) := hcutp
    have hbel' : Hid (Below w.heap.size w wc) := hbel
    clear hcutp
    by_cases hc : i < n
    · have hd : decide (i < n) = true := decide_eq_true hc
      obtain ⟨rb, rc, hl, hrb, _, hkr⟩ := hk'.out wc hbel i hc
      obtain ⟨rl, hrl⟩ : ∃ x, x = rlen L M i := ⟨_, rfl⟩
      rw [← hrl] at hl
      obtain ⟨cv, hcv⟩ : ∃ x, x = Lib.compareBytes (ek (i * L + (rlen L M i - 1))).key.data.toList s.data.toList := ⟨_, rfl⟩
      have hcall : Hid (Calls Yba.prog 54 #[.slice (some ⟨rb, 0, none⟩) rl rc, .string s] wc fun ex w' => ex = .returned (.int .i64 cv) ∧ Below wc.heap.size wc w') := by
        rw [hcv, hrl]; exact lastKey_calls rb _ rc _ s wc (hpos'.out i hc) (by unfold rlen; omega) hkr
      clear hcv hbel hkr hrb hrl
      go_wp2_with (go_at_call 54; refine hcall.out.mono ?_; rintro ex w2 ⟨rfl, hq2⟩)
      go_returns
      exact ⟨i, _, rfl, hcut'.out, hbel'.out.trans (hq2.mono hbel'.out.size)⟩
    · have hd : decide (i < n) = false := decide_eq_false hc
      clear hbel
      go_wp2
      go_returns
      exact ⟨i, _, rfl, hcut'.out, hbel'.out⟩
end Go.Proofs.Ybulkeeeq
