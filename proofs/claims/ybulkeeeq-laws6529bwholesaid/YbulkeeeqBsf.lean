import Derived.Test.YbulkeeeqKid
namespace Go.Proofs.Ybulkeeeq
open Go.RowKit
set_option linter.unusedVariables false

/-- j parts the first n: below it p holds, from it on it does not. -/
def Cut (p : Nat → Prop) (n j : Nat) : Prop := j ≤ n ∧ (∀ e, e < j → p e) ∧ ∀ e, j ≤ e → e < n → ¬ p e
/-- Once p fails it fails for good. -/
def Falls (p : Nat → Prop) (n : Nat) : Prop := ∀ e e', e ≤ e' → e' < n → p e' → p e

/-- The key of number e is less than s. -/
def klt (ks : Nat → Ent) (s : ByteArray) (e : Nat) : Prop := Lib.compareBytes (ks e).key.data.toList s.data.toList < 0

set_option maxHeartbeats 2000000 in
set_option maxRecDepth 100000 in
/-- slices.BinarySearchFunc on a run. -/
theorem search_calls (b n cap : Nat) (ks : Nat → Ent) (s : ByteArray) (w : World) (hn : n ≤ 65536) (hk : KRow w b n ks) (hbl : b < w.heap.size) (hf : Falls (klt ks s) n) :
    Calls Yba.prog 41 #[.slice (some ⟨b, 0, none⟩) n cap, .string s, .func (.func 42) #[] #[]] w fun ex w' => ∃ (j : Nat) (fd : Bool), ex = .returned (.tuple #[.int .i64 j, .bool fd]) ∧ Cut (klt ks s) n j ∧ Below w.heap.size w w' := by
  have hk' : Hid (∀ wr, Below w.heap.size w wr → KRow wr b n ks) := fun wr h => hk.below h hbl
  have hf' : Hid (Falls (klt ks s) n) := hf
  clear hk hf
  go_enter Yba.func41, Yba.ntmps41
  go_upto_block 0 with fail
  go_cut [9, 10, 11] from 15 to 34 (fun v9 _ _ wc => ∃ i : Nat, v9 = .int .i64 i ∧ Cut (klt ks s) n i ∧ Below w.heap.size w wc)
  case first =>
    go_wp2
    go_loopw [9, 10, 11] (fun v9 v10 _ wr => ∃ i j : Nat, v9 = .int .i64 i ∧ v10 = .int .i64 j ∧ i ≤ j ∧ j ≤ n ∧ (∀ e, e < i → klt ks s e) ∧ (∀ e, j ≤ e → e < n → ¬ klt ks s e) ∧ Below w.heap.size w wr) (fun v9 v10 _ _ => (intOf v10).toNat - (intOf v9).toNat)
    case atStart => exact ⟨0, n, rfl, rfl, Nat.zero_le _, Nat.le_refl _, fun e h => by omega, fun e h1 h2 => by omega, Below.refl _ _⟩
    case round =>
      obtain ⟨i, j, rfl, rfl, hij, hjn, hlo, hhi, hbel⟩ := hrel
      have hlo' : Hid (∀ e, e < i → klt ks s e) := hlo
      have hhi' : Hid (∀ e, j ≤ e → e < n → ¬ klt ks s e) := hhi
      have hbel' : Hid (Below w.heap.size w wr) := hbel
      clear hlo hhi
      by_cases hc : i < j
      · have hd : decide (i < j) = true := decide_eq_true hc
        obtain ⟨h, hh⟩ : ∃ x, x = (i + j) / 2 := ⟨_, rfl⟩
        obtain ⟨sm, hsm⟩ : ∃ x, x = i + j := ⟨_, rfl⟩
        have e1 : (i : Int) + (j : Int) = (sm : Int) := by omega
        have e2 : (sm : Int) / 2 = (h : Int) := by omega
        have hsb : sm ≤ 200000 := by omega
        have hih : i ≤ h := by omega
        have hhj : h < j := by omega
        have hhn : h < n := by omega
        obtain ⟨h1, hh1⟩ : ∃ x, x = h + 1 := ⟨_, rfl⟩
        have e3 : (h : Int) + 1 = (h1 : Int) := by omega
        have hh1' : Hid (h1 = h + 1) := hh1
        have hl : Hid (wr.rangeAt b (h * 21) (kidA (ks h).key (ks h).hi (ks h).lo).toList) := hk'.out wr hbel h hhn
        obtain ⟨cv, hcv⟩ : ∃ x, x = Lib.compareBytes (ks h).key.data.toList s.data.toList := ⟨_, rfl⟩
        have hcall : Hid (Calls Yba.prog 42 #[.agg (kidA (ks h).key (ks h).hi (ks h).lo), .string s] wr fun ex w' => ex = .returned (.int .i64 cv) ∧ Below wr.heap.size wr w') := by rw [hcv]; exact compareKey_calls _ _ _ _ wr
        have hcv' : Hid (cv = Lib.compareBytes (ks h).key.data.toList s.data.toList) := hcv
        clear hh hsm hh1 hcv hbel
        by_cases hq : cv < 0
        · have hdq : decide (cv < 0) = true := decide_eq_true hq
          have hlo2 : Hid (∀ e, e < h + 1 → klt ks s e) := fun e he => hf'.out e h (by omega) hhn (by unfold klt; rw [← hcv'.out]; exact hq)
          clear hq
          go_wp2_with (first
            | ((with_reducible refine wpList_load79 _ (o := ⟨some 28, _, _, _, _, _⟩) ?_ (.tmp 27) ?_ b (h * 21) _ _ _ ?_ hl.out ?_); (· rfl); (· rfl); (· (first | rfl | simp [Act.eval])))
            | (go_at_call 42; refine hcall.out.mono ?_; rintro ex w2 ⟨rfl, hq2⟩))
          exact ⟨⟨h1, j, rfl, rfl, by have := hh1'.out; omega, hjn, by rw [hh1'.out]; exact hlo2.out, hhi'.out, hbel'.out.trans (hq2.mono hbel'.out.size)⟩, by have := hh1'.out; simp [intOf]; omega⟩
        · have hdq : decide (cv < 0) = false := decide_eq_false hq
          have hhi2 : Hid (∀ e, h ≤ e → e < n → ¬ klt ks s e) := fun e he hen hlt => hq (by rw [hcv'.out]; exact hf'.out h e he hen hlt)
          clear hq
          go_wp2_with (first
            | ((with_reducible refine wpList_load79 _ (o := ⟨some 28, _, _, _, _, _⟩) ?_ (.tmp 27) ?_ b (h * 21) _ _ _ ?_ hl.out ?_); (· rfl); (· rfl); (· (first | rfl | simp [Act.eval])))
            | (go_at_call 42; refine hcall.out.mono ?_; rintro ex w2 ⟨rfl, hq2⟩))
          exact ⟨⟨i, h, rfl, rfl, hih, by omega, hlo'.out, hhi2.out, hbel'.out.trans (hq2.mono hbel'.out.size)⟩, by simp [intOf]; omega⟩
      · have hd : decide (i < j) = false := decide_eq_false hc
        have hfin : Hid (Cut (klt ks s) n i) := ⟨by omega, hlo'.out, fun e h1 h2 => hhi'.out e (by omega) h2⟩
        clear hbel
        go_wp2
        go_meet
        case rel => exact ⟨i, rfl, hfin.out, hbel'.out⟩
  case rest =>
    obtain ⟨i, rfl, hcutp, hbel⟩ := hcut
    have hin := hcutp.1
    have hcut' : Hid (Cut (klt ks s) n i) := hcutp
    have hbel' : Hid (Below w.heap.size w wc) := hbel
    clear hcutp
    by_cases hc : i < n
    · have hd : decide (i < n) = true := decide_eq_true hc
      have hl : Hid (wc.rangeAt b (i * 21) (kidA (ks i).key (ks i).hi (ks i).lo).toList) := hk'.out wc hbel i hc
      obtain ⟨cv, hcv⟩ : ∃ x, x = Lib.compareBytes (ks i).key.data.toList s.data.toList := ⟨_, rfl⟩
      have hcall : Hid (Calls Yba.prog 42 #[.agg (kidA (ks i).key (ks i).hi (ks i).lo), .string s] wc fun ex w' => ex = .returned (.int .i64 cv) ∧ Below wc.heap.size wc w') := by rw [hcv]; exact compareKey_calls _ _ _ _ wc
      clear hcv hbel
      go_wp2_with (first
        | ((with_reducible refine wpList_load79 _ (o := ⟨some 44, _, _, _, _, _⟩) ?_ (.tmp 43) ?_ b (i * 21) _ _ _ ?_ hl.out ?_); (· rfl); (· rfl); (· (first | rfl | simp [Act.eval])))
        | (go_at_call 42; refine hcall.out.mono ?_; rintro ex w2 ⟨rfl, hq2⟩))
      go_returns
      exact ⟨i, _, rfl, hcut'.out, hbel'.out.trans (hq2.mono hbel'.out.size)⟩
    · have hd : decide (i < n) = false := decide_eq_false hc
      clear hbel
      go_wp2
      go_returns
      exact ⟨i, _, rfl, hcut'.out, hbel'.out⟩
end Go.Proofs.Ybulkeeeq
