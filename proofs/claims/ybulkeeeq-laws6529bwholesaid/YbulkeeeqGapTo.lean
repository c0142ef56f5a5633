import Derived.Test.YbulkeeeqLess
import Derived.Handy
namespace Go.Proofs.Ybulkeeeq
open Go.RowKit
set_option linter.unusedVariables false

theorem gc_le (x y : Nat) (hy : y < 4294967296) : gc x y ≤ 1 := by unfold gc; omega
theorem gd_le (x y c : Nat) (hy : y < 18446744073709551616) (hc : c ≤ 1) : gd x y c ≤ 1 := by unfold gd; omega
theorem gl_lt (x y : Nat) : gl x y < 4294967296 := by unfold gl; omega
theorem gm_lt (x y c : Nat) : gm x y c < 18446744073709551616 := by unfold gm; omega

set_option maxHeartbeats 1000000 in
set_option maxRecDepth 100000 in
theorem gapTo_calls (h1 m1 l1 h2 m2 l2 : Nat) (w : World) (q1 : h1 < 18446744073709551616) (q2 : m1 < 18446744073709551616) (q3 : l1 < 4294967296) (q4 : h2 < 18446744073709551616) (q5 : m2 < 18446744073709551616) (q6 : l2 < 4294967296) :
    Calls Yba.prog 56 #[.agg #[.int .u64 h1, .int .u64 m1, .int .u32 l1], .agg #[.int .u64 h2, .int .u64 m2, .int .u32 l2]] w fun ex w' =>
      ex = .returned (.agg #[.int .u64 (gm h1 h2 (gd m1 m2 (gc l1 l2)) : Nat), .int .u64 (gm m1 m2 (gc l1 l2) : Nat), .int .u32 (gl l1 l2 : Nat)]) ∧ Below w.heap.size w w' := by
  obtain ⟨c1, hc1⟩ : ∃ x, x = gc l1 l2 := ⟨_, rfl⟩
  obtain ⟨c2, hc2⟩ : ∃ x, x = gd m1 m2 c1 := ⟨_, rfl⟩
  obtain ⟨c3, hc3⟩ : ∃ x, x = gd h1 h2 c2 := ⟨_, rfl⟩
  obtain ⟨s1, hs1⟩ : ∃ x, x = gl l1 l2 := ⟨_, rfl⟩
  obtain ⟨s2, hs2⟩ : ∃ x, x = gm m1 m2 c1 := ⟨_, rfl⟩
  obtain ⟨s3, hs3⟩ : ∃ x, x = gm h1 h2 c2 := ⟨_, rfl⟩
  have g1 : c1 ≤ 1 := by rw [hc1]; exact gc_le _ _ q6
  have g2 : c2 ≤ 1 := by rw [hc2]; exact gd_le _ _ _ q5 g1
  obtain ⟨n1, hn1⟩ : ∃ x, x = 4294967295 - l1 := ⟨_, rfl⟩
  obtain ⟨n2, hn2⟩ : ∃ x, x = 18446744073709551615 - m1 := ⟨_, rfl⟩
  obtain ⟨n3, hn3⟩ : ∃ x, x = 18446744073709551615 - h1 := ⟨_, rfl⟩
  have e1 : bits .xor .u32 IntKind.u32.max (l1 : Int) = (n1 : Int) := by rw [hn1]; exact u32_not l1 q3
  have e2 : bits .xor .u64 IntKind.u64.max (m1 : Int) = (n2 : Int) := by rw [hn2]; exact u64_not m1 q2
  have e3 : bits .xor .u64 IntKind.u64.max (h1 : Int) = (n3 : Int) := by rw [hn3]; exact u64_not h1 q1
  have k1 : Hid (∀ w, Calls Yba.prog 68 #[.int .u32 l2, .int .u32 n1, .int .u32 0] w fun ex w' => ex = .returned (.tuple #[.int .u32 (s1 : Nat), .int .u32 (c1 : Nat)]) ∧ w' = w) := fun w => by
    have h := add32_calls l2 n1 0 q6 (by omega) (by omega) w
    have a1 : (l2 + n1 + 0) % 4294967296 = s1 := by rw [hs1, hn1]; rfl
    have a2 : (l2 + n1 + 0) / 4294967296 = c1 := by rw [hc1, hn1]; rfl
    rw [a1, a2] at h
    exact h
  have k2 : ∀ w, (callFunc 69 #[.int .u64 m2, .int .u64 n2, .int .u64 c1]).run Yba.prog w = .ok (.value (.tuple #[.int .u64 (s2 : Nat), .int .u64 (c2 : Nat)])) w := fun w => by
    have h := run_add64' m2 n2 c1 g1 w
    have a1 : (m2 + n2 + c1) % 18446744073709551616 = s2 := by rw [hs2, hn2]; rfl
    have a2 : (m2 + n2 + c1) / 18446744073709551616 = c2 := by rw [hc2, hn2]; rfl
    rw [a1, a2] at h
    exact h
  have k3 : ∀ w, (callFunc 69 #[.int .u64 h2, .int .u64 n3, .int .u64 c2]).run Yba.prog w = .ok (.value (.tuple #[.int .u64 (s3 : Nat), .int .u64 (c3 : Nat)])) w := fun w => by
    have h := run_add64' h2 n3 c2 g2 w
    have a1 : (h2 + n3 + c2) % 18446744073709551616 = s3 := by rw [hs3, hn3]; rfl
    have a2 : (h2 + n3 + c2) / 18446744073709551616 = c3 := by rw [hc3, hn3]; rfl
    rw [a1, a2] at h
    exact h
  rw [← hc1, ← hc2, ← hs1, ← hs2, ← hs3]
  clear hc1 hc2 hc3 hs1 hs2 hs3 hn1 hn2 hn3 q1 q2 q3 q4 q5 q6
  have hs1 : ¬ (IntKind.u32.signed = true) := by decide
  have hs2 : ¬ (IntKind.u64.signed = true) := by decide
  go_enter Yba.func56, Yba.ntmps56
  go_wp2_with (go_at_call 68; refine (k1.out _).mono ?_; rintro ex w2 ⟨rfl, rfl⟩)
  go_returns
  refine ⟨?_, ?_⟩
  · rfl
  · exact (((Below.refl _ w).alloc (Nat.le_refl _) _).alloc (by simp) _).alloc (by simp; omega) _
end Go.Proofs.Ybulkeeeq
