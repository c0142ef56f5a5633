import Derived.Test.YbulkeeeqCarry
import Derived.Test.YbulkeeeqGap
namespace Go.Proofs.Ybulkeeeq
open Go.RowKit
set_option linter.unusedVariables false

theorem b1_le (x y : Nat) : b1 x y ≤ 1 := by unfold b1; split <;> omega
theorem b2_le (x y b : Nat) : b2 x y b ≤ 1 := by unfold b2; split <;> omega

set_option maxHeartbeats 1000000 in
set_option maxRecDepth 100000 in
theorem wless_calls (h1 m1 l1 h2 m2 l2 : Nat) (w : World) (q1 : h1 < 18446744073709551616) (q2 : m1 < 18446744073709551616) (q3 : l1 < 4294967296) (q4 : h2 < 18446744073709551616) (q5 : m2 < 18446744073709551616) (q6 : l2 < 4294967296) :
    Calls Yba.prog 57 #[.agg #[.int .u64 h1, .int .u64 m1, .int .u32 l1], .agg #[.int .u64 h2, .int .u64 m2, .int .u32 l2]] w fun ex w' => ex = .returned (.bool (decide (lessN h1 m1 l1 h2 m2 l2 ≠ 0))) ∧ Below w.heap.size w w' := by
  obtain ⟨r1, hr1⟩ : ∃ x, x = b1 l1 l2 := ⟨_, rfl⟩
  obtain ⟨r2, hr2⟩ : ∃ x, x = b2 m1 m2 r1 := ⟨_, rfl⟩
  obtain ⟨r3, hr3⟩ : ∃ x, x = b2 h1 h2 r2 := ⟨_, rfl⟩
  have g1 : r1 ≤ 1 := by rw [hr1]; exact b1_le _ _
  have g2 : r2 ≤ 1 := by rw [hr2]; exact b2_le _ _ _
  have g3 : r3 ≤ 1 := by rw [hr3]; exact b2_le _ _ _
  obtain ⟨d1, hd1⟩ : ∃ x, x = (l1 + 4294967296 - l2) % 4294967296 := ⟨_, rfl⟩
  have k1 : Hid (∀ w, Calls Yba.prog 70 #[.int .u32 l1, .int .u32 l2, .int .u32 0] w fun ex w' => ex = .returned (.tuple #[.int .u32 d1, .int .u32 r1]) ∧ w' = w) := fun w => sub32_calls l1 l2 d1 r1 q3 q6 w hd1 hr1
  obtain ⟨d2, hd2⟩ : ∃ x, x = (m1 + 18446744073709551616 - m2 - r1) % 18446744073709551616 := ⟨_, rfl⟩
  obtain ⟨d3, hd3⟩ : ∃ x, x = (h1 + 18446744073709551616 - h2 - r2) % 18446744073709551616 := ⟨_, rfl⟩
  have k2 : ∀ w, (callFunc 71 #[.int .u64 m1, .int .u64 m2, .int .u64 r1]).run Yba.prog w = .ok (.value (.tuple #[.int .u64 (d2 : Nat), .int .u64 (r2 : Nat)])) w := fun w => by rw [hd2, hr2]; exact run_sub64' m1 m2 r1 g1 w
  have k3 : ∀ w, (callFunc 71 #[.int .u64 h1, .int .u64 h2, .int .u64 r2]).run Yba.prog w = .ok (.value (.tuple #[.int .u64 (d3 : Nat), .int .u64 (r3 : Nat)])) w := fun w => by rw [hd3, hr3]; exact run_sub64' h1 h2 r2 g2 w
  have hres : Hid (lessN h1 m1 l1 h2 m2 l2 = r3) := by unfold Hid lessN; rw [← hr1, ← hr2, ← hr3]
  clear hr1 hr2 hr3 hd1 hd2 hd3 q1 q2 q3 q4 q5 q6
  go_enter Yba.func57, Yba.ntmps57
  go_wp2_with (go_at_call 70; refine (k1.out _).mono ?_; rintro ex w2 ⟨rfl, rfl⟩)
  go_ret
  refine ⟨?_, ?_⟩
  · rw [hres.out]
    by_cases c : r3 = 0
    · simp [c]
    · have : ((r3 : Int) != 0) = true := by simp; omega
      simp [c, this]
  · exact ((Below.refl _ w).alloc (Nat.le_refl _) _).alloc (by simp) _
end Go.Proofs.Ybulkeeeq
