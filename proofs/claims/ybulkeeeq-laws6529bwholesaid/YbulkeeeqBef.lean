import Derived.Test.YbulkeeeqMem
import Derived.Test.YbulkeeeqModel
import Derived.Test.YbulkeeeqProg
namespace Go.Proofs.Ybulkeeeq
open Go.RowKit
set_option linter.unusedVariables false

/-- An event's value: wv: what happens. -/
def evV (e : Ev) (wv : Value) : Value := .agg #[.int .i64 e.t, .int .u64 e.seq, wv]

set_option maxHeartbeats 1000000 in
theorem before_calls (a b : Ev) (va vb : Value) (w : World) : Calls Yba.prog 30 #[.agg #[.int .i64 a.t, .int .u64 a.seq, va], .agg #[.int .i64 b.t, .int .u64 b.seq, vb]] w fun e w' => e = .returned (.bool (bef a b)) ∧ Below w.heap.size w w' := by
  obtain ⟨ta, sa, ida, ca, da⟩ := a
  obtain ⟨tb, sb, idb, cb, db⟩ := b
  have hb2 : ∀ (o1 o2 : Obj), Below w.heap.size w ((w.alloc o1).alloc o2) := fun o1 o2 => ((Below.refl _ w).alloc (Nat.le_refl _) o1).alloc (by simp) o2
  by_cases h1 : ta < tb
  · have d1 : decide (ta < tb) = true := decide_eq_true h1
    have hv : bef ⟨ta, sa, ida, ca, da⟩ ⟨tb, sb, idb, cb, db⟩ = true := by unfold bef; simp [h1]
    simp only []
    rw [hv]
    go_enter Yba.func30, Yba.ntmps30
    go_wp2
    go_ret
    exact ⟨by first | rfl | simp, hb2 _ _⟩
  · have d1 : decide (ta < tb) = false := decide_eq_false h1
    by_cases h2 : ta = tb
    · have d2 : (ta == tb) = true := by simp [h2]
      have hv : bef ⟨ta, sa, ida, ca, da⟩ ⟨tb, sb, idb, cb, db⟩ = decide (sa < sb) := by unfold bef; simp [h2]
      simp only []
      rw [hv]
      clear h2 hv
      go_enter Yba.func30, Yba.ntmps30
      go_wp2
      go_ret
      exact ⟨by first | rfl | simp, hb2 _ _⟩
    · have d2 : (ta == tb) = false := by simp [h2]
      have hv : bef ⟨ta, sa, ida, ca, da⟩ ⟨tb, sb, idb, cb, db⟩ = false := by unfold bef; simp [h1, h2]
      simp only []
      rw [hv]
      go_enter Yba.func30, Yba.ntmps30
      go_wp2
      go_ret
      exact ⟨by first | rfl | simp, hb2 _ _⟩
end Go.Proofs.Ybulkeeeq
