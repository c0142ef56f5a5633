import Derived.RangeFuncNested
import Derived.RangeFuncCalls
import Derived.OrdersIn
import Derived.OrdersHeld
import Derived.TacticsIn
namespace Go.Proofs.Ybulkeeeq
open Go
set_option linter.unusedVariables false

/-! ### A region that draws, in a round of a loop over a function: out of the laws outside one -/
def noDefer (ops : Array Oper) : Bool := ops.all fun o => match o.op with | .defer _ => false | _ => true
theorem noDefer_spec {ops : Array Oper} (h : noDefer ops = true) {i : Nat} {o : Oper} (hi : ops[i]? = some o) : ∀ c, o.op ≠ .defer c := by
  intro c hc
  unfold noDefer at h
  rw [Array.all_eq_true] at h
  obtain ⟨hl, he⟩ := Array.getElem?_eq_some_iff.1 hi
  have := h i hl
  rw [he] at this
  simp [hc] at this

theorem wpIn_of_wp_oper {P : Program} {l n : Nat} {o : Oper} {a : Act} {w : World} {K : Act → World → Prop} {Q : Exit → Act → World → Prop} (hd : ∀ c, o.op ≠ .defer c) (h : o.wp P a w K Q) : o.wpIn (Fence.wide.inRound l) n P a w K Q := by
  refine ⟨fun _ _ => trivial, ?_⟩
  have e : Oper.semAt (Fence.wide.inRound l).round a.eval o = execOp a.eval o := Oper.semAt_some l a.eval o hd
  rw [e]
  unfold Oper.wp at h
  generalize (execOp a.eval o).run P w = r at h ⊢
  cases r with
  | ok x w' =>
    cases x with
    | value v => exact h
    | skip => exact h
    | defer d => exact h
    | enter f args => exact ⟨fun hh => by simp [Fence.inRound, Fence.wide] at hh, CallsIn.inRound l (callsIn_wide.2 h)⟩
    | row r args =>
      refine ⟨fun hh => by simp [Fence.inRound, Fence.wide] at hh, fun c cs _ => ?_⟩
      obtain ⟨v, w'', r1, r2⟩ := h c cs
      exact ⟨v, w'', r1, stepsIn_wide.2 r2⟩
    | _ => exact h.elim
  | halt x w' => cases x <;> first | exact h | exact h.elim

theorem wpOpIn_of_wpOp {P : Program} {l n : Nat} {ops : Array Oper} {i : Nat} {a : Act} {w : World} {K : Act → World → Prop} {Q : Exit → Act → World → Prop} (hd : noDefer ops = true) (hq : ¬ LetsOut Q) (h : wpOp P ops Q i K a w) : wpOpIn (Fence.wide.inRound l) n P ops Q i K a w := by
  unfold wpOp at h
  unfold wpOpIn
  cases ho : ops[i]? with
  | none => rw [ho] at h; exact h
  | some o =>
    simp only [ho] at h
    by_cases hw : Region.wanted o (yielded ops a.tmps) = true
    · simp only [hw, if_true] at h ⊢
      rcases h with h | h
      · exact wpIn_of_wp_oper (noDefer_spec hd ho) h
      · exact absurd h.2 hq
    · simp only [hw, if_false, Bool.false_eq_true] at h ⊢
      exact ⟨fun _ _ => trivial, h⟩
theorem wpAnyIn_of_wpAny {P : Program} {l n : Nat} {md : Region.Mode} {ops : Array Oper} {Q : Exit → Act → World → Prop} (hd : noDefer ops = true) (hq : ¬ LetsOut Q) : ∀ (fuel : Nat) (listed : Array Bool) (a : Act) (w : World), wpAny P md ops Q fuel listed a w → wpAnyIn (Fence.wide.inRound l) n P md ops Q fuel listed a w
  | 0, _, _, _, h => h
  | fuel + 1, _, _, _, h => ⟨h.1, fun i hi => wpOpIn_mono (fun a' w' h' => wpAnyIn_of_wpAny hd hq fuel _ a' w' h') (wpOpIn_of_wpOp hd hq (h.2 i hi))⟩
/-- A call that comes up. -/
theorem wpOp_enter {P : Program} {ops : Array Oper} {i : Nat} {o : Oper} {a : Act} {w : World} {K : Act → World → Prop} {Q : Exit → Act → World → Prop} {f : FuncId} {args : Array Value} {R : Ending → World → Prop} (hi : ops[i]? = some o) (hw : Region.wanted o (yielded ops a.tmps) = true)
    (hrun : (execOp a.eval o).run P w = .ok (.enter f args) w) (hc : Calls P f args w R) (hK : ∀ e w', R e w' → ∃ v, e = .returned v ∧ K (a.put o.dst v) w') : wpOp P ops Q i K a w := by
  unfold wpOp
  simp only [hi, hw, if_true]
  refine Or.inl ?_
  unfold Oper.wp
  rw [hrun]
  refine Calls.mono hc fun e w' he => ?_
  obtain ⟨v, rfl, hk⟩ := hK e w' he
  exact hk
theorem region_round {P : Program} {l n id : Nat} {ops : Array Oper} {a : Act} {w : World} {Q : Exit → Act → World → Prop} {S : World → Prop} (hm : P.follows .mixedOrders = true) (hd : noDefer ops = true) (hq : ¬ LetsOut Q)
    (h : wpAnyH P .any ops Q S ops.size (Array.replicate ops.size false) a w.drew) : (Code.region id ops true).wpIn (Fence.wide.inRound l) n P Q a w :=
  wpIn_region_any hm (wpAnyIn_of_wpAny hd hq _ _ _ _ (wpAny_of_held _ _ _ _ h))
end Go.Proofs.Ybulkeeeq
