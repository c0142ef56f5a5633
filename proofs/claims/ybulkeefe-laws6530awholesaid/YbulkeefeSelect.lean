import Derived.Conc.LoneCalls
import Derived.WalkKit
namespace Go.Proofs.Ybulkeefe
open Go.RowKit Go.Conc

theorem stepG_comm_any {P : Program} {main : Bool} {b : Frame} {a : Act} {k : List Item} {cs : List Frame} {w : World} {ops : Array Oper} {i : Nat} {rest : List Nat} {o : Oper} {cases : Array CommCase} {blocking : Bool} {shape : CommShape} {w' : World}
    (ho : ops[i]? = some o) (hw : Region.wanted o (yielded ops a.tmps) = true) (hr : (execOp a.eval o).run P w = .ok (.comm cases blocking shape) w') :
    ∃ es, stepG P main (G (b.at a (.inRegion ops (i :: rest) :: k)) cs) w = .comm (G (b.at a (.inRegion ops (i :: rest) :: k)) cs) cases blocking shape w' es := by
  rw [stepG_oper ho hw]
  simp only [stepG.apply, Sem.runT_eq]
  cases main <;> simp [hr, G, Frame.at, GStep.after]

/-- A select of ONE receive, with a default; the channel is closed and its buffer empty: the case is taken: index 0. -/
theorem step_lone_select_shut {P : Program} {fr : Frame} {cs : List Frame} {w w₁ : World} {es : Array Event} {c cap s r : Nat} {z : Value} {tm : Bool}
    (h : stepG P true (G fr cs) w = .comm (G fr cs) #[rcase c z] false .select w₁ es) (hc : w₁.heap[c]? = some (.chan cap #[] true s r tm)) :
    step P (solo (G fr cs) w) = .next (solo (G (fr.finish (.tuple #[goInt 0, .bool false, z])) cs) w₁) := by
  have hp := partners_alone (c := c) true
  rw [step, stepT_solo rfl]
  simp [runT, solo, G, Array.swapAt!, Array.swapAt, h, GStep.es, communicate, ways, rcase, hc, hp, choose, Sem.run, Question.forced, bind, Sem.bind, pure, Goroutine.finishComm, commResult] at h ⊢

/-- A region whose first operation is one step of the machine. -/
theorem wp_region_stepped {P : Program} {id : Nat} {o : Oper} {rest : List Oper} {Q : Exit → Act → World → Prop} {a : Act} {w w' : World} {v : Value}
    (hstep : ∀ (b : Frame) (k : List Item) (cs : List Frame), step P (lone (b.at a (.inRegion (o :: rest).toArray (0 :: List.range' 1 rest.length) :: k)) cs w) =
      .next (lone ((b.at a (.inRegion (o :: rest).toArray (0 :: List.range' 1 rest.length) :: k)).finish v) cs w'))
    (h : wpList P (o :: rest).toArray Q rest (a.put o.dst v) w') : (Code.region id (o :: rest).toArray false).wp P Q a w := by
  intro b k cs
  have h' : wpOps P (o :: rest).toArray Q (List.range' 1 rest.length) (a.put o.dst v) w' := by
    rw [wpOps_eq_wpList rest 1 (fun j => by simp [Nat.add_comm 1 j])]; exact h
  obtain ⟨e, a', w2, hq, harr⟩ := wp_ops _ _ _ h' b k cs
  refine ⟨e, a', w2, hq, .of_steps (.head step_region (.one ?_)) harr⟩
  have e0 : List.range (o :: rest).toArray.size = 0 :: List.range' 1 rest.length := by
    rw [List.range_eq_range']; simp [List.range'_succ]
  rw [e0, hstep b k cs, Frame.finish_at]
  simp

theorem wp_select_default {P : Program} {id : Nat} {o : Oper} {rest : List Oper} {Q : Exit → Act → World → Prop} {a : Act} {w : World} {c cap s r : Nat} {z : Value} {tm : Bool}
    (hg : o.guard = none) (hr : (execOp a.eval o).run P w = .ok (.comm #[rcase c z] false .select) w) (hc : w.heap[c]? = some (.chan cap #[] false s r tm))
    (h : wpList P (o :: rest).toArray Q rest (a.put o.dst (.tuple #[goInt (-1), .bool false, z])) w) : (Code.region id (o :: rest).toArray false).wp P Q a w := by
  refine wp_region_stepped (fun b k cs => ?_) h
  obtain ⟨es, hs⟩ := stepG_comm_any (P := P) (main := true) (b := b) (k := k) (cs := cs) (rest := List.range' 1 rest.length) (i := 0) (ops := (o :: rest).toArray) (o := o) (a := a) (w := w) (by simp) (by simp [Region.wanted, hg]) hr
  exact step_lone_select_default hs hc

theorem wp_select_shut {P : Program} {id : Nat} {o : Oper} {rest : List Oper} {Q : Exit → Act → World → Prop} {a : Act} {w : World} {c cap s r : Nat} {z : Value} {tm : Bool}
    (hg : o.guard = none) (hr : (execOp a.eval o).run P w = .ok (.comm #[rcase c z] false .select) w) (hc : w.heap[c]? = some (.chan cap #[] true s r tm))
    (h : wpList P (o :: rest).toArray Q rest (a.put o.dst (.tuple #[goInt 0, .bool false, z])) w) : (Code.region id (o :: rest).toArray false).wp P Q a w := by
  refine wp_region_stepped (fun b k cs => ?_) h
  obtain ⟨es, hs⟩ := stepG_comm_any (P := P) (main := true) (b := b) (k := k) (cs := cs) (rest := List.range' 1 rest.length) (i := 0) (ops := (o :: rest).toArray) (o := o) (a := a) (w := w) (by simp) (by simp [Region.wanted, hg]) hr
  exact step_lone_select_shut hs hc

end Go.Proofs.Ybulkeefe
