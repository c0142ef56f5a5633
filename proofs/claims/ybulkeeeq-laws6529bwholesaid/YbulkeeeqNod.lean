import Derived.Test.YbulkeeeqPut
import Derived.Test.YbulkeeeqRuns
namespace Go.Proofs.Ybulkeeeq
open Go.RowKit
set_option linter.unusedVariables false

theorem RRow.mono {w : World} {n0 n1 gR nR L M : Nat} {ek : Nat → Ent} (h : RRow w n0 gR nR L M ek) (hn : n0 ≤ n1) : RRow w n1 gR nR L M ek := fun r hr => by
  obtain ⟨b, c, h1, h2, h4, h3⟩ := h r hr
  exact ⟨b, c, h1, by omega, h4, h3⟩
theorem RunsI.shape {x : World} {E L M r : Nat} {ek : Nat → Ent} {v : Value} {rb rc : Nat → Nat} (h : RunsI x E L M r ek v rb rc) : ∃ ra cR, v = .slice ra r cR := by
  by_cases hr : r = 0
  · exact ⟨none, 0, by rw [h.nil hr, hr]⟩
  · obtain ⟨gR, cR, cur, h1, _⟩ := h.rrow (by omega)
    exact ⟨_, _, h1⟩
/-- The node's keys, for eachHeld. -/
theorem keys_of {w9 w : World} {E L M r nb n0 mo mu mc : Nat} {ek : Nat → Ent} {v : Value} {rb rc : Nat → Nat} (h : RunsI w9 E L M r ek v rb rc) (hbel : Below w9.heap.size w9 w) (hnode : Blk w nb 121 (nodeA mo mu mc v)) (hGn : w9.heap.size ≤ nb) (hnb : nb < n0) :
    ∃ gR cR, gR < n0 ∧ ∀ x, Fr nb none w.heap.size w x → x.cell? ⟨nb, 59, none⟩ = w.cell? ⟨nb, 59, none⟩ → KeysIn x nb gR r cR n0 L M ek := by
  have hc : w.cell? ⟨nb, 59, none⟩ = some v := hnode.cell 59
  by_cases hr : r = 0
  · refine ⟨0, 0, by omega, fun x hx hq => Or.inl ⟨hr, ?_⟩⟩
    rw [hq, hc, h.nil hr]
  · obtain ⟨gR, cR, cur, h1, h2, h3, h4⟩ := h.rrow (by omega)
    have hg := h2.lt
    refine ⟨gR, cR, by omega, fun x hx hq => Or.inr ⟨by omega, by rw [hq, hc, h1], ?_⟩⟩
    have hs := hbel.size
    have hb : Below w9.heap.size w9 x := hbel.trans ⟨hx.os, hx.tape, hx.output, hx.size, fun k hk => hx.block k (by omega) (by omega) (by simp)⟩
    exact (h4.below hb hg).mono (by omega)
theorem held_of {wm w : World} {G M n0 : Nat} {ek : Nat → Ent} {fo fu fc : MF} (h : MI wm G M ek fo fu fc) (hb : Below wm.heap.size wm w) (hn : wm.heap.size ≤ n0) : HeldIn w n0 G (G + 1) (G + 1 + 1) M M M M fo fu fc ek (fun i => vOf (ek i)) := by
  have h1 := h.o.lt
  have h2 := h.u.lt
  have h3 := h.c.lt
  refine ⟨h.o.below hb h1, h.u.below hb h2, h.c.below hb h3, by omega, by omega, by omega, fun i hi => ?_⟩
  obtain ⟨g, q1, q2⟩ := h.each i hi
  have := q2.lt
  exact ⟨g, q1, by omega, q2.below hb q2.lt⟩
theorem p0_exists {N M : Nat} {en : Nat → Ent} {u : Nat → Nat} (x : Uq N en M u) (s : ByteArray) : ∃ p0, Cut (klt (fun i => en (u i)) s) M p0 := by
  classical exact cut_exists (x.falls s)
theorem wpList_build87 (w : World) {ops : Array Oper} {rest : List Oper} {o : Oper} {a : Act} {Q : Exit → Act → World → Prop}
    (hg : o.guard = none) (x : Operand) (hop : o.op = Op.build 87 #[(0, x)]) (ra : Option Addr) (n c : Nat) (hx : a.eval x = .slice ra n c)
    (hK : wpList Yba.prog ops Q rest (a.put o.dst (.agg #[.slice ra n c])) w) : wpList Yba.prog ops Q (o :: rest) a w := by
  refine wpList_plain hg fun K hK' => ?_
  have hrun := run_build87 ra n c w
  unfold Oper.wp
  simp [execOp, hop, hx, hrun, Result.andThen]
  exact hK' _ _ hK
theorem wpList_build121 (w : World) {ops : Array Oper} {rest : List Oper} {o : Oper} {a : Act} {Q : Exit → Act → World → Prop}
    (hg : o.guard = none) (x y1 y2 y3 : Operand) (hop : o.op = Op.build 121 #[(18, x), (15, y1), (16, y2), (17, y3)]) (mo mu mc : Nat) (ra : Option Addr) (n c : Nat) (hx : a.eval x = .agg #[.slice ra n c]) (h1 : a.eval y1 = .map (some mo)) (h2 : a.eval y2 = .map (some mu)) (h3 : a.eval y3 = .map (some mc))
    (hK : wpList Yba.prog ops Q rest (a.put o.dst (.agg (nodeA mo mu mc (.slice ra n c)))) w) : wpList Yba.prog ops Q (o :: rest) a w := by
  refine wpList_plain hg fun K hK' => ?_
  have hrun := run_build121 mo mu mc ra n c w
  unfold Oper.wp
  simp [execOp, hop, hx, h1, h2, h3, hrun, Result.andThen]
  exact hK' _ _ hK
end Go.Proofs.Ybulkeeeq
