import Derived.Test.YbulkeeeqMi
namespace Go.Proofs.Ybulkeeeq
open Go.RowKit
theorem wpList_build84 (w : World) {ops : Array Oper} {rest : List Oper} {o : Oper} {a : Act} {Q : Exit → Act → World → Prop}
    (hg : o.guard = none) (x y z : Operand) (hop : o.op = Op.build 84 #[(0, x), (1, y), (2, z)]) (hi lo : Nat) (va : Option Addr) (vn vc vr : Nat)
    (hx : a.eval x = .agg (idA hi lo)) (hy : a.eval y = .slice va vn vc) (hz : a.eval z = .int .u64 vr)
    (hK : wpList Yba.prog ops Q rest (a.put o.dst (.agg (heldB hi lo va vn vc vr))) w) : wpList Yba.prog ops Q (o :: rest) a w := by
  refine wpList_plain hg fun K hK' => ?_
  have hrun := run_build84 hi lo va vn vc vr w
  unfold Oper.wp
  simp [execOp, hop, hx, hy, hz, hrun, Result.andThen]
  exact hK' _ _ hK
theorem wpList_boxed (w : World) {ops : Array Oper} {rest : List Oper} {o : Oper} {a : Act} {Q : Exit → Act → World → Prop}
    (hg : o.guard = none) (t : TypeId) (x : Operand) (hop : o.op = Op.box t x) (cs : Array Value) (hx : a.eval x = .agg cs)
    (hK : ∀ w', w' = w.alloc (.cells cs t) → wpList Yba.prog ops Q rest (a.put o.dst (.pointer (some ⟨w.heap.size, 0, none⟩))) w') : wpList Yba.prog ops Q (o :: rest) a w := by
  refine wpList_plain hg fun K hK' => ?_
  unfold Oper.wp execOp
  simp only [hop, hx, Value.cells, Sem.run_bind, Instr.box, newVar, newRow, run_newObj_alloc, Sem.run_pure, Result.andThen_ok]
  exact hK' _ _ (hK _ rfl)
theorem blk_grown84' {x y : World} {b g : Nat} {cs : Array Value} {n : Nat} {m : MF} (hm : MapIs x b n m) (hb : Blk x g 84 cs) (hg : x.grownBy y (some b)) : Blk y g 84 cs := blk_grown84 hm hb hg
theorem RS.put1 {w9 : World} {G k n1 n2 n3 e0 e1 : Nat} {ek : Nat → Ent} {fo fu fc f1 f2 f3 : MF} {x y z : World} (h : RS w9 G k n1 n2 n3 e0 e1 ek fo fu fc f1 f2 f3 x) {e : Ent} (he : ek k = e) {vr : Nat}
    (hy : y = x.alloc (.cells (heldB e.hi e.lo e.va e.vn e.vc vr) 84)) (hm : MapIs z G (n1 + 1) (updM f1 e.key.data.toList x.heap.size)) (hg : y.grownBy z (some G)) :
    RS w9 G k (n1 + 1) n2 n3 e0 e1 ek fo fu fc (updM f1 e.key.data.toList x.heap.size) f2 f3 z ∧ Blk z x.heap.size 84 (heldA e vr) ∧ (∀ g cs, Blk x g 84 cs → Blk z g 84 cs) := by
  subst he hy
  have hb := h.j.o.alloc (.cells (heldB (ek k).hi (ek k).lo (ek k).va (ek k).vn (ek k).vc vr) 84)
  exact ⟨h.gen _ hb (by omega) hg ((h.j.below ((Below.refl _ x).alloc (Nat.le_refl _) _)).put1 hm hg), blk_grown84 hb (Blk.new _ _ _) hg, fun g cs hx => blk_grown84 hb (hx.alloc _) hg⟩
theorem RS.put2 {w9 : World} {G k n1 n2 n3 e0 e1 : Nat} {ek : Nat → Ent} {fo fu fc f1 f2 f3 : MF} {x y z : World} (h : RS w9 G k n1 n2 n3 e0 e1 ek fo fu fc f1 f2 f3 x) {e : Ent} (he : ek k = e) {vr : Nat}
    (hy : y = x.alloc (.cells (heldB e.hi e.lo e.va e.vn e.vc vr) 84)) (hm : MapIs z (G + 1) (n2 + 1) (updM f2 e.key.data.toList x.heap.size)) (hg : y.grownBy z (some (G + 1))) :
    RS w9 G k n1 (n2 + 1) n3 e0 e1 ek fo fu fc f1 (updM f2 e.key.data.toList x.heap.size) f3 z ∧ Blk z x.heap.size 84 (heldA e vr) ∧ (∀ g cs, Blk x g 84 cs → Blk z g 84 cs) := by
  subst he hy
  have hb := h.j.u.alloc (.cells (heldB (ek k).hi (ek k).lo (ek k).va (ek k).vn (ek k).vc vr) 84)
  exact ⟨h.gen _ hb (by omega) hg ((h.j.below ((Below.refl _ x).alloc (Nat.le_refl _) _)).put2 hm hg), blk_grown84 hb (Blk.new _ _ _) hg, fun g cs hx => blk_grown84 hb (hx.alloc _) hg⟩
theorem RS.put3 {w9 : World} {G k n1 n2 n3 e0 e1 : Nat} {ek : Nat → Ent} {fo fu fc f1 f2 f3 : MF} {x y z : World} (h : RS w9 G k n1 n2 n3 e0 e1 ek fo fu fc f1 f2 f3 x) {e : Ent} (he : ek k = e) {vr : Nat}
    (hy : y = x.alloc (.cells (heldB e.hi e.lo e.va e.vn e.vc vr) 84)) (hm : MapIs z (G + 1 + 1) (n3 + 1) (updM f3 e.key.data.toList x.heap.size)) (hg : y.grownBy z (some (G + 1 + 1))) :
    RS w9 G k n1 n2 (n3 + 1) e0 e1 ek fo fu fc f1 f2 (updM f3 e.key.data.toList x.heap.size) z ∧ Blk z x.heap.size 84 (heldA e vr) ∧ (∀ g cs, Blk x g 84 cs → Blk z g 84 cs) := by
  subst he hy
  have hb := h.j.c.alloc (.cells (heldB (ek k).hi (ek k).lo (ek k).va (ek k).vn (ek k).vc vr) 84)
  exact ⟨h.gen _ hb (by omega) hg ((h.j.below ((Below.refl _ x).alloc (Nat.le_refl _) _)).put3 hm hg), blk_grown84 hb (Blk.new _ _ _) hg, fun g cs hx => blk_grown84 hb (hx.alloc _) hg⟩
/-- A held entry lies in the map f. -/
def Has (x : World) (f : MF) (e : Ent) (vr : Nat) : Prop := ∃ g, f e.key.data.toList = some g ∧ Blk x g 84 (heldA e vr)
theorem Has.keep {x z : World} {f : MF} {e : Ent} {vr : Nat} (h : Has x f e vr) (hk : ∀ g cs, Blk x g 84 cs → Blk z g 84 cs) : Has z f e vr := by
  obtain ⟨g, h1, h2⟩ := h
  exact ⟨g, h1, hk _ _ h2⟩
theorem RS.fin {w9 w : World} {G k n1 n2 n3 e0 e1 : Nat} {ek : Nat → Ent} {fo fu fc f1 f2 f3 : MF} {x : World} (h : RS w9 G k n1 n2 n3 e0 e1 ek fo fu fc f1 f2 f3 x) {e : Ent} (he : ek k = e) (hmi : MI w G k ek fo fu fc)
    (l1 : n1 ≤ k + 1) (l2 : n2 ≤ k + 1) (l3 : n3 ≤ k + 1) (hne : ∀ i, i < k → (ek i).key.data.toList ≠ (ek k).key.data.toList) {y1 y2 ver v1 v2 : Nat} (hv : vOf e = if y1 ≠ 0 then ver else if y2 ≠ 0 then v1 else v2)
    (h1 : y1 ≠ 0 → Has x f1 e ver) (z1 : y1 = 0 → f1 = fo) (h2 : y2 ≠ 0 → Has x f2 e v1) (z2 : y2 = 0 → f2 = fu) (h3 : y1 = 0 → y2 = 0 → Has x f3 e v2) : MI x G (k + 1) ek f1 f2 f3 := by
  subst he
  obtain ⟨q1, q2, q3⟩ := hmi.absent hne
  by_cases c1 : y1 = 0
  · by_cases c2 : y2 = 0
    · obtain ⟨g, r1, r2⟩ := h3 c1 c2
      rw [if_neg (by omega), if_neg (by omega)] at hv
      exact h.j.done l1 l2 l3 hne hmi.dom (g := g) (Or.inr (Or.inr ⟨by rw [z1 c1]; exact q1, by rw [z2 c2]; exact q2, r1⟩)) (by rw [hv]; exact r2)
    · obtain ⟨g, r1, r2⟩ := h2 c2
      rw [if_neg (by omega), if_pos c2] at hv
      exact h.j.done l1 l2 l3 hne hmi.dom (g := g) (Or.inr (Or.inl ⟨by rw [z1 c1]; exact q1, r1⟩)) (by rw [hv]; exact r2)
  · obtain ⟨g, r1, r2⟩ := h1 c1
    rw [if_pos c1] at hv
    exact h.j.done l1 l2 l3 hne hmi.dom (g := g) (Or.inl r1) (by rw [hv]; exact r2)
theorem wrap_u64 (x : Int) : IntKind.u64.wrap x = x % 18446744073709551616 := by
  first
  | rfl
  | (unfold IntKind.wrap; simp [IntKind.signed, IntKind.bits])
end Go.Proofs.Ybulkeeeq
