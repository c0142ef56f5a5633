import Derived.WalkKit
import Derived.WalkSpells
import Derived.WalkLawsBesides
namespace Go.Proofs.Ybulkeeby
open Go.RowKit

/-- Block g of the world is a plain row of cells, none of them frozen. -/
def Blk (w : World) (g : Nat) (T : TypeId) (cs : Array Value) : Prop := w.heap[g]? = some (.cells cs T (0, 0))

theorem Blk.lt {w : World} {g : Nat} {T : TypeId} {cs : Array Value} (h : Blk w g T cs) : g < w.heap.size := by
  unfold Blk at h
  rcases Nat.lt_or_ge g w.heap.size with h' | h'
  · exact h'
  · rw [Array.getElem?_eq_none h'] at h; cases h
theorem Blk.cell {w : World} {g : Nat} {T : TypeId} {cs : Array Value} (h : Blk w g T cs) (j : Nat) : w.cell? ⟨g, j, none⟩ = cs[j]? := by
  unfold Blk at h; simp [World.cell?, h]
theorem Blk.frozen {w : World} {g : Nat} {T : TypeId} {cs : Array Value} (h : Blk w g T cs) (j : Nat) : w.frozen? ⟨g, j, none⟩ = false := by
  unfold Blk at h; simp [World.frozen?, h]
theorem Blk.set {w : World} {g : Nat} {T : TypeId} {cs : Array Value} (h : Blk w g T cs) (j : Nat) (v : Value) : Blk (w.setCell ⟨g, j, none⟩ v) g T (cs.setIfInBounds j v) := by
  unfold Blk at h ⊢; simp [World.setCell, Array.getElem?_modify, h]
theorem Blk.setOther {w : World} {g : Nat} {T : TypeId} {cs : Array Value} (h : Blk w g T cs) (a : Addr) (v : Value) (hne : g ≠ a.block) : Blk (w.setCell a v) g T cs := by
  unfold Blk at h ⊢; rw [Below.heap_setCell _ _ _ _ hne]; exact h
theorem Blk.alloc {w : World} {g : Nat} {T : TypeId} {cs : Array Value} (h : Blk w g T cs) (o : Obj) : Blk (w.alloc o) g T cs := by
  have := h.lt; unfold Blk at h ⊢; rw [Below.heap_alloc _ _ _ this]; exact h
theorem Blk.drew {w : World} {g : Nat} {T : TypeId} {cs : Array Value} (h : Blk w g T cs) : Blk w.drew g T cs := h
theorem Blk.new (w : World) (T : TypeId) (cs : Array Value) : Blk (w.alloc (.cells cs T)) w.heap.size T cs := by
  unfold Blk; show (w.heap.push _)[_]? = _; simp
theorem Blk.below {w w' : World} {B g : Nat} {T : TypeId} {cs : Array Value} (h : Blk w g T cs) (hb : Below B w w') (hg : g < B) : Blk w' g T cs := by
  unfold Blk at h ⊢; rw [hb.block g hg]; exact h

/-- 'make([]T, n)': the new block, whole. -/
theorem wpList_make_blk {P : Program} (w : World) {ops : Array Oper} {rest : List Oper} {o : Oper} {a : Act} {Q : Exit → Act → World → Prop}
    (hg : o.guard = none) (l c : Operand) (t : TypeId) (hop : o.op = Op.makeSlice t l c)
    (e : TypeId) (i : TypeInfo) (z : Value) (size : Nat) (h1 : P.underlying t = some (.slice e)) (h2 : P.info? e = some i) (h3 : i.zero = some z) (h4 : i.size = size)
    (kl kc : IntKind) (L C : Int) (m n : Nat) (hl : a.eval l = .int kl L) (hc : a.eval c = .int kc C) (hL : L = (m : Int)) (hC : C = (n : Int)) (hmn : m ≤ n) (b2 : i.bytes * n ≤ 281474976710656) (b3 : n ≤ maxLen)
    (hK : ∀ w', Blk w' w.heap.size e (madeCells z.cells (n * size)) → w'.heap.size = w.heap.size + 1 → Below w.heap.size w w' → wpList P ops Q rest (a.put o.dst (.slice (some ⟨w.heap.size, 0, none⟩) m n)) w') :
    wpList P ops Q (o :: rest) a w := by
  refine wpList_plain hg fun K hK' => ?_
  have h63' : (n : Int) ≤ 9223372036854775807 := by
    have h := b3
    simp [maxLen] at h
    omega
  have hb' : (i.bytes : Int) * (n : Int) ≤ 281474976710656 := by
    have h : ((i.bytes * n : Nat) : Int) ≤ 281474976710656 := by omega
    rwa [Int.natCast_mul] at h
  have hr := run_make (P := P) w t e i z h1 h2 h3 kl kc m n (by omega) (by omega) hb' h63'
  simp only [Int.toNat_natCast] at hr
  subst hL
  subst hC
  subst h4
  unfold Oper.wp
  simp [execOp, hop, hl, hc, hr, Result.andThen]
  exact hK' _ _ (hK _ (Blk.new _ _ _) (by simp) ((Below.refl _ _).alloc (Nat.le_refl _) _))

end Go.Proofs.Ybulkeeby
