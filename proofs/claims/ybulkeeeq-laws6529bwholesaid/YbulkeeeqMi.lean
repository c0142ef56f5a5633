import Derived.Test.YbulkeeeqEach
import Derived.Test.YbulkeeeqUq
import Derived.Test.YbulkeeeqBld
namespace Go.Proofs.Ybulkeeeq
open Go.RowKit
set_option linter.unusedVariables false

/-- Which maps hold an entry. -/
def mkOf (e : Ent) : Nat := e.wh % 7 + 1
def x1 (m : Nat) : Nat := m % 2
def x2 (m : Nat) : Nat := m / 2 % 2 * 2
def x4 (m : Nat) : Nat := m / 4 * 4
theorem and1 (m : Nat) (h : m ≤ 7) : bits .and .u8 (m : Int) 1 = (x1 m : Int) := by
  have : ∀ x : Fin 8, bits .and .u8 (x.val : Int) 1 = (x1 x.val : Int) := by decide +kernel
  exact this ⟨m, by omega⟩
theorem and2 (m : Nat) (h : m ≤ 7) : bits .and .u8 (m : Int) 2 = (x2 m : Int) := by
  have : ∀ x : Fin 8, bits .and .u8 (x.val : Int) 2 = (x2 x.val : Int) := by decide +kernel
  exact this ⟨m, by omega⟩
theorem and4 (m : Nat) (h : m ≤ 7) : bits .and .u8 (m : Int) 4 = (x4 m : Int) := by
  have : ∀ x : Fin 8, bits .and .u8 (x.val : Int) 4 = (x4 x.val : Int) := by decide +kernel
  exact this ⟨m, by omega⟩
theorem bits_some (m : Nat) (h1 : 1 ≤ m) (h : m ≤ 7) (q1 : x1 m = 0) (q2 : x2 m = 0) : x4 m ≠ 0 := by unfold x1 at q1; unfold x2 at q2; unfold x4; omega
/-- The version that is held. -/
def vOf (e : Ent) : Nat := if x1 (mkOf e) ≠ 0 then e.ver else if x2 (mkOf e) ≠ 0 then (e.ver + 1) % 18446744073709551616 else (e.ver + 2) % 18446744073709551616

abbrev MF := List UInt8 → Option Nat
def Pick (fo fu fc : MF) (q : List UInt8) (g : Nat) : Prop := fo q = some g ∨ (fo q = none ∧ fu q = some g) ∨ (fo q = none ∧ fu q = none ∧ fc q = some g)
/-- k entries have been put into the maps. -/
structure MI (x : World) (G k : Nat) (ek : Nat → Ent) (fo fu fc : MF) : Prop where
  o : MapIs x G k fo
  u : MapIs x (G + 1) k fu
  c : MapIs x (G + 1 + 1) k fc
  dom : ∀ q g, (fo q = some g ∨ fu q = some g ∨ fc q = some g) → ∃ i, i < k ∧ (ek i).key.data.toList = q
  each : ∀ i, i < k → ∃ g, Pick fo fu fc (ek i).key.data.toList g ∧ Blk x g 84 (heldA (ek i) (vOf (ek i)))
theorem MI.start (x : World) (G : Nat) (ek : Nat → Ent) (h0 : MapIs x G 0 (fun _ => none)) (h1 : MapIs x (G + 1) 0 (fun _ => none)) (h2 : MapIs x (G + 1 + 1) 0 (fun _ => none)) : MI x G 0 ek (fun _ => none) (fun _ => none) (fun _ => none) :=
  ⟨h0, h1, h2, fun q g h => (by rcases h with h | h | h <;> exact absurd h (by simp)), fun i h => (by omega)⟩
theorem MI.below {x y : World} {G k : Nat} {ek : Nat → Ent} {fo fu fc : MF} (h : MI x G k ek fo fu fc) (hb : Below x.heap.size x y) : MI y G k ek fo fu fc :=
  ⟨h.o.below hb h.o.lt, h.u.below hb h.u.lt, h.c.below hb h.c.lt, h.dom, fun i hi => by
    obtain ⟨g, h1, h2⟩ := h.each i hi
    exact ⟨g, h1, h2.below hb h2.lt⟩⟩
/-- One map is written: what lies elsewhere stays. -/
theorem blk_grown84 {x y : World} {b g : Nat} {cs : Array Value} {n : Nat} {m : MF} (hm : MapIs x b n m) (hb : Blk x g 84 cs) (hg : x.grownBy y (some b)) : Blk y g 84 cs := hb.grown hg (fun e => by cases e; exact absurd rfl (hm.ne_blk hb))
/-- While entry k is put in: its key is not there yet, but for what has been put in now. -/
structure MJ (x : World) (G k n1 n2 n3 : Nat) (ek : Nat → Ent) (fo fu fc : MF) (f1 f2 f3 : MF) : Prop where
  o : MapIs x G n1 f1
  u : MapIs x (G + 1) n2 f2
  c : MapIs x (G + 1 + 1) n3 f3
  each : ∀ i, i < k → ∃ g, Pick fo fu fc (ek i).key.data.toList g ∧ Blk x g 84 (heldA (ek i) (vOf (ek i)))
  q1 : ∀ q, q ≠ (ek k).key.data.toList → f1 q = fo q
  q2 : ∀ q, q ≠ (ek k).key.data.toList → f2 q = fu q
  q3 : ∀ q, q ≠ (ek k).key.data.toList → f3 q = fc q
theorem MI.toJ {x : World} {G k : Nat} {ek : Nat → Ent} {fo fu fc : MF} (h : MI x G k ek fo fu fc) : MJ x G k k k k ek fo fu fc fo fu fc :=
  ⟨h.o, h.u, h.c, h.each, fun _ _ => rfl, fun _ _ => rfl, fun _ _ => rfl⟩
theorem MJ.below {x y : World} {G k n1 n2 n3 : Nat} {ek : Nat → Ent} {fo fu fc f1 f2 f3 : MF} (h : MJ x G k n1 n2 n3 ek fo fu fc f1 f2 f3) (hb : Below x.heap.size x y) : MJ y G k n1 n2 n3 ek fo fu fc f1 f2 f3 :=
  ⟨h.o.below hb h.o.lt, h.u.below hb h.u.lt, h.c.below hb h.c.lt, fun i hi => by
    obtain ⟨g, h1, h2⟩ := h.each i hi
    exact ⟨g, h1, h2.below hb h2.lt⟩, h.q1, h.q2, h.q3⟩
theorem updM_ne {m : MF} {k q : List UInt8} {g : Nat} (h : q ≠ k) : updM m k g q = m q := by simp [updM, h]
theorem updM_self {m : MF} {k : List UInt8} {g : Nat} : updM m k g k = some g := by simp [updM]
theorem map_other {x y : World} {b b' n : Nat} {m : MF} (h : MapIs x b n m) (hg : x.grownBy y (some b')) (hne : b ≠ b') : MapIs y b n m := h.of_block (hg.block b h.lt (fun e => hne (by cases e; rfl)))
theorem MJ.put1 {x y : World} {G k g n1 n2 n3 : Nat} {ek : Nat → Ent} {fo fu fc f1 f2 f3 : MF} (h : MJ x G k n1 n2 n3 ek fo fu fc f1 f2 f3) (hm : MapIs y G (n1 + 1) (updM f1 (ek k).key.data.toList g)) (hg : x.grownBy y (some G)) : MJ y G k (n1 + 1) n2 n3 ek fo fu fc (updM f1 (ek k).key.data.toList g) f2 f3 :=
  ⟨hm, map_other h.u hg (by omega), map_other h.c hg (by omega), fun i hi => by
    obtain ⟨g', h1, h2⟩ := h.each i hi
    exact ⟨g', h1, blk_grown84 h.o h2 hg⟩, fun q hq => by rw [updM_ne hq]; exact h.q1 q hq, h.q2, h.q3⟩
theorem MJ.put2 {x y : World} {G k g n1 n2 n3 : Nat} {ek : Nat → Ent} {fo fu fc f1 f2 f3 : MF} (h : MJ x G k n1 n2 n3 ek fo fu fc f1 f2 f3) (hm : MapIs y (G + 1) (n2 + 1) (updM f2 (ek k).key.data.toList g)) (hg : x.grownBy y (some (G + 1))) : MJ y G k n1 (n2 + 1) n3 ek fo fu fc f1 (updM f2 (ek k).key.data.toList g) f3 :=
  ⟨map_other h.o hg (by omega), hm, map_other h.c hg (by omega), fun i hi => by
    obtain ⟨g', h1, h2⟩ := h.each i hi
    exact ⟨g', h1, blk_grown84 h.u h2 hg⟩, h.q1, fun q hq => by rw [updM_ne hq]; exact h.q2 q hq, h.q3⟩
theorem MJ.put3 {x y : World} {G k g n1 n2 n3 : Nat} {ek : Nat → Ent} {fo fu fc f1 f2 f3 : MF} (h : MJ x G k n1 n2 n3 ek fo fu fc f1 f2 f3) (hm : MapIs y (G + 1 + 1) (n3 + 1) (updM f3 (ek k).key.data.toList g)) (hg : x.grownBy y (some (G + 1 + 1))) : MJ y G k n1 n2 (n3 + 1) ek fo fu fc f1 f2 (updM f3 (ek k).key.data.toList g) :=
  ⟨map_other h.o hg (by omega), map_other h.u hg (by omega), hm, fun i hi => by
    obtain ⟨g', h1, h2⟩ := h.each i hi
    exact ⟨g', h1, blk_grown84 h.c h2 hg⟩, h.q1, h.q2, fun q hq => by rw [updM_ne hq]; exact h.q3 q hq⟩
/-- Entry k is in. -/
theorem MJ.done {x : World} {G k n1 n2 n3 : Nat} {ek : Nat → Ent} {fo fu fc f1 f2 f3 : MF} (h : MJ x G k n1 n2 n3 ek fo fu fc f1 f2 f3) (l1 : n1 ≤ k + 1) (l2 : n2 ≤ k + 1) (l3 : n3 ≤ k + 1) (hne : ∀ i, i < k → (ek i).key.data.toList ≠ (ek k).key.data.toList) (hd : ∀ q g, (fo q = some g ∨ fu q = some g ∨ fc q = some g) → ∃ i, i < k ∧ (ek i).key.data.toList = q)
    {g : Nat} (hp : Pick f1 f2 f3 (ek k).key.data.toList g) (hb : Blk x g 84 (heldA (ek k) (vOf (ek k)))) : MI x G (k + 1) ek f1 f2 f3 := by
  refine ⟨h.o.mono l1, h.u.mono l2, h.c.mono l3, fun q g' hq => ?_, fun i hi => ?_⟩
  · by_cases e : q = (ek k).key.data.toList
    · exact ⟨k, by omega, e.symm⟩
    · rw [h.q1 q e, h.q2 q e, h.q3 q e] at hq
      obtain ⟨i, h1, h2⟩ := hd q g' hq
      exact ⟨i, by omega, h2⟩
  · by_cases e : i = k
    · subst e; exact ⟨g, hp, hb⟩
    · obtain ⟨g', h1, h2⟩ := h.each i (by omega)
      refine ⟨g', ?_, h2⟩
      have hq := hne i (by omega)
      unfold Pick at h1 ⊢
      rw [h.q1 _ hq, h.q2 _ hq, h.q3 _ hq]; exact h1
def entA (e : Ent) : Array Value := #[.string e.key, .int .u8 (e.hi : Nat), .int .u8 (e.lo : Nat), .int .u8 (e.wh : Nat), .slice e.va e.vn e.vc, .int .u64 (e.ver : Nat)]
/-- The round's own boxes, and the maps. -/
structure RS (w9 : World) (G k n1 n2 n3 e0 e1 : Nat) (ek : Nat → Ent) (fo fu fc f1 f2 f3 : MF) (x : World) : Prop where
  j : MJ x G k n1 n2 n3 ek fo fu fc f1 f2 f3
  a0 : Blk x e0 71 (entA (ek k))
  a1 : Blk x e1 76 (idA (ek k).hi (ek k).lo)
  bel : Below G w9 x
  sz : G + 3 ≤ x.heap.size
theorem RS.cells {w9 : World} {G k n1 n2 n3 e0 e1 : Nat} {ek : Nat → Ent} {fo fu fc f1 f2 f3 : MF} {x : World} (h : RS w9 G k n1 n2 n3 e0 e1 ek fo fu fc f1 f2 f3 x) :
    x.cell? ⟨e0, 0, none⟩ = some (.string (ek k).key) ∧ x.cell? ⟨e0, 4, none⟩ = some (.slice (ek k).va (ek k).vn (ek k).vc) ∧ x.cell? ⟨e0, 5, none⟩ = some (.int .u64 ((ek k).ver : Nat)) :=
  ⟨h.a0.cell 0, h.a0.cell 4, h.a0.cell 5⟩
theorem RS.gen {w9 : World} {G k n1 n2 n3 m1 m2 m3 e0 e1 : Nat} {ek : Nat → Ent} {fo fu fc f1 f2 f3 g1 g2 g3 : MF} {x z : World} (h : RS w9 G k n1 n2 n3 e0 e1 ek fo fu fc f1 f2 f3 x) (o : Obj) {b n : Nat} {m : MF} (hb : MapIs (x.alloc o) b n m) (hG : G ≤ b) (hg : (x.alloc o).grownBy z (some b)) (hj : MJ z G k m1 m2 m3 ek fo fu fc g1 g2 g3) : RS w9 G k m1 m2 m3 e0 e1 ek fo fu fc g1 g2 g3 z := by
  have hs := h.sz
  refine ⟨hj, (h.a0.alloc o).grown hg (fun e => by cases e; exact absurd rfl (hb.ne_blk (h.a0.alloc o))), (h.a1.alloc o).grown hg (fun e => by cases e; exact absurd rfl (hb.ne_blk (h.a1.alloc o))), (h.bel.alloc (by omega) o).grown hg (by simp; omega) (fun q e => by cases e; exact hG), ?_⟩
  have := hg.size
  simp at this
  omega
theorem heldB_eq (e : Ent) (vr : Nat) : heldB e.hi e.lo e.va e.vn e.vc vr = heldA e vr := rfl
theorem MI.absent {x : World} {G k : Nat} {ek : Nat → Ent} {fo fu fc : MF} (h : MI x G k ek fo fu fc) (hne : ∀ i, i < k → (ek i).key.data.toList ≠ (ek k).key.data.toList) : fo (ek k).key.data.toList = none ∧ fu (ek k).key.data.toList = none ∧ fc (ek k).key.data.toList = none := by
  have key : ∀ f : MF, (∀ g, f (ek k).key.data.toList = some g → False) → f (ek k).key.data.toList = none := fun f hf => by
    cases hq : f (ek k).key.data.toList with
    | none => rfl
    | some g => exact (hf g hq).elim
  refine ⟨key fo fun g hg => ?_, key fu fun g hg => ?_, key fc fun g hg => ?_⟩
  · obtain ⟨i, h1, h2⟩ := h.dom _ g (Or.inl hg); exact hne i h1 h2
  · obtain ⟨i, h1, h2⟩ := h.dom _ g (Or.inr (Or.inl hg)); exact hne i h1 h2
  · obtain ⟨i, h1, h2⟩ := h.dom _ g (Or.inr (Or.inr hg)); exact hne i h1 h2
end Go.Proofs.Ybulkeeeq
