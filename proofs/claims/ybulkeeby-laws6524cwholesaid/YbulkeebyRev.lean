import Derived.Test.YbulkeebyUnw
import Derived.BigQuiet
namespace Go.Proofs.Ybulkeeby
open Go.RowKit

/-- Only block g may have turned. -/
structure Only (g : Nat) (w w' : World) : Prop where
  os : w'.os = w.os
  tape : w'.tape = w.tape
  output : w'.output = w.output
  size : w'.heap.size = w.heap.size
  block : ∀ k, k ≠ g → w'.heap[k]? = w.heap[k]?

theorem Only.refl (g : Nat) (w : World) : Only g w w := ⟨rfl, rfl, rfl, rfl, fun _ _ => rfl⟩
theorem Only.trans {g : Nat} {a b c : World} (h : Only g a b) (k : Only g b c) : Only g a c :=
  ⟨k.os.trans h.os, k.tape.trans h.tape, k.output.trans h.output, k.size.trans h.size, fun i hi => (k.block i hi).trans (h.block i hi)⟩
theorem Only.setCell {g : Nat} {a w : World} (h : Only g a w) (j : Nat) (v : Value) : Only g a (w.setCell ⟨g, j, none⟩ v) :=
  h.trans ⟨rfl, rfl, rfl, by simp [World.setCell], fun k hk => Below.heap_setCell _ _ _ _ hk⟩
theorem Only.drewN {g : Nat} {a w : World} (h : Only g a w) (n : Nat) : Only g a (w.drewN n) := h.trans ⟨rfl, rfl, rfl, rfl, fun _ _ => rfl⟩
theorem Only.drew {g : Nat} {a w : World} (h : Only g a w) : Only g a w.drew := h.trans ⟨rfl, rfl, rfl, rfl, fun _ _ => rfl⟩
theorem Only.below {B g : Nat} {w w' : World} (h : Only g w w') (hB : B ≤ g) : Below B w w' :=
  ⟨h.os, h.tape, h.output, Nat.le_of_eq h.size.symm, fun k hk => h.block k (by omega)⟩
theorem Only.blk {g q : Nat} {w w' : World} (h : Only g w w') {T : TypeId} {cs : Array Value} (hb : Blk w q T cs) (hne : q ≠ g) : Blk w' q T cs := by
  unfold Blk at hb ⊢; rw [h.block q hne]; exact hb

/-- The block holds n nodes: names nm, weights wt. -/
def NodesAre (cs : Array Value) (n : Nat) (nm : Nat → ByteArray) (wt : Nat → Int) : Prop :=
  cs.size = n * 2 ∧ ∀ j, j < n → cs[j * 2]? = some (.string (nm j)) ∧ cs[j * 2 + 1]? = some (.int .i64 (wt j))

theorem NodesAre.congr {cs : Array Value} {n : Nat} {nm nm' : Nat → ByteArray} {wt wt' : Nat → Int} (h : NodesAre cs n nm wt) (h1 : ∀ j, j < n → nm j = nm' j) (h2 : ∀ j, j < n → wt j = wt' j) : NodesAre cs n nm' wt' :=
  ⟨h.1, fun j hj => by rw [← h1 j hj, ← h2 j hj]; exact h.2 j hj⟩

theorem NodesAre.setW {cs : Array Value} {n k : Nat} {nm : Nat → ByteArray} {wt : Nat → Int} (h : NodesAre cs n nm wt) (hk : k < n) (x : Int) :
    NodesAre (cs.setIfInBounds (k * 2 + 1) (.int .i64 x)) n nm (fun j => if j = k then x else wt j) := by
  obtain ⟨h1, h2⟩ := h
  refine ⟨by simpa using h1, fun j hj => ?_⟩
  obtain ⟨g1, g2⟩ := h2 j hj
  have a1 : k * 2 + 1 ≠ j * 2 := by omega
  refine ⟨by rw [Array.getElem?_setIfInBounds_ne a1]; exact g1, ?_⟩
  by_cases e : j = k
  · subst e
    dsimp only
    rw [if_pos rfl, Array.getElem?_setIfInBounds_self_of_lt (by omega)]
  · have a3 : k * 2 + 1 ≠ j * 2 + 1 := by omega
    dsimp only
    rw [if_neg e, Array.getElem?_setIfInBounds_ne a3]; exact g2
theorem NodesAre.setN {cs : Array Value} {n k : Nat} {nm : Nat → ByteArray} {wt : Nat → Int} (h : NodesAre cs n nm wt) (hk : k < n) (x : ByteArray) :
    NodesAre (cs.setIfInBounds (k * 2) (.string x)) n (fun j => if j = k then x else nm j) wt := by
  obtain ⟨h1, h2⟩ := h
  refine ⟨by simpa using h1, fun j hj => ?_⟩
  obtain ⟨g1, g2⟩ := h2 j hj
  have a1 : k * 2 ≠ j * 2 + 1 := by omega
  refine ⟨?_, by rw [Array.getElem?_setIfInBounds_ne a1]; exact g2⟩
  by_cases e : j = k
  · subst e
    dsimp only
    rw [if_pos rfl, Array.getElem?_setIfInBounds_self_of_lt (by omega)]
  · have a3 : k * 2 ≠ j * 2 := by omega
    dsimp only
    rw [if_neg e, Array.getElem?_setIfInBounds_ne a3]; exact g1

/-- Behind k exchanges of a reversal of n elements. -/
def revF {α : Type} (n k : Nat) (f : Nat → α) (t : Nat) : α := if t < k ∨ n ≤ t + k then f (n - 1 - t) else f t

theorem revF_step {α : Type} (n k m : Nat) (f : Nat → α) (h1 : k + m + 1 = n) (h2 : k < m) (t : Nat) (_ht : t < n) :
    (if t = m then revF n k f k else if t = k then revF n k f m else revF n k f t) = revF n (k + 1) f t := by
  unfold revF
  have e1 : n - 1 - m = k := by omega
  have e2 : n - 1 - k = m := by omega
  by_cases a : t = m
  · subst a
    rw [if_pos rfl, if_neg (by omega), if_pos (by omega), e1]
  · by_cases b : t = k
    · subst b
      rw [if_neg a, if_pos rfl, if_neg (by omega), if_pos (by omega), e2]
    · rw [if_neg a, if_neg b]
      by_cases c : t < k ∨ n ≤ t + k
      · rw [if_pos c, if_pos (by omega)]
      · rw [if_neg c, if_neg (by omega)]

theorem revF_end {α : Type} (n k : Nat) (m : Int) (f : Nat → α) (h1 : m + k + 1 = n) (h2 : ¬ (k : Int) < m) (t : Nat) (ht : t < n) : revF n k f t = f (n - 1 - t) := by
  unfold revF
  by_cases c : t < k ∨ n ≤ t + k
  · rw [if_pos c]
  · rw [if_neg c]
    congr 1
    omega

set_option maxHeartbeats 400000 in
theorem rev_walk (g n : Nat) (cs0 : Array Value) (nm : Nat → ByteArray) (wt : Nat → Int) (w : World) (hn : n ≤ 1048576) (hb : Blk w g 26 cs0) (hns : NodesAre cs0 n nm wt) :
    Calls Yba.prog 7 #[.slice (some ⟨g, 0, none⟩) n n] w fun e w' => ∃ cs, e = .returned (.tuple #[]) ∧ Blk w' g 26 cs ∧ NodesAre cs n (fun t => nm (n - 1 - t)) (fun t => wt (n - 1 - t)) ∧ Only g w w' := by
  go_enter Yba.func7, Yba.ntmps7
  go_wp2
  go_loopw [2, 3] (fun i j wr => ∃ k : Nat, ∃ m : Int, i = .int .i64 k ∧ j = .int .i64 m ∧ m + k + 1 = n ∧ (k : Int) ≤ m + 1 ∧ ∃ cs, Blk wr g 26 cs ∧ NodesAre cs n (revF n k nm) (revF n k wt) ∧ Only g w wr) (fun i _ _ => n - (intOf i).toNat)
  case atStart => exact ⟨0, _, rfl, rfl, by omega, by omega, cs0, hb, hns.congr (fun j hj => by unfold revF; rw [if_neg (by omega)]) (fun j hj => by unfold revF; rw [if_neg (by omega)]), Only.refl _ _⟩
  case round =>
    obtain ⟨k, m, rfl, rfl, hm, hkm, cs, hblk, hto, hon⟩ := hrel
    by_cases hlt : (k : Int) < m
    · obtain ⟨m, rfl⟩ := Int.eq_ofNat_of_zero_le (show (0 : Int) ≤ m by omega)
      have g1 : k + m + 1 ≤ n := by omega
      have g2 : n ≤ k + m + 1 := by omega
      have g3 : k < m := by omega
      have HM : Hid ((m : Int) + k + 1 = n) := hm
      clear hm hkm hlt
      have hf : ∀ j, wr.frozen? ⟨g, j, none⟩ = false := hblk.frozen
      have c0 := (hblk.cell (k * 2)).trans (hto.2 k (by omega)).1
      have c1 := (hblk.cell (k * 2 + 1)).trans (hto.2 k (by omega)).2
      have c2 := (hblk.cell (m * 2)).trans (hto.2 m (by omega)).1
      have c3 := (hblk.cell (m * 2 + 1)).trans (hto.2 m (by omega)).2
      go_wp2
      go_region
      go_wp2
      go_roundw
      case rel =>
        refine ⟨k + 1, (m : Int) - 1, by go_num, rfl, by have := HM.out; omega, by omega, _, ((((hblk.set _ _).set _ _).set _ _).set _ _).drew, ?_, ((((hon.setCell _ _).setCell _ _).setCell _ _).setCell _ _).drew⟩
        have h4 := (((hto.setN (k := k) (by omega) (revF n k nm m)).setW (k := k) (by omega) (revF n k wt m)).setN (k := m) (by omega) (revF n k nm k)).setW (k := m) (by omega) (revF n k wt k)
        exact h4.congr (fun t ht => revF_step n k m nm (by omega) g3 t ht) (fun t ht => revF_step n k m wt (by omega) g3 t ht)
      case measure => simp [intOf]; omega
    · go_wp2
      go_end0
      exact ⟨rfl, cs, hblk, hto.congr (fun t ht => revF_end n k m nm hm (by omega) t ht) (fun t ht => revF_end n k m wt hm (by omega) t ht), hon⟩

end Go.Proofs.Ybulkeeby
