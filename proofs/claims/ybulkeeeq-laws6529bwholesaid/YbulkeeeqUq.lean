import Derived.Test.YbulkeeeqCmp
import Derived.Test.YbulkeeeqPos
namespace Go.Proofs.Ybulkeeeq
open Go.RowKit
set_option linter.unusedVariables false

def updN (u : Nat → Nat) (n x : Nat) : Nat → Nat := fun i => if i = n then x else u i
theorem updN_self (u : Nat → Nat) (n x : Nat) : updN u n x n = x := by simp [updN]
theorem updN_ne (u : Nat → Nat) {n i : Nat} (x : Nat) (h : i ≠ n) : updN u n x i = u i := by simp [updN, h]
/-- M numbers, as they lie. -/
def urow (M : Nat) (u : Nat → Nat) : List Value := (List.range M).map fun i => .int .i64 (u i : Nat)
theorem urow_snoc (M : Nat) (u : Nat → Nat) (x : Nat) : urow M u ++ [.int .i64 (x : Nat)] = urow (M + 1) (updN u M x) := by
  unfold urow
  rw [List.range_succ, List.map_append, List.map_singleton, updN_self]
  congr 1
  apply List.map_congr_left
  intro i hi
  rw [updN_ne u x (by simp at hi; omega)]
theorem urow_get {w : World} {base : Nat} {g cap M : Nat} {u : Nat → Nat} (h : w.ownsRow base 3 1 (.slice (some ⟨g, 0, none⟩) M cap) M (urow M u)) {i : Nat} (hi : i < M) : w.cell? ⟨g, i, none⟩ = some (.int .i64 (u i : Nat)) := by
  rcases h.2 with ⟨h1, _⟩ | ⟨g', cap', cur, e, hg, hh, hn, hcap, hsz, htake⟩
  · cases h1
  · injection e with e1 e2 e3
    injection e1 with e1; injection e1 with e1; subst e1
    have hb : Blk w g 3 cur := hh
    rw [hb.cell]
    have h4 : (cur.toList.take (M * 1))[i]? = some (.int .i64 (u i : Nat)) := by rw [htake]; unfold urow; simp [hi]
    rw [List.getElem?_take, if_pos (by omega)] at h4
    simpa using h4
theorem own_cap {w : World} {base : Nat} {e : TypeId} {size g cap n : Nat} {xs : List Value} (h : w.ownsRow base e size (.slice (some ⟨g, 0, none⟩) n cap) n xs) : base ≤ g ∧ n ≤ cap ∧ g < w.heap.size := by
  rcases h.2 with ⟨h1, _⟩ | ⟨g', cap', cur, e', hg, hh, hn, _⟩
  · cases h1
  · injection e' with e1 e2 e3
    injection e1 with e1; injection e1 with e1; subst e1 e3
    exact ⟨hg, hn, Blk.lt (T := e) (cs := cur) hh⟩
theorem owns_below {w w' : World} {base B : Nat} {e : TypeId} {size g cap n : Nat} {xs : List Value} (h : w.ownsRow base e size (.slice (some ⟨g, 0, none⟩) n cap) n xs) (hb : Below B w w') (hg : g < B) : w'.ownsRow base e size (.slice (some ⟨g, 0, none⟩) n cap) n xs :=
  ⟨h.1, by
    rcases h.2 with ⟨h1, _⟩ | ⟨g', cap', cur, e', hg', hh, q⟩
    · cases h1
    · injection e' with e1 e2 e3
      injection e1 with e1; injection e1 with e1; subst e1 e3
      exact Or.inr ⟨g, cap, cur, rfl, hg', by rw [hb.block g hg]; exact hh, q⟩⟩

/-- The different keys' numbers, in the order of the keys. -/
structure Uq (N : Nat) (en : Nat → Ent) (M : Nat) (u : Nat → Nat) : Prop where
  dom : ∀ i, i < M → u i < N
  inc : ∀ i j, i < j → j < M → Lib.compareBytes (en (u i)).key.data.toList (en (u j)).key.data.toList < 0
/-- While they are picked: p have been looked at. -/
structure Uq3 (N : Nat) (en : Nat → Ent) (h : Nat → Nat) (p M : Nat) (u : Nat → Nat) : Prop where
  uq : Uq N en M u
  le : M ≤ p
  last : 0 < p → 0 < M ∧ (en (u (M - 1))).key = (en (h (p - 1))).key
theorem Uq3.start (N : Nat) (en : Nat → Ent) (h u : Nat → Nat) : Uq3 N en h 0 0 u := ⟨⟨fun i hi => by omega, fun i j h1 h2 => by omega⟩, Nat.le_refl _, fun h => by omega⟩
theorem Uq3.skip {N : Nat} {en : Nat → Ent} {h : Nat → Nat} {p M : Nat} {u : Nat → Nat} (x : Uq3 N en h p M u) (hM : 0 < M) (he : (en (u (M - 1))).key = (en (h p)).key) : Uq3 N en h (p + 1) M u :=
  ⟨x.uq, by have := x.le; omega, fun _ => ⟨hM, by rw [Nat.add_sub_cancel]; exact he⟩⟩
theorem Uq3.app {N : Nat} {en : Nat → Ent} {h : Nat → Nat} {p M : Nat} {u : Nat → Nat} (x : Uq3 N en h p M u) (hp : h p < N) (hs : 0 < p → ¬ Lib.compareBytes (en (h p)).key.data.toList (en (h (p - 1))).key.data.toList < 0) (hne : 0 < M → (en (u (M - 1))).key ≠ (en (h p)).key) :
    Uq3 N en h (p + 1) (M + 1) (updN u M (h p)) := by
  have hlast : ∀ i, i < M → Lib.compareBytes (en (u i)).key.data.toList (en (h p)).key.data.toList < 0 := fun i hi => by
    have hpp : 0 < p := by have := x.le; omega
    obtain ⟨_, h2⟩ := x.last hpp
    have h3 := hs hpp
    rw [← h2] at h3
    have h4 := cb_anti (en (u (M - 1))).key.data.toList (en (h p)).key.data.toList
    have h5 : Lib.compareBytes (en (u (M - 1))).key.data.toList (en (h p)).key.data.toList ≠ 0 := fun e => by
      apply hne (by omega)
      have := cb_eq _ _ e
      cases hk : (en (u (M - 1))).key with | mk d1 => cases hk2 : (en (h p)).key with | mk d2 => rw [hk, hk2] at this; congr 1; exact Array.toList_inj.1 this
    have h6 : Lib.compareBytes (en (u (M - 1))).key.data.toList (en (h p)).key.data.toList < 0 := by omega
    by_cases e : i = M - 1
    · rw [e]; exact h6
    · have h7 := x.uq.inc i (M - 1) (by omega) (by omega)
      have h8 := cb_trans _ _ _ (Int.le_of_lt h7) (Int.le_of_lt h6)
      have h9 : Lib.compareBytes (en (u i)).key.data.toList (en (h p)).key.data.toList ≠ 0 := fun e0 => by
        have e1 := cb_eq _ _ e0
        rw [e1] at h7
        have := cb_anti (en (h p)).key.data.toList (en (u (M - 1))).key.data.toList
        omega
      omega
  refine ⟨⟨fun i hi => ?_, fun i j h1 h2 => ?_⟩, by have := x.le; omega, fun _ => ⟨by omega, ?_⟩⟩
  · by_cases e : i = M
    · rw [e, updN_self]; exact hp
    · rw [updN_ne u _ e]; exact x.uq.dom i (by omega)
  · rw [updN_ne u _ (show i ≠ M by omega)]
    by_cases e : j = M
    · rw [e, updN_self]; exact hlast i (by omega)
    · rw [updN_ne u _ e]; exact x.uq.inc i j h1 (by omega)
  · rw [Nat.add_sub_cancel, Nat.add_sub_cancel, updN_self]
/-- Keys less than s come first. -/
theorem Uq.falls {N : Nat} {en : Nat → Ent} {M : Nat} {u : Nat → Nat} (x : Uq N en M u) (s : ByteArray) : Falls (klt (fun i => en (u i)) s) M := by
  intro e e' h1 h2 h3
  by_cases q : e = e'
  · rw [q]; exact h3
  · have h4 := x.inc e e' (by omega) h2
    unfold klt at h3 ⊢
    dsimp only at h3 ⊢
    have h5 := cb_trans _ _ _ (Int.le_of_lt h4) (Int.le_of_lt h3)
    have h6 : Lib.compareBytes (en (u e)).key.data.toList s.data.toList ≠ 0 := fun e0 => by
      have e1 := cb_eq _ _ e0
      rw [e1] at h4
      have := cb_anti s.data.toList (en (u e')).key.data.toList
      omega

    omega
/-- Where they end. -/
theorem cut_exists {p : Nat → Prop} [DecidablePred p] {n : Nat} (hf : Falls p n) : ∃ j, Cut p n j := by
  induction n with
  | zero => exact ⟨0, Nat.le_refl _, fun e h => by omega, fun e h1 h2 => by omega⟩
  | succ n ih =>
    obtain ⟨j, h1, h2, h3⟩ := ih (fun e e' a b c => hf e e' a (by omega) c)
    by_cases hp : p n
    · exact ⟨n + 1, Nat.le_refl _, fun e he => hf e n (by omega) (by omega) hp, fun e h4 h5 => by omega⟩
    · refine ⟨j, by omega, h2, fun e h4 h5 => ?_⟩
      by_cases e1 : e = n
      · rw [e1]; exact hp
      · exact h3 e h4 (by omega)
theorem Uq.key_ne {N : Nat} {en : Nat → Ent} {M : Nat} {u : Nat → Nat} (x : Uq N en M u) {i j : Nat} (hi : i < M) (hj : j < M) (hne : i ≠ j) : (en (u i)).key.data.toList ≠ (en (u j)).key.data.toList := fun e => by
  rcases Nat.lt_or_gt_of_ne hne with h | h
  · have := x.inc i j h hj
    rw [e, cb_refl] at this; omega
  · have := x.inc j i h hi
    rw [e, cb_refl] at this; omega
end Go.Proofs.Ybulkeeeq
