import Derived.Test.YbulkeeeqSortP
namespace Go.Proofs.Ybulkeeeq
set_option linter.unusedVariables false

theorem rot_none_up (f : Nat → Nat) (a : Nat) : rot f a (a + 1) (a + 1) = f := by
  funext k; unfold rot
  by_cases h : k < a ∨ a + 1 ≤ k
  · rw [if_pos h]
  · rw [if_neg h, if_neg (by omega)]; congr 1; omega
theorem rot_up (f : Nat → Nat) (a e : Nat) (h : a + 1 ≤ e) : swp (rot f a (a + 1) e) (e - 1) e = rot f a (a + 1) (e + 1) := by
  funext k
  by_cases e1 : k = e - 1
  · subst e1; rw [swp_left]; unfold rot
    rw [if_pos (by omega), if_neg (by omega), if_pos (by omega)]; congr 1; omega
  · by_cases e2 : k = e
    · subst e2; rw [swp_right]; unfold rot
      rw [if_neg (by omega), if_neg (by omega), if_neg (by omega), if_neg (by omega)]; congr 1; omega
    · rw [swp_ne _ e1 e2]; unfold rot
      by_cases h1 : k < a ∨ e ≤ k
      · rw [if_pos h1, if_pos (by omega)]
      · rw [if_neg h1, if_pos (by omega), if_neg (by omega), if_pos (by omega)]
theorem rot_none_down (f : Nat → Nat) (m : Nat) : rot f m m (m + 1) = f := by
  funext k; unfold rot
  by_cases h : k < m ∨ m + 1 ≤ k
  · rw [if_pos h]
  · rw [if_neg h, if_pos (by omega)]; congr 1; omega
theorem rot_down (f : Nat → Nat) (m k : Nat) (h0 : 0 < k) (h : k ≤ m) : swp (rot f k m (m + 1)) k (k - 1) = rot f (k - 1) m (m + 1) := by
  funext q
  by_cases e1 : q = k
  · subst e1; rw [swp_left]; unfold rot
    rw [if_pos (by omega), if_neg (by omega), if_neg (by omega)]; congr 1; omega
  · by_cases e2 : q = k - 1
    · subst e2; rw [swp_right]; unfold rot
      rw [if_neg (by omega), if_pos (by omega), if_neg (by omega), if_pos (by omega)]; congr 1; omega
    · rw [swp_ne _ e1 e2]; unfold rot
      by_cases h1 : q < k ∨ m + 1 ≤ q
      · rw [if_pos h1, if_pos (by omega)]
      · rw [if_neg h1, if_neg (by omega), if_neg (by omega), if_neg (by omega)]

theorem ins_left {lt : Nat → Nat → Bool} (W : Weak lt) {f : Nat → Nat} {a b i : Nat} (hi : a + 1 ≤ i) (hib : i ≤ b) (hr : Srt lt f (a + 1) b) (h1 : a + 1 < i → lt (f (i - 1)) (f a) = true) (h2 : i < b → lt (f i) (f a) = false) : Merged lt f (rot f a (a + 1) i) a b := by
  refine ⟨(rot_within f (by omega) hi).mono (Nat.le_refl _) hib, fun p q p1 p2 p3 => ?_⟩
  have e1 : ∀ k, a ≤ k → k + 1 < i → rot f a (a + 1) i k = f (k + 1) := fun k k1 k2 => by unfold rot; rw [if_neg (by omega), if_pos (by omega)]; congr 1; omega
  have e2 : rot f a (a + 1) i (i - 1) = f a := by unfold rot; rw [if_neg (by omega), if_neg (by omega)]; congr 1; omega
  have e3 : ∀ k, i ≤ k → rot f a (a + 1) i k = f k := fun k hk => by unfold rot; rw [if_pos (by omega)]
  have up : ∀ k, i ≤ k → k < b → lt (f k) (f a) = false := fun k k1 k2 => W.trans _ _ _ (h2 (by omega)) (hr i k hi k1 k2)
  have dn : ∀ k, a + 1 ≤ k → k < i → lt (f a) (f k) = false := fun k k1 k2 => W.trans _ _ _ (hr k (i - 1) k1 (by omega) (by omega)) (W.asym _ _ (h1 (by omega)))
  by_cases c1 : q + 1 < i
  · rw [e1 q (by omega) c1, e1 p p1 (by omega)]; exact hr _ _ (by omega) (by omega) (by omega)
  · by_cases c2 : q = i - 1
    · rw [c2, e2]
      by_cases c3 : p = i - 1
      · rw [c3, e2]; exact W.refl _
      · rw [e1 p p1 (by omega)]; exact dn _ (by omega) (by omega)
    · rw [e3 q (by omega)]
      by_cases c3 : p + 1 < i
      · rw [e1 p p1 c3]; exact hr _ _ (by omega) (by omega) p3
      · by_cases c4 : p = i - 1
        · rw [c4, e2]; exact up q (by omega) p3
        · rw [e3 p (by omega)]; exact hr _ _ (by omega) p2 p3
theorem ins_right {lt : Nat → Nat → Bool} (W : Weak lt) {f : Nat → Nat} {a m i : Nat} (hi : a ≤ i) (him : i ≤ m) (hl : Srt lt f a m) (h1 : a < i → lt (f m) (f (i - 1)) = false) (h2 : i < m → lt (f m) (f i) = true) : Merged lt f (rot f i m (m + 1)) a (m + 1) := by
  refine ⟨(rot_within f him (by omega)).mono hi (Nat.le_refl _), fun p q p1 p2 p3 => ?_⟩
  have e1 : ∀ k, k < i → rot f i m (m + 1) k = f k := fun k hk => by unfold rot; rw [if_pos (by omega)]
  have e2 : rot f i m (m + 1) i = f m := by unfold rot; rw [if_neg (by omega), if_pos (by omega)]; congr 1; omega
  have e3 : ∀ k, i < k → k ≤ m → rot f i m (m + 1) k = f (k - 1) := fun k k1 k2 => by unfold rot; rw [if_neg (by omega), if_neg (by omega)]; congr 1; omega
  have dn : ∀ k, a ≤ k → k < i → lt (f m) (f k) = false := fun k k1 k2 => W.trans _ _ _ (hl k (i - 1) k1 (by omega) (by omega)) (h1 (by omega))
  have up : ∀ k, i ≤ k → k < m → lt (f k) (f m) = false := fun k k1 k2 => W.trans _ _ _ (W.asym _ _ (h2 (by omega))) (hl i k hi k1 k2)
  by_cases c1 : q < i
  · rw [e1 q c1, e1 p (by omega)]; exact hl p q p1 p2 (by omega)
  · by_cases c2 : q = i
    · rw [c2, e2]
      by_cases c3 : p = i
      · rw [c3, e2]; exact W.refl _
      · rw [e1 p (by omega)]; exact dn p p1 (by omega)
    · rw [e3 q (by omega) (by omega)]
      by_cases c3 : p < i
      · rw [e1 p c3]; exact hl _ _ p1 (by omega) (by omega)
      · by_cases c4 : p = i
        · rw [c4, e2]; exact up _ (by omega) (by omega)
        · rw [e3 p (by omega) (by omega)]; exact hl _ _ (by omega) (by omega) (by omega)
theorem rot_same_left (f : Nat → Nat) (m e : Nat) (h : m ≤ e) : rot f m m e = f := by
  funext k; unfold rot
  by_cases h1 : k < m ∨ e ≤ k
  · rw [if_pos h1]
  · rw [if_neg h1, if_pos (by omega)]; congr 1; omega
theorem rot_same_right (f : Nat → Nat) (s m : Nat) (h : s ≤ m) : rot f s m m = f := by
  funext k; unfold rot
  by_cases h1 : k < s ∨ m ≤ k
  · rw [if_pos h1]
  · rw [if_neg h1, if_neg (by omega)]; congr 1; omega

/-- The place where symMerge parts, as its search leaves it. -/
theorem parted_of {lt : Nat → Nat → Bool} {f : Nat → Nat} {a m b mid n lo hi s : Nat} (hmid : mid = (a + b) / 2) (hn : n = mid + m) (ham : a < m) (hmb : m < b) (hlh : (mid < m ∧ lo = n - b ∧ hi = mid) ∨ (m ≤ mid ∧ lo = a ∧ hi = m)) (h1 : lo ≤ s) (h2 : s ≤ hi)
    (hl : lo < s → lt (f (n - 1 - (s - 1))) (f (s - 1)) = false) (hr : s < hi → lt (f (n - 1 - s)) (f s) = true) : Parted lt f a m b mid n s := by
  rcases hlh with ⟨c1, rfl, rfl⟩ | ⟨c1, rfl, rfl⟩
  · refine ⟨by omega, by omega, by omega, by omega, fun x y => ?_, fun x y => ?_⟩
    · have := hl (by omega)
      rw [show n - 1 - (s - 1) = n - s by omega] at this; exact this
    · have := hr (by omega)
      rw [show n - 1 - s = n - s - 1 by omega] at this; exact this
  · refine ⟨by omega, by omega, by omega, by omega, fun x y => ?_, fun x y => ?_⟩
    · have := hl (by omega)
      rw [show n - 1 - (s - 1) = n - s by omega] at this; exact this
    · have := hr (by omega)
      rw [show n - 1 - s = n - s - 1 by omega] at this; exact this
end Go.Proofs.Ybulkeeeq
