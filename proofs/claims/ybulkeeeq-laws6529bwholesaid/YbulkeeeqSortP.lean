namespace Go.Proofs.Ybulkeeeq
set_option linter.unusedVariables false

/-! ### Sorting a row of numbers by what they stand for -/

/-- 'lt x y': x comes before y. -/
structure Weak (lt : Nat → Nat → Bool) : Prop where
  asym : ∀ x y, lt x y = true → lt y x = false
  trans : ∀ x y z, lt y x = false → lt z y = false → lt z x = false
theorem Weak.refl {lt : Nat → Nat → Bool} (W : Weak lt) (x : Nat) : lt x x = false := by
  cases h : lt x x with
  | false => rfl
  | true => have := W.asym x x h; rw [h] at this; exact this

def Srt (lt : Nat → Nat → Bool) (f : Nat → Nat) (a b : Nat) : Prop := ∀ i j, a ≤ i → i ≤ j → j < b → lt (f j) (f i) = false
/-- g is f, but for what lies in [a, b), and there lies only what lay there. -/
def Within (f g : Nat → Nat) (a b : Nat) : Prop := (∀ i, (i < a ∨ b ≤ i) → g i = f i) ∧ ∀ i, a ≤ i → i < b → ∃ j, a ≤ j ∧ j < b ∧ g i = f j
theorem Within.refl (f : Nat → Nat) (a b : Nat) : Within f f a b := ⟨fun _ _ => rfl, fun i h1 h2 => ⟨i, h1, h2, rfl⟩⟩
theorem Within.trans {f g h : Nat → Nat} {a b : Nat} (x : Within f g a b) (y : Within g h a b) : Within f h a b := by
  refine ⟨fun i hi => (y.1 i hi).trans (x.1 i hi), fun i h1 h2 => ?_⟩
  obtain ⟨j, j1, j2, e⟩ := y.2 i h1 h2
  obtain ⟨k, k1, k2, e'⟩ := x.2 j j1 j2
  exact ⟨k, k1, k2, e.trans e'⟩
theorem Within.mono {f g : Nat → Nat} {a b c d : Nat} (x : Within f g a b) (h1 : c ≤ a) (h2 : b ≤ d) : Within f g c d := by
  refine ⟨fun i hi => x.1 i (by omega), fun i q1 q2 => ?_⟩
  by_cases hi : i < a ∨ b ≤ i
  · exact ⟨i, q1, q2, x.1 i hi⟩
  · obtain ⟨j, j1, j2, e⟩ := x.2 i (by omega) (by omega)
    exact ⟨j, by omega, by omega, e⟩

/-- The two change places. -/
def swp (f : Nat → Nat) (i j : Nat) : Nat → Nat := fun k => if k = i then f j else if k = j then f i else f k
theorem swp_left (f : Nat → Nat) (i j : Nat) : swp f i j i = f j := by simp [swp]
theorem swp_right (f : Nat → Nat) (i j : Nat) : swp f i j j = f i := by
  unfold swp; by_cases h : j = i
  · subst h; simp
  · simp [h]
theorem swp_ne (f : Nat → Nat) {i j k : Nat} (h1 : k ≠ i) (h2 : k ≠ j) : swp f i j k = f k := by simp [swp, h1, h2]
theorem swp_within (f : Nat → Nat) {i j a b : Nat} (h1 : a ≤ i) (h2 : i < b) (h3 : a ≤ j) (h4 : j < b) : Within f (swp f i j) a b := by
  refine ⟨fun k hk => swp_ne f (by omega) (by omega), fun k k1 k2 => ?_⟩
  by_cases e1 : k = i
  · exact ⟨j, h3, h4, by rw [e1, swp_left]⟩
  · by_cases e2 : k = j
    · exact ⟨i, h1, h2, by rw [e2, swp_right]⟩
    · exact ⟨k, k1, k2, swp_ne f e1 e2⟩

/-- While the element at j goes down among a .. i. -/
structure Down (lt : Nat → Nat → Bool) (g : Nat → Nat) (a i j : Nat) : Prop where
  aj : a ≤ j
  ji : j ≤ i
  rest : ∀ p q, a ≤ p → p ≤ q → q ≤ i → p ≠ j → q ≠ j → lt (g q) (g p) = false
  over : ∀ q, j < q → q ≤ i → lt (g q) (g j) = false
theorem Down.start {lt : Nat → Nat → Bool} {g : Nat → Nat} {a i : Nat} (h : Srt lt g a i) (hai : a ≤ i) : Down lt g a i i :=
  ⟨hai, Nat.le_refl _, fun p q h1 h2 h3 h4 h5 => h p q h1 h2 (by omega), fun q h1 h2 => by omega⟩
theorem Down.step {lt : Nat → Nat → Bool} (W : Weak lt) {g : Nat → Nat} {a i j : Nat} (h : Down lt g a i (j + 1)) (haj : a ≤ j) (hlt : lt (g (j + 1)) (g j) = true) : Down lt (swp g (j + 1) j) a i j := by
  obtain ⟨h1, h2, h3, h4⟩ := h
  refine ⟨haj, by omega, fun p q a1 a2 a3 a4 a5 => ?_, fun q a1 a2 => ?_⟩
  · by_cases e1 : p = j + 1
    · rw [e1, swp_left]
      by_cases e2 : q = j + 1
      · rw [e2, swp_left]; exact W.refl _
      · rw [swp_ne g e2 a5]; exact h3 j q (by omega) (by omega) a3 (by omega) e2
    · rw [swp_ne g e1 a4]
      by_cases e2 : q = j + 1
      · rw [e2, swp_left]; exact h3 p j a1 (by omega) (by omega) e1 (by omega)
      · rw [swp_ne g e2 a5]; exact h3 p q a1 a2 a3 e1 e2
  · rw [swp_right]
    by_cases e2 : q = j + 1
    · rw [e2, swp_left]; exact W.asym _ _ hlt
    · rw [swp_ne g e2 (by omega)]; exact h4 q (by omega) a2
theorem Down.done {lt : Nat → Nat → Bool} (W : Weak lt) {g : Nat → Nat} {a i j : Nat} (h : Down lt g a i j) (hs : j = a ∨ lt (g j) (g (j - 1)) = false) : Srt lt g a (i + 1) := by
  obtain ⟨h1, h2, h3, h4⟩ := h
  intro p q a1 a2 a3
  by_cases e1 : p = j
  · by_cases e2 : q = j
    · rw [e1, e2]; exact W.refl _
    · rw [e1]; exact h4 q (by omega) (by omega)
  · by_cases e2 : q = j
    · rw [e2]
      rcases hs with hs | hs
      · omega
      · by_cases e3 : p = j - 1
        · rw [e3]; exact hs
        · exact W.trans _ _ _ (h3 p (j - 1) a1 (by omega) (by omega) e1 (by omega)) hs
    · exact h3 p q a1 a2 (by omega) e1 e2

/-- [a, m) and [m, b) change places. -/
def rot (f : Nat → Nat) (a m b : Nat) : Nat → Nat := fun k => if k < a ∨ b ≤ k then f k else if k < a + (b - m) then f (k - a + m) else f (k - (b - m))
/-- The k from x on and the k from y on change places. -/
def swr (f : Nat → Nat) (x y n : Nat) : Nat → Nat := fun k => if x ≤ k ∧ k < x + n then f (k - x + y) else if y ≤ k ∧ k < y + n then f (k - y + x) else f k
theorem swr_zero (f : Nat → Nat) (x y : Nat) : swr f x y 0 = f := by
  funext k; unfold swr; rw [if_neg (by omega), if_neg (by omega)]
theorem swr_step (f : Nat → Nat) (x y n : Nat) (h : x + (n + 1) ≤ y) : swp (swr f x y n) (x + n) (y + n) = swr f x y (n + 1) := by
  funext k
  by_cases e1 : k = x + n
  · subst e1
    rw [swp_left]
    unfold swr
    rw [if_neg (by omega), if_neg (by omega), if_pos (by omega)]
    congr 1; omega
  · by_cases e2 : k = y + n
    · subst e2
      rw [swp_right]
      unfold swr
      rw [if_neg (by omega), if_neg (by omega), if_neg (by omega), if_pos (by omega)]
      congr 1; omega
    · rw [swp_ne _ e1 e2]
      unfold swr
      by_cases h1 : x ≤ k ∧ k < x + n
      · rw [if_pos h1, if_pos (by omega)]
      · rw [if_neg h1]
        by_cases h2 : y ≤ k ∧ k < y + n
        · rw [if_pos h2, if_neg (show ¬ (x ≤ k ∧ k < x + (n + 1)) by omega), if_pos (by omega)]
        · rw [if_neg h2, if_neg (show ¬ (x ≤ k ∧ k < x + (n + 1)) by omega), if_neg (by omega)]
theorem rot_more (f : Nat → Nat) (m i j : Nat) (him : i ≤ m) (hj : j < i) : rot (swr f (m - i) m j) (m - (i - j)) m (m + j) = rot f (m - i) m (m + j) := by
  funext k
  unfold rot
  by_cases h1 : k < m - i ∨ m + j ≤ k
  · rw [if_pos (by omega), if_pos h1]
    unfold swr
    rw [if_neg (by omega), if_neg (by omega)]
  · rw [if_neg h1]
    by_cases h2 : k < m - i + (m + j - m)
    · rw [if_pos h2, if_pos (by omega)]
      unfold swr
      rw [if_pos (by omega)]
    · rw [if_neg h2, if_neg (by omega)]
      by_cases h3 : k < m - (i - j) + (m + j - m)
      · rw [if_pos h3]
        unfold swr
        rw [if_neg (by omega), if_pos (by omega)]
        congr 1; omega
      · rw [if_neg h3]
        unfold swr
        rw [if_neg (by omega), if_neg (by omega)]
theorem rot_less (f : Nat → Nat) (m i j : Nat) (him : i ≤ m) (hj : i < j) : rot (swr f (m - i) (m + j - i) i) (m - i) m (m + (j - i)) = rot f (m - i) m (m + j) := by
  funext k
  unfold rot
  by_cases h1 : k < m - i ∨ m + j ≤ k
  · rw [if_pos (by omega), if_pos h1]
    unfold swr
    rw [if_neg (by omega), if_neg (by omega)]
  · rw [if_neg h1]
    by_cases h4 : m + (j - i) ≤ k
    · rw [if_pos (by omega), if_neg (by omega)]
      unfold swr
      rw [if_neg (by omega), if_pos (by omega)]
      congr 1; omega
    · rw [if_neg (by omega)]
      by_cases h2 : k < m - i + (m + (j - i) - m)
      · rw [if_pos h2, if_pos (by omega)]
        unfold swr
        rw [if_neg (by omega), if_neg (by omega)]
      · rw [if_neg h2, if_pos (by omega)]
        unfold swr
        rw [if_pos (by omega)]
        congr 1; omega
theorem rot_last (f : Nat → Nat) (m i : Nat) (him : i ≤ m) : swr f (m - i) m i = rot f (m - i) m (m + i) := by
  funext k
  unfold rot swr
  by_cases h1 : k < m - i ∨ m + i ≤ k
  · rw [if_pos h1, if_neg (by omega), if_neg (by omega)]
  · rw [if_neg h1]
    by_cases h2 : k < m - i + (m + i - m)
    · rw [if_pos h2, if_pos (by omega)]
    · rw [if_neg h2, if_neg (by omega), if_pos (by omega)]
      congr 1; omega
theorem rot_within (f : Nat → Nat) {a m b : Nat} (h1 : a ≤ m) (h2 : m ≤ b) : Within f (rot f a m b) a b := by
  refine ⟨fun i hi => by unfold rot; rw [if_pos hi], fun i q1 q2 => ?_⟩
  by_cases h : i < a + (b - m)
  · exact ⟨i - a + m, by omega, by omega, by unfold rot; rw [if_neg (by omega), if_pos h]⟩
  · exact ⟨i - (b - m), by omega, by omega, by unfold rot; rw [if_neg (by omega), if_neg h]⟩

/-- What symMerge does. -/
def Merged (lt : Nat → Nat → Bool) (f g : Nat → Nat) (a b : Nat) : Prop := Within f g a b ∧ Srt lt g a b

/-- The halves are merged, and all of the one come before all of the other. -/
theorem merged_halves {lt : Nat → Nat → Bool} (W : Weak lt) {f g h : Nat → Nat} {a mid b : Nat} (h1 : a ≤ mid) (h2 : mid ≤ b) (hx : ∀ i j, a ≤ i → i < mid → mid ≤ j → j < b → lt (f j) (f i) = false) (m1 : Merged lt f g a mid) (m2 : Merged lt g h mid b) : Merged lt f h a b := by
  have w2 := m2.1.1
  refine ⟨(m1.1.mono (Nat.le_refl _) h2).trans (m2.1.mono h1 (Nat.le_refl _)), fun i j a1 a2 a3 => ?_⟩
  by_cases e1 : j < mid
  · rw [w2 i (by omega), w2 j (by omega)]; exact m1.2 i j a1 a2 e1
  · by_cases e2 : mid ≤ i
    · exact m2.2 i j e2 a2 a3
    · rw [w2 i (by omega)]
      obtain ⟨p, p1, p2, p3⟩ := m1.1.2 i a1 (by omega)
      obtain ⟨q, q1, q2, q3⟩ := m2.1.2 j (by omega) a3
      rw [p3, q3, m1.1.1 q (by omega)]
      exact hx p q p1 p2 q1 q2

/-- Where symMerge parts: 's' out of [lo, hi). -/
structure Parted (lt : Nat → Nat → Bool) (f : Nat → Nat) (a m b mid n s : Nat) : Prop where
  a_s : a ≤ s
  s_m : s ≤ m
  m_e : m ≤ n - s
  e_b : n - s ≤ b
  left : a < s → n - s < b → lt (f (n - s)) (f (s - 1)) = false
  right : s < m → m < n - s → lt (f (n - s - 1)) (f s) = true

theorem rot_parts {lt : Nat → Nat → Bool} (W : Weak lt) {f : Nat → Nat} {a m b mid n s : Nat} (hn : n = mid + m) (hmid : mid = (a + b) / 2) (ham : a ≤ m) (hmb : m ≤ b) (hl : Srt lt f a m) (hr : Srt lt f m b) (P : Parted lt f a m b mid n s) :
    Srt lt (rot f s m (n - s)) a s ∧ Srt lt (rot f s m (n - s)) s mid ∧ Srt lt (rot f s m (n - s)) mid (n - s) ∧ Srt lt (rot f s m (n - s)) (n - s) b ∧ ∀ i j, a ≤ i → i < mid → mid ≤ j → j < b → lt (rot f s m (n - s) j) (rot f s m (n - s) i) = false := by
  obtain ⟨p1, p2, p3, p4, p5, p6⟩ := P
  have e1 : ∀ k, k < s → rot f s m (n - s) k = f k := fun k hk => by unfold rot; rw [if_pos (by omega)]
  have e2 : ∀ k, s ≤ k → k < mid → rot f s m (n - s) k = f (k - s + m) := fun k h1 h2 => by unfold rot; rw [if_neg (by omega), if_pos (by omega)]
  have e3 : ∀ k, mid ≤ k → k < n - s → rot f s m (n - s) k = f (k - (n - s - m)) := fun k h1 h2 => by unfold rot; rw [if_neg (by omega), if_neg (by omega)]
  have e4 : ∀ k, n - s ≤ k → rot f s m (n - s) k = f k := fun k hk => by unfold rot; rw [if_pos (by omega)]
  refine ⟨fun i j a1 a2 a3 => ?_, fun i j a1 a2 a3 => ?_, fun i j a1 a2 a3 => ?_, fun i j a1 a2 a3 => ?_, fun i j a1 a2 a3 a4 => ?_⟩
  · rw [e1 i (by omega), e1 j a3]; exact hl i j a1 a2 (by omega)
  · rw [e2 i a1 (by omega), e2 j (by omega) a3]; exact hr _ _ (by omega) (by omega) (by omega)
  · rw [e3 i a1 (by omega), e3 j (by omega) a3]; exact hl _ _ (by omega) (by omega) (by omega)
  · rw [e4 i a1, e4 j (by omega)]; exact hr i j (by omega) a2 a3
  · by_cases c1 : i < s
    · rw [e1 i c1]
      by_cases c2 : j < n - s
      · rw [e3 j a3 c2]; exact hl _ _ a1 (by omega) (by omega)
      · rw [e4 j (by omega)]
        have q1 := p5 (by omega) (by omega)
        exact W.trans _ _ _ (hl i (s - 1) a1 (by omega) (by omega)) (W.trans _ _ _ q1 (hr (n - s) j (by omega) (by omega) a4))
    · rw [e2 i (by omega) a2]
      by_cases c2 : j < n - s
      · rw [e3 j a3 c2]
        have q1 := W.asym _ _ (p6 (by omega) (by omega))
        exact W.trans _ _ _ (hr (i - s + m) (n - s - 1) (by omega) (by omega) (by omega)) (W.trans _ _ _ q1 (hl s (j - (n - s - m)) (by omega) (by omega) (by omega)))
      · rw [e4 j (by omega)]; exact hr _ _ (by omega) (by omega) a4
end Go.Proofs.Ybulkeeeq
