namespace Go.Proofs.YbulkeeawFmt

/-! ### The trace: one second a sample, kb q kbit/s, m samples, repeated -/

/-- Bits ahead of sample x. -/
def P (kb : Nat → Nat) : Nat → Nat
  | 0 => 0
  | x + 1 => P kb x + 1000 * kb x

/-- Bits in n seconds from second s on. -/
def W (kb : Nat → Nat) (m s : Nat) : Nat → Nat
  | 0 => 0
  | n + 1 => W kb m s n + 1000 * kb ((s + n) % m)

theorem P_le {kb : Nat → Nat} (h : ∀ q, kb q ≤ 5) : ∀ x, P kb x ≤ 5000 * x
  | 0 => by simp [P]
  | x + 1 => by have := P_le h x; have := h x; simp only [P]; omega
theorem W_le {kb : Nat → Nat} (h : ∀ q, kb q ≤ 5) (m s : Nat) : ∀ n, W kb m s n ≤ 5000 * n
  | 0 => by simp [W]
  | n + 1 => by have := W_le h m s n; have := h ((s + n) % m); simp only [W]; omega
theorem P_mono (kb : Nat → Nat) {a b : Nat} (h : a ≤ b) : P kb a ≤ P kb b := by
  induction b with
  | zero => have : a = 0 := by omega
            subst this; exact Nat.le_refl _
  | succ b ih =>
    by_cases e : a = b + 1
    · subst e; exact Nat.le_refl _
    · have := ih (by omega); simp only [P]; omega
theorem W_mono (kb : Nat → Nat) (m s : Nat) {a b : Nat} (h : a ≤ b) : W kb m s a ≤ W kb m s b := by
  induction b with
  | zero => have : a = 0 := by omega
            subst this; exact Nat.le_refl _
  | succ b ih =>
    by_cases e : a = b + 1
    · subst e; exact Nat.le_refl _
    · have := ih (by omega); simp only [W]; omega
theorem W_add (kb : Nat → Nat) (m s a : Nat) : ∀ b, W kb m s (a + b) = W kb m s a + W kb m (s + a) b
  | 0 => by simp [W]
  | b + 1 => by
    have ih := W_add kb m s a b
    have e : a + (b + 1) = (a + b) + 1 := by omega
    rw [e]
    simp only [W, ih]
    rw [show s + (a + b) = s + a + b by omega]
    omega
theorem W_mod (kb : Nat → Nat) (m s : Nat) : ∀ n, W kb m s n = W kb m (s % m) n
  | 0 => rfl
  | n + 1 => by
    simp only [W, W_mod kb m s n]
    rw [Nat.mod_add_mod]
theorem W_small (kb : Nat → Nat) (m s : Nat) : ∀ n, s + n ≤ m → P kb s + W kb m s n = P kb (s + n)
  | 0, _ => by simp [W]
  | n + 1, h => by
    have ih := W_small kb m s n (by omega)
    rw [show s + (n + 1) = (s + n) + 1 by omega]
    simp only [W, P]
    rw [Nat.mod_eq_of_lt (show s + n < m by omega)]
    omega
theorem W_full (kb : Nat → Nat) (m s : Nat) (h : s < m) : W kb m s m = P kb m := by
  have h1 := W_small kb m s (m - s) (by omega)
  have h2 := W_add kb m s (m - s) s
  rw [show m - s + s = m by omega, show s + (m - s) = m by omega] at h2
  rw [show s + (m - s) = m by omega] at h1
  have h3 : W kb m m s = P kb s := by
    rw [W_mod, Nat.mod_self]
    have := W_small kb m 0 s (by omega)
    simpa [P] using this
  omega
theorem W_passes (kb : Nat → Nat) (m s : Nat) (h : s < m) (r : Nat) : ∀ k, W kb m s (k * m + r) = k * P kb m + W kb m s r
  | 0 => by simp
  | k + 1 => by
    have ih := W_passes kb m s h r k
    have e : (k + 1) * m + r = m + (k * m + r) := by rw [Nat.add_mul]; omega
    rw [e, W_add, W_full kb m s h, W_mod kb m (s + m), Nat.add_mod_right, Nat.mod_eq_of_lt h, ih, Nat.add_mul]
    omega
/-- windowBits' reckoning. -/
theorem W_window (kb : Nat → Nat) (m s n : Nat) (h : s < m) :
    (n % m ≤ m - s → W kb m s n + P kb s = n / m * P kb m + P kb (s + n % m)) ∧
    (m - s < n % m → W kb m s n + P kb s = n / m * P kb m + (P kb m + P kb (n % m - (m - s)))) := by
  have hm : 0 < m := by omega
  have e : n / m * m + n % m = n := by rw [Nat.mul_comm]; exact Nat.div_add_mod n m
  have hp := W_passes kb m s h (n % m) (n / m)
  rw [e] at hp
  have hr := Nat.mod_lt n hm
  refine ⟨fun hle => ?_, fun hlt => ?_⟩
  · have := W_small kb m s (n % m) (by omega)
    omega
  · have h1 := W_add kb m s (m - s) (n % m - (m - s))
    rw [show m - s + (n % m - (m - s)) = n % m by omega, show s + (m - s) = m by omega] at h1
    have h2 := W_small kb m s (m - s) (by omega)
    rw [show s + (m - s) = m by omega] at h2
    have h3 : W kb m m (n % m - (m - s)) = P kb (n % m - (m - s)) := by
      rw [W_mod, Nat.mod_self]
      have := W_small kb m 0 (n % m - (m - s)) (by omega)
      simpa [P] using this
    omega

/-- The slot at which bits are full is one. -/
theorem fill_unique {kb : Nat → Nat} {m s a b bits : Nat} (h1 : W kb m s a < bits) (h2 : bits ≤ W kb m s (a + 1)) (h3 : W kb m s b < bits) (h4 : bits ≤ W kb m s (b + 1)) : a = b := by
  rcases Nat.lt_trichotomy a b with h | h | h
  · have := W_mono kb m s (show a + 1 ≤ b by omega); omega
  · exact h
  · have := W_mono kb m s (show b + 1 ≤ a by omega); omega

/-! ### Chunks that hold a place -/
/-- The started chunks a .. a + n - 1 (from 0). -/
def cntT (f : Nat → Bool) (a : Nat) : Nat → Nat
  | 0 => 0
  | n + 1 => cntT f a n + (if f (a + n) then 1 else 0)
theorem cntT_add (f : Nat → Bool) (a n : Nat) : ∀ k, cntT f a (n + k) = cntT f a n + cntT f (a + n) k
  | 0 => by simp [cntT]
  | k + 1 => by
    have ih := cntT_add f a n k
    rw [show n + (k + 1) = (n + k) + 1 by omega]
    simp only [cntT, ih, Nat.add_assoc]
theorem cntT_le (f : Nat → Bool) (a : Nat) : ∀ n, cntT f a n ≤ n
  | 0 => by simp [cntT]
  | n + 1 => by have := cntT_le f a n; simp only [cntT]; split <;> omega
/-- One more is started. -/
theorem cntT_set (f : Nat → Bool) (a i : Nat) (hi : f i = false) : ∀ n, a ≤ i → cntT (fun q => if q = i then true else f q) a n = cntT f a n + (if i < a + n then 1 else 0)
  | 0, h => by simp [cntT]; omega
  | n + 1, h => by
    have ih := cntT_set f a i hi n h
    simp only [cntT, ih]
    by_cases e : a + n = i
    · subst e
      simp [hi]
    · have e1 : (i < a + (n + 1)) ↔ (i < a + n) := by omega
      simp only [e, e1, if_false]
      omega
theorem cntT_same (f : Nat → Bool) (a i : Nat) (hi : f i = true) : ∀ n, cntT (fun q => if q = i then true else f q) a n = cntT f a n
  | 0 => rfl
  | n + 1 => by
    have ih := cntT_same f a i hi n
    simp only [cntT, ih]
    by_cases e : a + n = i
    · subst e; simp [hi]
    · simp only [e, if_false]

end Go.Proofs.YbulkeeawFmt
