namespace Go.Proofs.Ybulkeeeq
set_option linter.unusedVariables false

/-- An event: its moment, its number, and what it does. -/
structure Ev where
  t : Int
  seq : Nat
  id : Nat
  child : Bool
  d : Nat

/-- a runs before b. -/
def bef (a b : Ev) : Bool := decide (a.t < b.t) || (decide (a.t = b.t) && decide (a.seq < b.seq))
theorem bef_true {a b : Ev} : bef a b = true ↔ (a.t < b.t ∨ (a.t = b.t ∧ a.seq < b.seq)) := by
  unfold bef; simp
theorem bef_false {a b : Ev} : bef a b = false ↔ (b.t < a.t ∨ (a.t = b.t ∧ b.seq ≤ a.seq)) := by
  rw [← Bool.not_eq_true, bef_true]; omega
theorem le_trans' {a b c : Ev} (h1 : bef b a = false) (h2 : bef c b = false) : bef c a = false := by
  rw [bef_false] at *; omega
theorem le_of_bef {a b : Ev} (h : bef a b = true) : bef b a = false := by
  rw [bef_true] at h; rw [bef_false]; omega
theorem le_refl' (a : Ev) : bef a a = false := by rw [bef_false]; omega

/-- h with e at k. -/
def upd (h : Nat → Ev) (k : Nat) (e : Ev) : Nat → Ev := fun j => if j = k then e else h j
theorem upd_self (h : Nat → Ev) (k : Nat) (e : Ev) : upd h k e k = e := by simp [upd]
theorem upd_ne (h : Nat → Ev) {k j : Nat} (e : Ev) (hj : j ≠ k) : upd h k e j = h j := by simp [upd, hj]

/-- How many of the first n answer to p. -/
def cnt (p : Ev → Bool) (h : Nat → Ev) : Nat → Nat
  | 0 => 0
  | n + 1 => cnt p h n + (if p (h n) then 1 else 0)
theorem cnt_congr {p : Ev → Bool} {h h' : Nat → Ev} : ∀ {n : Nat}, (∀ j, j < n → h j = h' j) → cnt p h n = cnt p h' n
  | 0, _ => rfl
  | n + 1, hh => by
    simp only [cnt]
    rw [cnt_congr (fun j hj => hh j (by omega)), hh n (by omega)]
theorem cnt_upd {p : Ev → Bool} {h : Nat → Ev} {k : Nat} {e : Ev} : ∀ {n : Nat}, k < n → cnt p (upd h k e) n + (if p (h k) then 1 else 0) = cnt p h n + (if p e then 1 else 0)
  | 0, hk => by omega
  | n + 1, hk => by
    simp only [cnt]
    by_cases e1 : n = k
    · subst e1
      rw [upd_self, cnt_congr (h' := h) (fun j hj => upd_ne h e (by omega))]
      omega
    · have ih := cnt_upd (p := p) (h := h) (k := k) (e := e) (n := n) (by omega)
      rw [upd_ne h e e1]
      omega
theorem cnt_pos {p : Ev → Bool} {h : Nat → Ev} : ∀ {n : Nat}, 0 < cnt p h n → ∃ j, j < n ∧ p (h j) = true
  | 0, hh => by simp [cnt] at hh
  | n + 1, hh => by
    simp only [cnt] at hh
    by_cases e : p (h n) = true
    · exact ⟨n, by omega, e⟩
    · rw [if_neg e] at hh
      obtain ⟨j, h1, h2⟩ := cnt_pos (n := n) (by omega)
      exact ⟨j, by omega, h2⟩
theorem cnt_one {p : Ev → Bool} {h : Nat → Ev} {j : Nat} : ∀ {n : Nat}, j < n → p (h j) = true → 0 < cnt p h n
  | 0, hj, _ => by omega
  | n + 1, hj, hp => by
    simp only [cnt]
    by_cases e : j = n
    · subst e; rw [if_pos hp]; omega
    · have := cnt_one (h := h) (p := p) (j := j) (n := n) (by omega) hp
      omega

/-! ### The heap, four below each -/
def Heap (h : Nat → Ev) (n : Nat) : Prop := ∀ j, 0 < j → j < n → bef (h j) (h ((j - 1) / 4)) = false

theorem Heap.root {h : Nat → Ev} {n : Nat} (hh : Heap h n) : ∀ (f j : Nat), j ≤ f → j < n → bef (h j) (h 0) = false
  | 0, j, hf, hj => by
    have : j = 0 := by omega
    subst this; exact le_refl' _
  | f + 1, j, hf, hj => by
    by_cases e : j = 0
    · subst e; exact le_refl' _
    · exact le_trans' (Heap.root hh f ((j - 1) / 4) (by omega) (by omega)) (hh j (by omega) hj)
theorem Heap.min {h : Nat → Ev} {n : Nat} (hh : Heap h n) {j : Nat} (hj : j < n) : bef (h j) (h 0) = false := Heap.root hh j j (Nat.le_refl _) hj

/-- While e goes up: it is to stand at k, among 0 .. n. -/
structure UpInv (h0 h : Nat → Ev) (k n : Nat) (e : Ev) : Prop where
  le : k ≤ n
  a : ∀ j, 0 < j → j ≤ n → j ≠ k → (j - 1) / 4 ≠ k → bef (h j) (h ((j - 1) / 4)) = false
  b : ∀ j, 0 < j → j ≤ n → (j - 1) / 4 = k → bef (h j) e = false
  c : ∀ j, 0 < j → j ≤ n → (j - 1) / 4 = k → 0 < k → bef (h j) (h ((k - 1) / 4)) = false
  bag : ∀ p, cnt p (upd h k e) (n + 1) = cnt p h0 n + (if p e then 1 else 0)

theorem UpInv.start {h0 : Nat → Ev} {n : Nat} (e : Ev) (hh : Heap h0 n) (h : Nat → Ev) (heq : ∀ j, j < n → h j = h0 j) : UpInv h0 h n n e :=
  ⟨Nat.le_refl _, fun j h1 h2 h3 h4 => by rw [heq j (by omega), heq _ (by omega)]; exact hh j h1 (by omega), fun j h1 h2 h3 => by omega, fun j h1 h2 h3 => by omega,
    fun p => by
      simp only [cnt, upd_self]
      rw [cnt_congr (h' := h0) (fun j hj => by rw [upd_ne h e (by omega)]; exact heq j hj)]⟩

theorem UpInv.step {h0 h : Nat → Ev} {k n : Nat} {e : Ev} (i : UpInv h0 h k n e) (hk : 0 < k) (hb : bef e (h ((k - 1) / 4)) = true) : UpInv h0 (upd h k (h ((k - 1) / 4))) ((k - 1) / 4) n e := by
  obtain ⟨hle, ha, hbb, hc, hbag⟩ := i
  have hup : (k - 1) / 4 < k := by omega
  have hne : ∀ j, j ≠ k → upd h k (h ((k - 1) / 4)) j = h j := fun j hj => upd_ne h _ hj
  have hP := le_of_bef hb
  -- what stands over up, and what stands below
  have hsib : ∀ j, 0 < j → j ≤ n → (j - 1) / 4 = (k - 1) / 4 → j ≠ k → bef (h j) (h ((k - 1) / 4)) = false := fun j h1 h2 h3 h4 => by
    have := ha j h1 h2 h4 (by omega); rw [h3] at this; exact this
  refine ⟨by omega, fun j h1 h2 h3 h4 => ?_, fun j h1 h2 h3 => ?_, fun j h1 h2 h3 h4 => ?_, fun p => ?_⟩
  · by_cases e1 : j = k
    · subst e1; omega
    · rw [hne j e1]
      by_cases e2 : (j - 1) / 4 = k
      · rw [e2, upd_self]
        exact hc j h1 h2 e2 hk
      · rw [hne _ e2]; exact ha j h1 h2 e1 e2
  · by_cases e1 : j = k
    · subst e1; rw [upd_self]; exact hP
    · rw [hne j e1]
      exact le_trans' hP (hsib j h1 h2 h3 e1)
  · have hpar : bef (h ((k - 1) / 4)) (h (((k - 1) / 4 - 1) / 4)) = false := ha ((k - 1) / 4) h4 (by omega) (by omega) (by omega)
    rw [hne (((k - 1) / 4 - 1) / 4) (by omega)]
    by_cases e1 : j = k
    · subst e1; rw [upd_self]; exact hpar
    · rw [hne j e1]
      exact le_trans' hpar (hsib j h1 h2 h3 e1)
  · have h1 := hbag p
    have h2 := cnt_upd (p := p) (h := h) (k := k) (e := e) (n := n + 1) (by omega)
    have h3 := cnt_upd (p := p) (h := h) (k := k) (e := h ((k - 1) / 4)) (n := n + 1) (by omega)
    have h4 := cnt_upd (p := p) (h := upd h k (h ((k - 1) / 4))) (k := (k - 1) / 4) (e := e) (n := n + 1) (by omega)
    rw [hne _ (by omega)] at h4
    omega

theorem UpInv.done {h0 h : Nat → Ev} {k n : Nat} {e : Ev} (i : UpInv h0 h k n e) (hk : k = 0 ∨ bef e (h ((k - 1) / 4)) = false) : Heap (upd h k e) (n + 1) ∧ ∀ p, cnt p (upd h k e) (n + 1) = cnt p h0 n + (if p e then 1 else 0) := by
  refine ⟨fun j h1 h2 => ?_, i.bag⟩
  by_cases e1 : j = k
  · subst e1
    rw [upd_self, upd_ne h e (by omega)]
    rcases hk with h | h
    · omega
    · exact h
  · rw [upd_ne h e e1]
    by_cases e2 : (j - 1) / 4 = k
    · rw [e2, upd_self]; exact i.b j h1 (by omega) e2
    · rw [upd_ne h e e2]; exact i.a j h1 (by omega) e1 e2

/-- While the last goes down: it is to stand at k, among 0 .. n - 1. -/
structure DownInv (h0 h : Nat → Ev) (k n : Nat) (e : Ev) : Prop where
  lt : k < n
  a : ∀ j, 0 < j → j < n → j ≠ k → (j - 1) / 4 ≠ k → bef (h j) (h ((j - 1) / 4)) = false
  b : 0 < k → bef e (h ((k - 1) / 4)) = false
  c : ∀ j, 0 < j → j < n → (j - 1) / 4 = k → 0 < k → bef (h j) (h ((k - 1) / 4)) = false
  bag : ∀ p, cnt p (upd h k e) n + (if p (h0 0) then 1 else 0) = cnt p h0 (n + 1)

theorem DownInv.start {h0 : Nat → Ev} {n : Nat} (hn : 0 < n) (hh : Heap h0 (n + 1)) (h : Nat → Ev) (heq : ∀ j, j < n → h j = h0 j) : DownInv h0 h 0 n (h0 n) := by
  refine ⟨hn, fun j h1 h2 h3 h4 => by rw [heq j h2, heq _ (by omega)]; exact hh j h1 (by omega), fun h1 => by omega, fun j h1 h2 h3 h4 => by omega, fun p => ?_⟩
  have h1 := cnt_upd (p := p) (h := h) (k := 0) (e := h0 n) (n := n) hn
  rw [heq 0 hn] at h1
  have h2 : cnt p h n = cnt p h0 n := cnt_congr heq
  simp only [cnt]
  omega

/-- The least of the children of k. -/
def LeastOf (h : Nat → Ev) (k n m : Nat) : Prop := (m - 1) / 4 = k ∧ 0 < m ∧ m < n ∧ ∀ j, 0 < j → j < n → (j - 1) / 4 = k → bef (h j) (h m) = false

theorem DownInv.step {h0 h : Nat → Ev} {k n m : Nat} {e : Ev} (i : DownInv h0 h k n e) (hm : LeastOf h k n m) (hb : bef (h m) e = true) : DownInv h0 (upd h k (h m)) m n e := by
  obtain ⟨hlt, ha, hbb, hc, hbag⟩ := i
  obtain ⟨m1, m2, m3, m4⟩ := hm
  have hkm : k < m := by omega
  have hne : ∀ j, j ≠ k → upd h k (h m) j = h j := fun j hj => upd_ne h _ hj
  refine ⟨m3, fun j h1 h2 h3 h4 => ?_, fun h1 => ?_, fun j h1 h2 h3 h4 => ?_, fun p => ?_⟩
  · by_cases e1 : j = k
    · subst e1
      rw [upd_self, hne _ (by omega)]
      exact hc m m2 m3 m1 h1
    · rw [hne j e1]
      by_cases e2 : (j - 1) / 4 = k
      · rw [e2, upd_self]; exact m4 j h1 h2 e2
      · rw [hne _ e2]; exact ha j h1 h2 e1 e2
  · rw [m1, upd_self]; exact le_of_bef hb
  · rw [m1, upd_self, hne j (by omega)]
    have := ha j h1 h2 (by omega) (by omega)
    rw [h3] at this; exact this
  · have h1 := hbag p
    have h2 := cnt_upd (p := p) (h := h) (k := k) (e := e) (n := n) hlt
    have h3 := cnt_upd (p := p) (h := h) (k := k) (e := h m) (n := n) hlt
    have h4 := cnt_upd (p := p) (h := upd h k (h m)) (k := m) (e := e) (n := n) m3
    rw [hne m (by omega)] at h4
    omega

theorem DownInv.done {h0 h : Nat → Ev} {k n : Nat} {e : Ev} (i : DownInv h0 h k n e) (hk : n ≤ 4 * k + 1 ∨ ∃ m, LeastOf h k n m ∧ bef (h m) e = false) : Heap (upd h k e) n ∧ ∀ p, cnt p (upd h k e) n + (if p (h0 0) then 1 else 0) = cnt p h0 (n + 1) := by
  refine ⟨fun j h1 h2 => ?_, i.bag⟩
  by_cases e1 : j = k
  · subst e1
    rw [upd_self, upd_ne h e (by omega)]
    exact i.b h1
  · rw [upd_ne h e e1]
    by_cases e2 : (j - 1) / 4 = k
    · rw [e2, upd_self]
      rcases hk with hk | ⟨m, hm, hb⟩
      · omega
      · exact le_trans' hb (hm.2.2.2 j h1 h2 e2)
    · rw [upd_ne h e e2]; exact i.a j h1 h2 e1 e2

end Go.Proofs.Ybulkeeeq
