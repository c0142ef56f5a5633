import Derived.Test.YbulkeeeqPlain
namespace Go.Proofs.Ybulkeeeq
set_option linter.unusedVariables false

/-- Where the least of f 0 .. f j stands. -/
def scan (f : Nat → Ev) : Nat → Nat
  | 0 => 0
  | j + 1 => if bef (f (j + 1)) (f (scan f j)) then j + 1 else scan f j
theorem scan_le (f : Nat → Ev) : ∀ j, scan f j ≤ j
  | 0 => Nat.le_refl _
  | j + 1 => by
    have := scan_le f j
    simp only [scan]; split <;> omega
theorem scan_min (f : Nat → Ev) : ∀ j i, i ≤ j → bef (f i) (f (scan f j)) = false
  | 0, i, hi => by
    have : i = 0 := by omega
    subst this; exact le_refl' _
  | j + 1, i, hi => by
    simp only [scan]
    split
    · rename_i hb
      by_cases e : i = j + 1
      · subst e; exact le_refl' _
      · exact le_trans' (le_of_bef hb) (scan_min f j i (by omega))
    · rename_i hb
      by_cases e : i = j + 1
      · subst e; simpa using hb
      · exact scan_min f j i (by omega)

/-- f without place m. -/
def del (f : Nat → Ev) (m : Nat) : Nat → Ev := fun j => if j < m then f j else f (j + 1)
theorem cnt_del {p : Ev → Bool} {f : Nat → Ev} {m : Nat} : ∀ {n : Nat}, m < n + 1 → cnt p (del f m) n + (if p (f m) then 1 else 0) = cnt p f (n + 1)
  | 0, hm => by
    have : m = 0 := by omega
    subst this; simp [cnt]
  | n + 1, hm => by
    by_cases e : m = n + 1
    · subst e
      rw [cnt_congr (h' := f) (fun j hj => by simp [del, hj])]
      simp only [cnt]
    · have ih := cnt_del (p := p) (f := f) (m := m) (n := n) (by omega)
      have e2 : del f m n = f (n + 1) := by simp [del]; omega
      simp only [cnt] at ih ⊢
      rw [e2]
      omega

/-- Go's int64 sum. -/
def w64 (x : Int) : Int := (x + 9223372036854775808) % 18446744073709551616 - 9223372036854775808

/-- What is to come, the moment, the numbers. -/
structure St where
  f : Nat → Ev
  n : Nat
  now : Int
  seq : Nat
  nid : Nat
def least (s : St) : Nat := scan s.f (s.n - 1)
def outE (s : St) : Ev := s.f (least s)
def childE (s : St) : Ev := ⟨w64 ((outE s).t + (outE s).d), s.seq + 1, s.nid, false, 0⟩
/-- The least is run. -/
def stepS (s : St) : St :=
  if (outE s).child then ⟨upd (del s.f (least s)) (s.n - 1) (childE s), s.n, (outE s).t, s.seq + 1, s.nid + 1⟩
  else ⟨del s.f (least s), s.n - 1, (outE s).t, s.seq, s.nid⟩
def it (s : St) : Nat → St
  | 0 => s
  | i + 1 => stepS (it s i)

/-- The numbers are apart. -/
def Uniq (s : St) : Prop := (∀ i j, i < s.n → j < s.n → (s.f i).seq = (s.f j).seq → i = j) ∧ ∀ i, i < s.n → (s.f i).seq ≤ s.seq

theorem least_lt {s : St} (h : 0 < s.n) : least s < s.n := by
  have := scan_le s.f (s.n - 1); unfold least; omega
theorem least_min {s : St} {i : Nat} (hi : i < s.n) : bef (s.f i) (outE s) = false := scan_min s.f (s.n - 1) i (by omega)

theorem del_at (f : Nat → Ev) (m i : Nat) : del f m i = f (if i < m then i else i + 1) := by
  unfold del; split <;> rfl

theorem Uniq.step {s : St} (h : Uniq s) (hn : 0 < s.n) : Uniq (stepS s) := by
  obtain ⟨h1, h2⟩ := h
  have hl := least_lt hn
  have hd1 : ∀ i j, i < s.n - 1 → j < s.n - 1 → (del s.f (least s) i).seq = (del s.f (least s) j).seq → i = j := by
    intro i j hi hj he
    rw [del_at, del_at] at he
    have := h1 _ _ (by split <;> omega) (by split <;> omega) he
    split at this <;> split at this <;> omega
  have hd2 : ∀ i, i < s.n - 1 → (del s.f (least s) i).seq ≤ s.seq := by
    intro i hi
    rw [del_at]
    exact h2 _ (by split <;> omega)
  unfold stepS
  split
  · refine ⟨?_, ?_⟩
    · intro i j hi hj he
      simp only [] at hi hj he
      by_cases e1 : i = s.n - 1
      · by_cases e2 : j = s.n - 1
        · omega
        · rw [e1, upd_self, upd_ne _ _ e2] at he
          have := hd2 j (by omega)
          simp only [childE] at he
          omega
      · by_cases e2 : j = s.n - 1
        · rw [e2, upd_self, upd_ne _ _ e1] at he
          have := hd2 i (by omega)
          simp only [childE] at he
          omega
        · rw [upd_ne _ _ e1, upd_ne _ _ e2] at he
          exact hd1 i j (by omega) (by omega) he
    · intro i hi
      simp only [] at hi ⊢
      by_cases e1 : i = s.n - 1
      · rw [e1, upd_self]; simp [childE]
      · rw [upd_ne _ _ e1]
        have := hd2 i (by omega)
        omega
  · exact ⟨hd1, hd2⟩

/-- The bag behind a step. -/
theorem bag_step {s : St} (hn : 0 < s.n) (p : Ev → Bool) :
    cnt p (stepS s).f (stepS s).n + (if p (outE s) then 1 else 0) = cnt p s.f s.n + (if (outE s).child then (if p (childE s) then 1 else 0) else 0) := by
  have hl := least_lt hn
  have h1 := cnt_del (p := p) (f := s.f) (m := least s) (n := s.n - 1) (by omega)
  rw [show s.n - 1 + 1 = s.n by omega] at h1
  have e0 : s.f (least s) = outE s := rfl
  rw [e0] at h1
  unfold stepS
  split
  · have h2 : cnt p (upd (del s.f (least s)) (s.n - 1) (childE s)) s.n = cnt p (del s.f (least s)) (s.n - 1) + (if p (childE s) then 1 else 0) := by
      rw [show s.n = s.n - 1 + 1 by omega]
      simp only [cnt, Nat.add_sub_cancel, upd_self]
      rw [cnt_congr (h' := del s.f (least s)) (fun j hj => upd_ne _ _ (by omega))]
    simp only []
    rw [h2]
    omega
  · simp only []
    omega

/-- Whoever is in the bag and runs first in it is the one. -/
theorem pick {s : St} (hu : Uniq s) (hn : 0 < s.n) (e : Ev) (h1 : ∀ p : Ev → Bool, p e = true → 0 < cnt p s.f s.n) (h2 : ∀ i, i < s.n → bef (s.f i) e = false) : e = outE s := by
  obtain ⟨j, hj, he⟩ := cnt_pos (h1 (fun x => @decide (x = e) (Classical.propDecidable _)) (by simp))
  have he' : s.f j = e := by simpa using he
  have a1 := least_min hj
  rw [he'] at a1
  have a2 := h2 _ (least_lt hn)
  have e0 : s.f (least s) = outE s := rfl
  rw [e0] at a2
  rw [bef_false] at a1 a2
  have : (s.f j).seq = (s.f (least s)).seq := by rw [he', e0]; omega
  have := hu.1 j (least s) hj (least_lt hn) this
  rw [← he', this]; rfl

/-- What is left to run. -/
def leftN (s : St) : Nat := s.n + cnt (fun e => e.child) s.f s.n
theorem left_step {s : St} (hn : 0 < s.n) : leftN (stepS s) + 1 = leftN s := by
  have h := bag_step hn (fun e => e.child)
  unfold leftN
  cases hc : (outE s).child with
  | true =>
    simp only [hc, if_true] at h
    have e1 : (stepS s).n = s.n := by unfold stepS; rw [hc]; rfl
    have e2 : (childE s).child = false := rfl
    rw [e2] at h
    simp at h
    omega
  | false =>
    simp only [hc] at h
    have e1 : (stepS s).n = s.n - 1 := by unfold stepS; rw [hc]; rfl
    simp at h
    omega
theorem n_step {s : St} (hn : 0 < s.n) : (stepS s).n ≤ s.n := by
  unfold stepS; split <;> simp only [] <;> omega
/-- The numbers given out and what is left to run. -/
theorem seq_step {s : St} (hn : 0 < s.n) : (stepS s).seq + cnt (fun e => e.child) (stepS s).f (stepS s).n = s.seq + cnt (fun e => e.child) s.f s.n := by
  have h := bag_step hn (fun e => e.child)
  cases hc : (outE s).child with
  | true =>
    simp only [hc, if_true] at h
    have e1 : (stepS s).seq = s.seq + 1 := by unfold stepS; rw [hc]; rfl
    have e2 : (childE s).child = false := rfl
    rw [e2] at h
    simp at h
    omega
  | false =>
    simp only [hc] at h
    have e1 : (stepS s).seq = s.seq := by unfold stepS; rw [hc]; rfl
    simp at h
    omega

end Go.Proofs.Ybulkeeeq
