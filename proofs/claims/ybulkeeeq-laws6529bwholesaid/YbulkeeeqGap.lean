import Derived.Test.YbulkeeeqBin
namespace Go.Proofs.Ybulkeeeq
set_option linter.unusedVariables false

/-! ### An identifier as three words: the gap between two, and which is the less -/
def gl (x y : Nat) : Nat := (y + (4294967295 - x)) % 4294967296
def gc (x y : Nat) : Nat := (y + (4294967295 - x)) / 4294967296
def gm (x y c : Nat) : Nat := (y + (18446744073709551615 - x) + c) % 18446744073709551616
def gd (x y c : Nat) : Nat := (y + (18446744073709551615 - x) + c) / 18446744073709551616
def b1 (x y : Nat) : Nat := if x < y then 1 else 0
def b2 (x y b : Nat) : Nat := if x < y + b then 1 else 0
/-- x's gap to y: its three words, the greatest first. -/
def gapH (xh xl yh yl : Nat) : Nat := gm xh yh (gd 0 0 (gc xl yl))
def gapM (xl yl : Nat) : Nat := gm 0 0 (gc xl yl)
/-- Is the one less than the other? -/
def lessN (h1 m1 l1 h2 m2 l2 : Nat) : Nat := b2 h1 h2 (b2 m1 m2 (b1 l1 l2))
def btw (hx lx ha la hb lb : Nat) : Bool :=
  if ha * 72057594037927936 = hb * 72057594037927936 ∧ la = lb then !decide (hx * 72057594037927936 = ha * 72057594037927936 ∧ lx = la)
  else decide (lessN (gapH (hx * 72057594037927936) lx (hb * 72057594037927936) lb) (gapM lx lb) (gl lx lb) (gapH (ha * 72057594037927936) la (hb * 72057594037927936) lb) (gapM la lb) (gl la lb) ≠ 0)

theorem gc_eq (x y : Nat) (hx : x ≤ 255) (hy : y ≤ 255) : gc x y = if x < y then 1 else 0 := by
  unfold gc; split <;> omega
theorem gl_eq (x y : Nat) (hx : x ≤ 255) (hy : y ≤ 255) : gl x y = if x < y then y - x - 1 else y + (4294967295 - x) := by
  unfold gl; split <;> omega
theorem gd_eq (c : Nat) (hc : c ≤ 1) : gd 0 0 c = c := by unfold gd; omega
theorem gm_eq (c : Nat) (hc : c ≤ 1) : gm 0 0 c = if c = 1 then 0 else 18446744073709551615 := by unfold gm; split <;> omega
theorem gh_eq (x y c : Nat) (hx : x ≤ 18374686479671623680) (hy : y ≤ 18374686479671623680) (hc : c ≤ 1) : gm x y c = if x + 1 ≤ y + c then y + c - x - 1 else y + (18446744073709551615 - x) + c := by
  unfold gm; split <;> omega

theorem bcmp_zero (h1 l1 h2 l2 : Nat) : bcmp h1 l1 h2 l2 = 0 ↔ (h1 = h2 ∧ l1 = l2) := by
  unfold bcmp; repeat' split
  all_goals omega
theorem bcmp_neg (h1 l1 h2 l2 : Nat) : bcmp h1 l1 h2 l2 < 0 ↔ (h1 < h2 ∨ (h1 = h2 ∧ l1 < l2)) := by
  unfold bcmp; repeat' split
  all_goals omega
theorem bcmp_pos (h1 l1 h2 l2 : Nat) : 0 < bcmp h1 l1 h2 l2 ↔ (h2 < h1 ∨ (h1 = h2 ∧ l2 < l1)) := by
  unfold bcmp; repeat' split
  all_goals omega
theorem bcmp_le (h1 l1 h2 l2 : Nat) : bcmp h1 l1 h2 l2 ≤ 0 ↔ ¬ (h2 < h1 ∨ (h1 = h2 ∧ l2 < l1)) := by
  rw [← bcmp_pos]; omega

theorem less_iff (h1 m1 l1 h2 m2 l2 : Nat) : lessN h1 m1 l1 h2 m2 l2 ≠ 0 ↔ (h1 < h2 ∨ (h1 = h2 ∧ (m1 < m2 ∨ (m1 = m2 ∧ l1 < l2)))) := by
  unfold lessN b2 b1; repeat' split
  all_goals omega

/-- The gaps' order, by the two bytes. -/
theorem gap_less (hx lx ha la hb lb : Nat) (q1 : hx ≤ 255) (q2 : lx ≤ 255) (q3 : ha ≤ 255) (q4 : la ≤ 255) (q5 : hb ≤ 255) (q6 : lb ≤ 255) (hne : ¬ (hx = hb ∧ lx = lb)) (hab : ¬ (ha = hb ∧ la = lb)) :
    (lessN (gapH (hx * 72057594037927936) lx (hb * 72057594037927936) lb) (gapM lx lb) (gl lx lb) (gapH (ha * 72057594037927936) la (hb * 72057594037927936) lb) (gapM la lb) (gl la lb) ≠ 0) ↔
    bin hx lx ha la hb lb = true := by
  rw [less_iff]
  have c1 : gc lx lb ≤ 1 := by rw [gc_eq lx lb q2 q6]; split <;> omega
  have c2 : gc la lb ≤ 1 := by rw [gc_eq la lb q4 q6]; split <;> omega
  unfold gapH gapM
  rw [gd_eq _ c1, gd_eq _ c2, gm_eq _ c1, gm_eq _ c2, gl_eq lx lb q2 q6, gl_eq la lb q4 q6, gh_eq _ _ _ (by omega) (by omega) c1, gh_eq _ _ _ (by omega) (by omega) c2]
  have e1 := gc_eq lx lb q2 q6
  have e2 := gc_eq la lb q4 q6
  generalize gc lx lb = k1 at *
  generalize gc la lb = k2 at *
  have hb1 : bin hx lx ha la hb lb = true ↔ ((ha < hb ∨ (ha = hb ∧ la < lb)) ∧ (ha < hx ∨ (hx = ha ∧ la < lx)) ∧ ¬ (hb < hx ∨ (hx = hb ∧ lb < lx))) ∨ (¬ (ha < hb ∨ (ha = hb ∧ la < lb)) ∧ ((ha < hx ∨ (hx = ha ∧ la < lx)) ∨ ¬ (hb < hx ∨ (hx = hb ∧ lb < lx)))) := by
    unfold bin
    rw [if_neg (fun h => hab ((bcmp_zero _ _ _ _).1 h))]
    by_cases q : bcmp ha la hb lb < 0
    · rw [if_pos q]
      have q' := (bcmp_neg _ _ _ _).1 q
      simp only [Bool.and_eq_true, decide_eq_true_eq, bcmp_pos, bcmp_le]
      omega
    · rw [if_neg q]
      have q' : ¬ (ha < hb ∨ (ha = hb ∧ la < lb)) := fun h => q ((bcmp_neg _ _ _ _).2 h)
      simp only [Bool.or_eq_true, decide_eq_true_eq, bcmp_pos, bcmp_le]
      omega
  rw [hb1]
  clear hb1
  by_cases s1 : lx < lb
  · rw [if_pos s1] at e1 ⊢
    by_cases s2 : la < lb
    · rw [if_pos s2] at e2 ⊢
      subst e1 e2
      simp only [if_true, true_and, Nat.lt_irrefl, false_or]
      split <;> split <;> omega
    · rw [if_neg s2] at e2 ⊢
      subst e1 e2
      simp only [show ((0 : Nat) = 1) = False from by simp, if_true, if_false]
      split <;> split <;> omega
  · rw [if_neg s1] at e1 ⊢
    by_cases s2 : la < lb
    · rw [if_pos s2] at e2 ⊢
      subst e1 e2
      simp only [show ((0 : Nat) = 1) = False from by simp, if_true, if_false]
      split <;> split <;> omega
    · rw [if_neg s2] at e2 ⊢
      subst e1 e2
      simp only [show ((0 : Nat) = 1) = False from by simp, if_false, true_and, Nat.lt_irrefl, false_or]
      split <;> split <;> omega

theorem btw_bin (hx lx ha la hb lb : Nat) (q1 : hx ≤ 255) (q2 : lx ≤ 255) (q3 : ha ≤ 255) (q4 : la ≤ 255) (q5 : hb ≤ 255) (q6 : lb ≤ 255) (hne : ¬ (hx = hb ∧ lx = lb)) : btw hx lx ha la hb lb = bin hx lx ha la hb lb := by
  unfold btw
  by_cases hab : ha = hb ∧ la = lb
  · rw [if_pos ⟨by omega, hab.2⟩]
    have e : bin hx lx ha la hb lb = true := by unfold bin; rw [if_pos ((bcmp_zero _ _ _ _).2 hab)]
    rw [e]
    simp only [Bool.not_eq_true', decide_eq_false_iff_not]
    intro h
    exact hne ⟨by omega, by omega⟩
  · rw [if_neg (fun h => hab ⟨by omega, h.2⟩)]
    have h := gap_less hx lx ha la hb lb q1 q2 q3 q4 q5 q6 hne hab
    cases hq : bin hx lx ha la hb lb with
    | true => exact decide_eq_true (h.2 hq)
    | false => exact decide_eq_false (fun c => by rw [h.1 c] at hq; cases hq)
theorem bin_end (hb lb ha la : Nat) : bin hb lb ha la hb lb = true := by
  unfold bin
  by_cases h0 : bcmp ha la hb lb = 0
  · rw [if_pos h0]
  · rw [if_neg h0]
    have e : bcmp hb lb hb lb = 0 := (bcmp_zero _ _ _ _).2 ⟨rfl, rfl⟩
    rw [e]
    by_cases q : bcmp ha la hb lb < 0
    · rw [if_pos q]
      have : 0 < bcmp hb lb ha la := (bcmp_pos _ _ _ _).2 (by have := (bcmp_neg _ _ _ _).1 q; omega)
      simp [this]
    · rw [if_neg q]; simp
end Go.Proofs.Ybulkeeeq
