import Derived.Test.YbulkeeeqRof
namespace Go.Proofs.Ybulkeeeq
set_option linter.unusedVariables false

/-- The M keys are parted into nR runs of L, the last maybe shorter. -/
structure Parts (L M nR : Nat) : Prop where
  pos : 0 < L
  each : ∀ r, r < nR → r * L < M
  all : M ≤ nR * L
theorem Parts.rpos {L M nR : Nat} (h : Parts L M nR) (r : Nat) (hr : r < nR) : 0 < rlen L M r := by
  have := h.each r hr; have := h.pos; unfold rlen; omega
theorem mul_step {r r' L : Nat} (h : r < r') : r * L + L ≤ r' * L := by
  have : (r + 1) * L ≤ r' * L := Nat.mul_le_mul_right L h
  rw [Nat.add_mul, Nat.one_mul] at this; exact this
theorem Parts.full {L M nR : Nat} (h : Parts L M nR) {r r' : Nat} (hr : r < r') (hr' : r' < nR) : rlen L M r = L := by
  have h1 := h.each r' hr'
  have h2 := mul_step (L := L) hr
  unfold rlen; omega
theorem Parts.fit {L M nR : Nat} (h : Parts L M nR) (r : Nat) (hr : r < nR) : r * L + rlen L M r ≤ M := by
  have := h.each r hr; unfold rlen; omega
theorem Parts.next {L M nR : Nat} (h : Parts L M nR) (r : Nat) (hr : r < nR) : (r + 1 < nR ∧ r * L + rlen L M r = (r + 1) * L) ∨ (r + 1 = nR ∧ r * L + rlen L M r = M) := by
  have h0 := h.each r hr
  have h3 : (r + 1) * L = r * L + L := by rw [Nat.add_mul, Nat.one_mul]
  by_cases c : r + 1 < nR
  · left
    have := h.full (Nat.lt_succ_self r) c
    exact ⟨c, by omega⟩
  · right
    have e : r + 1 = nR := by omega
    have h2 := h.all
    rw [← e] at h2
    exact ⟨e, by unfold rlen; omega⟩
theorem falls_run {ek : Nat → Ent} {s : ByteArray} {L M nR : Nat} (h : Parts L M nR) (hf : Falls (klt ek s) M) (r : Nat) (hr : r < nR) : Falls (klt (fun e => ek (r * L + e)) s) (rlen L M r) := by
  intro e e' h1 h2 h3
  have := h.fit r hr
  exact hf (r * L + e) (r * L + e') (by omega) (by omega) h3
theorem falls_last {ek : Nat → Ent} {s : ByteArray} {L M nR : Nat} (h : Parts L M nR) (hf : Falls (klt ek s) M) : Falls (rlt ek L M s) nR := by
  intro r r' h1 h2 h3
  have p1 := h.rpos r (by omega)
  have p2 := h.rpos r' h2
  have f2 := h.fit r' h2
  refine hf _ _ ?_ (by omega) h3
  by_cases c : r = r'
  · subst c; omega
  · have := mul_step (L := L) (show r < r' by omega)
    have : rlen L M r ≤ L := by unfold rlen; omega
    omega
/-- Where the keys from s on begin. -/
theorem cut_all {ek : Nat → Ent} {s : ByteArray} {L M nR : Nat} (h : Parts L M nR) (hf : Falls (klt ek s) M) (hn : 0 < nR) {c i j : Nat} (hc : Cut (rlt ek L M s) nR c) (hi : i = min c (nR - 1)) (hj : Cut (klt (fun e => ek (i * L + e)) s) (rlen L M i) j) : Cut (klt ek s) M (i * L + j) := by
  have hin : i < nR := by omega
  have fi := h.fit i hin
  obtain ⟨hj1, hj2, hj3⟩ := hj
  refine ⟨by omega, fun e he => ?_, fun e h1 h2 h3 => ?_⟩
  · by_cases q : e < i * L
    · have hd : e / L < i := (Nat.div_lt_iff_lt_mul h.pos).2 q
      have hfull := h.full hd hin
      have hl : klt ek s (e / L * L + (rlen L M (e / L) - 1)) := hc.2.1 (e / L) (by omega)
      have hm := Nat.div_add_mod e L
      have hmod := Nat.mod_lt e h.pos
      have hcm : L * (e / L) = e / L * L := Nat.mul_comm _ _
      have hst := mul_step (L := L) hd
      refine hf e _ ?_ ?_ hl <;> omega
    · have := hj2 (e - i * L) (by omega)
      unfold klt at this ⊢
      dsimp only at this
      rw [show i * L + (e - i * L) = e by omega] at this
      exact this
  · by_cases q : e < i * L + rlen L M i
    · have := hj3 (e - i * L) (by omega) (by omega)
      apply this
      unfold klt at h3 ⊢
      dsimp only
      rw [show i * L + (e - i * L) = e by omega]
      exact h3
    · rcases h.next i hin with ⟨n1, n2⟩ | ⟨n1, n2⟩
      · have hci : c = i := by omega
        have hnl := hc.2.2 c (Nat.le_refl _) (by omega)
        apply hnl
        rw [hci]
        have p := h.rpos i hin
        exact hf _ e (by omega) h2 h3
      · omega

/-- The numbers from p0 on, k of them. -/
def upto (M p0 : Nat) : Nat → List { i : Nat // i < M }
  | 0 => []
  | k + 1 => if h : p0 + k < M then upto M p0 k ++ [⟨p0 + k, h⟩] else upto M p0 k
theorem upto_succ {M p0 k : Nat} (h : p0 + k < M) : upto M p0 (k + 1) = upto M p0 k ++ [⟨p0 + k, h⟩] := by
  show (if h : p0 + k < M then _ else _) = _
  rw [dif_pos h]
theorem upto_len {M p0 : Nat} : ∀ {k : Nat}, p0 + k ≤ M → (upto M p0 k).length = k
  | 0, _ => rfl
  | k + 1, h => by rw [upto_succ (by omega), List.length_append, upto_len (by omega)]; rfl
theorem upto_val {M p0 : Nat} : ∀ {k : Nat}, p0 + k ≤ M → (upto M p0 k).map Subtype.val = List.range' p0 k
  | 0, _ => rfl
  | k + 1, h => by rw [upto_succ (by omega), List.map_append, upto_val (by omega), List.range'_concat]; simp
end Go.Proofs.Ybulkeeeq
