import Derived.Test.YbulkeeeqFrm
import Derived.Handy
namespace Go.Proofs.Ybulkeeeq
open Go.RowKit Go.Shelf
attribute [local go_sem] Oper.semAt_some
set_option linter.unusedVariables false

set_option maxHeartbeats 1000000 in
set_option maxRecDepth 100000 in
/-- No run at all. -/
theorem from_calls0 (l sB kB nb : Nat) (W : World) (c1 : W.cell? ⟨sB, 0, none⟩ = some (.pointer (some ⟨nb, 59, none⟩))) (c3 : W.cell? ⟨nb, 59, none⟩ = some (.slice none 0 0)) :
    Calls Yba.prog 39 #[.func (.yield l) #[] #[], .pointer (some ⟨sB, 0, none⟩), .pointer (some ⟨kB, 0, none⟩)] W fun e W' => (∃ v, e = .returned v) ∧ W' = W := by
  go_enter Yba.func39, Yba.ntmps39
  go_wp2
  go_returns
  exact ⟨⟨_, rfl⟩, rfl⟩

/-- What the node's keys are. -/
def KeysIn (x : World) (nb gR nR cR n0 L M : Nat) (ek : Nat → Ent) : Prop :=
  (nR = 0 ∧ x.cell? ⟨nb, 59, none⟩ = some (.slice none 0 0)) ∨ (0 < nR ∧ x.cell? ⟨nb, 59, none⟩ = some (.slice (some ⟨gR, 0, none⟩) nR cR) ∧ RRow x n0 gR nR L M ek)
theorem KeysIn.below {x y : World} {nb gR nR cR n0 L M : Nat} {ek : Nat → Ent} (h : KeysIn x nb gR nR cR n0 L M ek) (hb : Below n0 x y) (hnb : nb < n0) (hg : gR < n0) : KeysIn y nb gR nR cR n0 L M ek := by
  rcases h with ⟨h1, h2⟩ | ⟨h1, h2, h3⟩
  · exact Or.inl ⟨h1, by rw [hb.cell (by exact hnb)]; exact h2⟩
  · exact Or.inr ⟨h1, by rw [hb.cell (by exact hnb)]; exact h2, h3.below hb hg⟩

theorem from_stops (n sB kB nb gR nR cR n0 L M p0 : Nat) (ek : Nat → Ent) (s : ByteArray) (w : World) (c1 : w.cell? ⟨sB, 0, none⟩ = some (.pointer (some ⟨nb, 59, none⟩))) (c2 : w.cell? ⟨kB, 0, none⟩ = some (.string s)) (hk : KeysIn w nb gR nR cR n0 L M ek)
    (hn0 : n0 ≤ w.heap.size) (hnb : nb < n0) (hg : gR < n0) (hP : Parts L M nR) (hf : Falls (klt ek s) M) (hp0 : Cut (klt ek s) M p0) (hM : M ≤ 65536) (hnR2 : nR ≤ 65536) :
    SeqStopsK Fence.wide n Yba.prog 39 #[.pointer (some ⟨sB, 0, none⟩), .pointer (some ⟨kB, 0, none⟩)] (encE M ek) (KeepS n0 sB kB) (fun xs => xs = upto M p0 (M - p0)) (fun pre => ∃ k, p0 + k ≤ M ∧ pre = upto M p0 k) M w := by
  intro l J Jx W hW hJ hJx hY h0
  refine callsIn_wide.2 ?_
  have c1' : W.cell? ⟨sB, 0, none⟩ = some (.pointer (some ⟨nb, 59, none⟩)) := by rw [hW.cell (by exact lt_of_cell c1)]; exact c1
  have c2' : W.cell? ⟨kB, 0, none⟩ = some (.string s) := by rw [hW.cell (by exact lt_of_cell c2)]; exact c2
  show Calls Yba.prog 39 #[.func (.yield l) #[] #[], .pointer (some ⟨sB, 0, none⟩), .pointer (some ⟨kB, 0, none⟩)] W _
  rcases hk.below (hW.mono hn0) hnb hg with ⟨h1, h2⟩ | ⟨h1, h2, h3⟩
  · refine (from_calls0 l sB kB nb W c1' h2).mono ?_
    rintro e W' ⟨hv, rfl⟩
    have hM0 : M = 0 := by have := hP.all; rw [h1, Nat.zero_mul] at this; omega
    refine ⟨hv, .inl ⟨[], ?_, h0⟩⟩
    have : M - p0 = 0 := by omega
    rw [this]; rfl
  · exact from_calls n l sB kB nb gR nR cR n0 L M p0 ek s J Jx W hJ hY h0 ⟨c1', c2', h2, h3, Nat.le_trans hn0 hW.size⟩ hnb hg hP hf hp0 hM h1 hnR2

set_option maxHeartbeats 1000000 in
set_option maxRecDepth 100000 in
theorem mkFrom_calls (nb : Nat) (s : ByteArray) (w : World) : Calls Yba.prog 25 #[.pointer (some ⟨nb, 59, none⟩), .string s] w fun ex w' =>
    ex = .returned (.func (.func 39) #[] #[.pointer (some ⟨w.heap.size, 0, none⟩), .pointer (some ⟨w.heap.size + 1, 0, none⟩)]) ∧ Below w.heap.size w w' ∧ w'.heap.size = w.heap.size + 2 ∧ w'.cell? ⟨w.heap.size, 0, none⟩ = some (.pointer (some ⟨nb, 59, none⟩)) ∧ w'.cell? ⟨w.heap.size + 1, 0, none⟩ = some (.string s) := by
  go_enter Yba.func25, Yba.ntmps25
  go_wp2
  go_returns
  refine ⟨rfl, ((Below.refl _ w).alloc (Nat.le_refl _) _).alloc (by simp) _, by simp, ?_, ?_⟩
  · simp
  · simp
end Go.Proofs.Ybulkeeeq
