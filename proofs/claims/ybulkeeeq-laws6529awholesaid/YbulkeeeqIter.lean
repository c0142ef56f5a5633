import Derived.Test.YbulkeeeqHap
namespace Go.Proofs.Ybulkeeeq
open Go.RowKit
set_option linter.unusedVariables false

def bagOf (s : St) : (Ev → Bool) → Nat := fun p => cnt p s.f s.n
/-- What is logged of the first i. -/
def logs (s0 : St) : Nat → List Value
  | 0 => []
  | i + 1 => logs s0 i ++ [.bool false, .int .i64 (outE (it s0 i)).id, .int .i64 (outE (it s0 i)).t]
/-- What the stops log. -/
def stops : Nat → List Value
  | 0 => []
  | i + 1 => stops i ++ [.bool true, .int .i64 i, .int .i64 0]
theorem cnt_le {p : Ev → Bool} {h : Nat → Ev} : ∀ {n : Nat}, cnt p h n ≤ n
  | 0 => Nat.le_refl _
  | n + 1 => by simp only [cnt]; have := cnt_le (p := p) (h := h) (n := n); split <;> omega
theorem logs_len (s0 : St) : ∀ i, (logs s0 i).length = i * 3
  | 0 => rfl
  | i + 1 => by simp only [logs, List.length_append, logs_len s0 i]; simp; omega
theorem stops_len : ∀ i, (stops i).length = i * 3
  | 0 => rfl
  | i + 1 => by simp only [stops, List.length_append, stops_len i]; simp; omega

/-- What holds behind i steps. -/
structure Goes (s0 : St) (i : Nat) : Prop where
  uniq : Uniq (it s0 i)
  left : leftN (it s0 i) + i = leftN s0
  kids : (it s0 i).seq + cnt (fun e => e.child) (it s0 i).f (it s0 i).n = s0.seq + cnt (fun e => e.child) s0.f s0.n
  nid : (it s0 i).nid + s0.seq = (it s0 i).seq + s0.nid
  nn : (it s0 i).n ≤ s0.n
  dd : ∀ j, j < (it s0 i).n → ((it s0 i).f j).d ≤ 255
theorem Goes.start {s0 : St} (hu : Uniq s0) (hd : ∀ j, j < s0.n → (s0.f j).d ≤ 255) : Goes s0 0 := ⟨hu, rfl, rfl, Nat.add_comm _ _, Nat.le_refl _, hd⟩
theorem Goes.step {s0 : St} {i : Nat} (g : Goes s0 i) (hn : 0 < (it s0 i).n) : Goes s0 (i + 1) := by
  have hl := least_lt hn
  refine ⟨g.uniq.step hn, ?_, ?_, ?_, ?_, ?_⟩
  · have := left_step hn; have := g.left; show leftN (stepS (it s0 i)) + (i + 1) = _; omega
  · have := seq_step hn; have := g.kids; show (stepS (it s0 i)).seq + cnt _ (stepS (it s0 i)).f (stepS (it s0 i)).n = _; omega
  · have := g.nid
    show (stepS (it s0 i)).nid + s0.seq = (stepS (it s0 i)).seq + s0.nid
    unfold stepS; split <;> simp only [] <;> omega
  · have := n_step hn; have := g.nn; show (stepS (it s0 i)).n ≤ _; omega
  · intro j hj
    have h1 : ∀ r, r < (it s0 i).n - 1 → (del (it s0 i).f (least (it s0 i)) r).d ≤ 255 := fun r hr => by
      rw [del_at]; exact g.dd _ (by split <;> omega)
    change j < (stepS (it s0 i)).n at hj
    show ((stepS (it s0 i)).f j).d ≤ 255
    unfold stepS at hj ⊢
    split at hj
    · rename_i hc
      rw [if_pos hc]
      simp only [] at hj ⊢
      by_cases e : j = (it s0 i).n - 1
      · rw [e, upd_self]; simp [childE]
      · rw [upd_ne _ _ e]; exact h1 j (by omega)
    · rename_i hc
      rw [if_neg hc]
      exact h1 j hj
theorem inB_iff {s : St} {e : Ev} : InB (bagOf s) e ↔ ∃ i, i < s.n ∧ s.f i = e := by
  constructor
  · intro h
    obtain ⟨i, hi, hp⟩ := cnt_pos (h (isE e) (isE_self e))
    exact ⟨i, hi, isE_eq hp⟩
  · rintro ⟨i, hi, rfl⟩ p hp
    exact cnt_one hi hp
/-- The event that is taken is the model's. -/
theorem took {s : St} (hu : Uniq s) {e : Ev} (h1 : InB (bagOf s) e) (h2 : ∀ e', InB (bagOf s) e' → bef e' e = false) : 0 < s.n ∧ e = outE s := by
  obtain ⟨i, hi, he⟩ := inB_iff.1 h1
  refine ⟨by omega, pick hu (by omega) e (fun p hp => h1 p hp) (fun j hj => h2 _ (inB_iff.2 ⟨j, hj, rfl⟩))⟩
theorem bag_next {s : St} (hn : 0 < s.n) {bag' : (Ev → Bool) → Nat} (h : ∀ p, bag' p + (if p (outE s) then 1 else 0) = bagOf s p) :
    if (outE s).child then (fun p => bag' p + (if p (childE s) then 1 else 0)) = bagOf (stepS s) else bag' = bagOf (stepS s) := by
  cases hc : (outE s).child with
  | true =>
    simp only [if_true]
    funext p
    have h1 := bag_step hn p
    have h2 := h p
    simp only [hc, if_true] at h1
    unfold bagOf at h2 ⊢
    omega
  | false =>
    simp
    funext p
    have h1 := bag_step hn p
    have h2 := h p
    simp only [hc] at h1
    unfold bagOf at h2 ⊢
    simp at h1
    omega
theorem left_zero {s : St} (h : s.n = 0) : leftN s = 0 := by unfold leftN; rw [h]; rfl
theorem step_of {s : St} : (stepS s).now = (outE s).t ∧ (stepS s).seq = (if (outE s).child then s.seq + 1 else s.seq) ∧ (stepS s).nid = (if (outE s).child then s.nid + 1 else s.nid) := by
  unfold stepS; cases (outE s).child <;> simp
/-- Where only other things turn. -/
theorem Sim.notFoot {X : Cx} {w : World} {Y : Hp} {idl : Value} {now : Int} {seq nid L : Nat} {lg : List Value} {bag : (Ev → Bool) → Nat} (S : Sim X w Y idl now seq nid L lg bag) {g : Nat} {T : TypeId} {cs : Array Value} (hg : Blk w g T cs) (h1 : T ≠ 33) (h2 : T ≠ 37) (h3 : T ≠ 42) (h4 : T ≠ 54) (h5 : T ≠ 59) : ¬ Foot X Y g := by
  rintro (h | h | ⟨j, hj, h⟩ | h | ⟨j, hj, h⟩ | h)
  · exact hg.ne S.hc h1 h
  · exact hg.ne S.hst h2 h
  · obtain ⟨hd, n, h', k1, _⟩ := S.hL j hj
    exact hg.ne k1 h3 h
  · obtain ⟨cs', k⟩ := S.hr.own_blk h; exact h4 (hg.ty k)
  · obtain ⟨cs', k⟩ := (S.hL j hj).own_blk h; exact h4 (hg.ty k)
  · obtain ⟨cs', k⟩ := owns_blk S.hlog h; exact h5 (hg.ty k)
theorem Kept.blk {X : Cx} {Y Y' : Hp} {w w' : World} (k : Kept X Y Y' w w') {g : Nat} {T : TypeId} {cs : Array Value} (hg : Blk w g T cs) (hn : ¬ Foot X Y g) : Blk w' g T cs := hg.of_block (k.block g hg.lt hn)
/-- How long the log is, read off the world. -/
def logN (st : Nat) (w : World) : Nat := match w.cell? ⟨st, 1, none⟩ with | some (.slice _ n _) => n | _ => 0
theorem Sim.logN {X : Cx} {w : World} {Y : Hp} {idl : Value} {now : Int} {seq nid L : Nat} {lg : List Value} {bag : (Ev → Bool) → Nat} (S : Sim X w Y idl now seq nid L lg bag) : Ybulkeeeq.logN X.st w = L := by
  unfold Ybulkeeeq.logN
  rw [S.hst.cell]
  rcases S.hlog.2 with ⟨h, h0⟩ | ⟨g, cap, cur, h, _⟩
  · simp [h, h0]
  · simp [h]
end Go.Proofs.Ybulkeeeq
