import Derived.Test.YbulkeeeqItems
namespace Go.Proofs.Ybulkeeeq
open Go.RowKit
set_option linter.unusedVariables false

/-- What stands when i items have been asked for. -/
structure Inv2 (M : Mdl) (X : Cx) (lastB usedB : Nat) (w : World) (i : Nat) (Y : Hp) : Prop where
  S : Sim X w Y (.slice none 0 0) M.start i M.N 0 [] (fun p => cnt p M.ev i)
  hnew : NewL X w Y
  hlast : ∀ j, j < X.nl → (M.la i j = none ∧ Y.m j = 0) ∨ (∃ x, M.la i j = some x ∧ 0 < Y.m j ∧ (Y.q j (Y.m j - 1)).t = x)
  hlb : ∃ cs, Blk w lastB 25 cs ∧ cs.size = X.nl ∧ ∀ j, j < X.nl → ∀ x, M.la i j = some x → cs[j]? = some (.int .i64 x)
  hub : ∃ cs, Blk w usedB 4 cs ∧ cs.size = X.nl ∧ ∀ j, j < X.nl → cs[j]? = some (.bool (M.la i j).isSome)
  hlog : Y.logv = .slice none 0 0

theorem Inv2.below {M : Mdl} {X : Cx} {lastB usedB : Nat} {w w' : World} {i : Nat} {Y : Hp} (h : Inv2 M X lastB usedB w i Y) (hb : Below w.heap.size w w') : Inv2 M X lastB usedB w' i Y := by
  refine ⟨h.S.below hb, h.hnew.below hb, h.hlast, ?_, ?_, h.hlog⟩
  · obtain ⟨cs, h1, h2⟩ := h.hlb; exact ⟨cs, h1.below hb h1.lt, h2⟩
  · obtain ⟨cs, h1, h2⟩ := h.hub; exact ⟨cs, h1.below hb h1.lt, h2⟩

theorem inE {M : Mdl} {i : Nat} {e : Ev} (h : InB (fun p => cnt p M.ev i) e) : ∃ r, r < i ∧ M.ev r = e := by
  obtain ⟨r, hr, hp⟩ := cnt_pos (h (isE e) (isE_self e))
  exact ⟨r, hr, isE_eq hp⟩

/-- An item for the heap. -/
theorem it_heap {M : Mdl} {X : Cx} (hX : X.Ok) (hnl : X.nl = M.nl) {lastB usedB : Nat} {w : World} {i : Nat} {Y : Hp} (h : Inv2 M X lastB usedB w i Y) (hi : i ≤ 1024) (hsel : M.sel i = 0) (o : Nat) (at' : Int) (hat : at' = M.tm i)
    (ho : Blk w o 48 #[.pointer (some ⟨X.st, 0, none⟩), .int .i64 i, .bool (M.child i), .int .u8 (M.d i)]) :
    Calls Yba.prog 6 #[.pointer (some ⟨X.c, 0, none⟩), .int .i64 at', .iface 46 (.pointer (some ⟨o, 0, none⟩))] w fun ex w' => ex = .returned (.tuple #[]) ∧ Hid (∃ Y', Inv2 M X lastB usedB w' (i + 1) Y' ∧ Kept X Y Y' w w') ∧ Hid (at' = (M.ev i).t) := by
  have het : (M.ev i).t = M.tm i := by simp [Mdl.ev, Mdl.atV, hsel]
  have hbb : (fun p => cnt p M.ev i) (fun _ => true) ≤ 1000000 := by simp only [cnt_all]; omega
  have hs := sim_sched hX h.S hbb (by omega) (M.ev i) o rfl ho
  rw [het] at hs
  subst hat
  refine hs.mono ?_
  rintro ex w' ⟨rfl, v', h', k1, k2, k3⟩
  have hlaeq : ∀ j, M.la (i + 1) j = M.la i j := fun j => by simp only [Mdl.la]; rw [if_neg (by omega)]
  refine ⟨rfl, ⟨_, ⟨k1, h.hnew.sched h.S k3, fun j hj => ?_, ?_, ?_, h.hlog⟩, k2⟩, het.symm⟩
  · rw [hlaeq]; exact h.hlast j hj
  · obtain ⟨cs, h1, h2, h3⟩ := h.hlb
    exact ⟨cs, k2.blk h1 (h.S.notFoot h1 (by decide) (by decide) (by decide) (by decide) (by decide)), h2, fun j hj x hx => h3 j hj x (by rw [← hlaeq]; exact hx)⟩
  · obtain ⟨cs, h1, h2, h3⟩ := h.hub
    exact ⟨cs, k2.blk h1 (h.S.notFoot h1 (by decide) (by decide) (by decide) (by decide) (by decide)), h2, fun j hj => by rw [hlaeq]; exact h3 j hj⟩

/-- An item for a lane, once the three stores have been done. -/
theorem it_lane {M : Mdl} {X : Cx} (hX : X.Ok) (hnl : X.nl = M.nl) (hdl : ∀ i, M.delta i ≤ 255) {lastB usedB : Nat} {w w5 : World} {i : Nat} {Y : Hp} (h : Inv2 M X lastB usedB w i Y) (hi : i ≤ 1024) (j : Nat) (hsel : M.sel i = j + 1) (o : Nat) (at' : Int) (hat : at' = M.atV i (M.la i))
    (ho : Blk w o 48 #[.pointer (some ⟨X.st, 0, none⟩), .int .i64 i, .bool (M.child i), .int .u8 (M.d i)])
    (hb5 : Below w.heap.size (((w.setCell ⟨usedB, j, none⟩ (.bool true)).setCell ⟨lastB, j, none⟩ (.int .i64 at')).setCell ⟨X.c, 3, none⟩ (.int .u64 (i + 1 : Nat))) w5) :
    Calls Yba.prog 7 #[.pointer (some ⟨X.l j, 0, none⟩), .agg #[.int .i64 at', .int .u64 (i + 1 : Nat), .iface 46 (.pointer (some ⟨o, 0, none⟩))]] w5 fun ex w' => ex = .returned (.tuple #[]) ∧ Hid (∃ Y', Inv2 M X lastB usedB w' (i + 1) Y' ∧ Kept X Y Y' w5 w') ∧ Hid (at' = (M.ev i).t) := by
  have hj : j < X.nl := by have := Nat.mod_lt (M.lane i) (show 0 < M.nl + 1 by omega); unfold Mdl.sel at hsel; omega
  obtain ⟨lcs, hl1, hl2, hl3⟩ := h.hlb
  obtain ⟨ucs, hu1, hu2, hu3⟩ := h.hub
  -- the three stores
  have o1 : Only usedB w (w.setCell ⟨usedB, j, none⟩ (.bool true)) := (Only.refl _ w).setCell j _
  have notB : ∀ {w : World} {g : Nat} {T T' : TypeId} {cs : Array Value}, Blk w g T cs → T ≠ T' → ∀ cs', ¬ Blk w g T' cs' := fun hb hT cs' hb' => hT (hb.ty hb')
  have S1 := h.S.only o1 (hu1.ne h.S.hc (by decide)) (hu1.ne h.S.hst (by decide)) (hu1.ne h.S.hlb (by decide)) (notB hu1 (by decide)) (notB hu1 (by decide)) (notB hu1 (by decide)) (by rw [h.hlog]; simp [Value.ownBlock])
  have N1 := h.hnew.only o1 (notB hu1 (by decide)) (notB hu1 (by decide))
  have hl1' := o1.blk hl1 (hl1.ne hu1 (by decide))
  have hu1' := hu1.set j (.bool true)
  have ho1 := o1.blk ho (ho.ne hu1 (by decide))
  have z1 := o1.size
  generalize w.setCell ⟨usedB, j, none⟩ (.bool true) = wa at S1 N1 hl1' hu1' ho1 hb5 z1
  have o2 : Only lastB wa (wa.setCell ⟨lastB, j, none⟩ (.int .i64 at')) := (Only.refl _ wa).setCell j _
  have S2 := S1.only o2 (hl1'.ne S1.hc (by decide)) (hl1'.ne S1.hst (by decide)) (hl1'.ne S1.hlb (by decide)) (notB hl1' (by decide)) (notB hl1' (by decide)) (notB hl1' (by decide)) (by rw [h.hlog]; simp [Value.ownBlock])
  have N2 := N1.only o2 (notB hl1' (by decide)) (notB hl1' (by decide))
  have hl2' := hl1'.set j (.int .i64 at')
  have hu2' := o2.blk hu1' (hu1'.ne hl1' (by decide))
  have ho2 := o2.blk ho1 (ho1.ne hl1' (by decide))
  have z2 := o2.size
  generalize wa.setCell ⟨lastB, j, none⟩ (.int .i64 at') = wb at S2 N2 hl2' hu2' ho2 hb5 z2
  have o3 : Only X.c wb (wb.setCell ⟨X.c, 3, none⟩ (.int .u64 (i + 1 : Nat))) := (Only.refl _ wb).setCell 3 _
  obtain ⟨S3, K3⟩ := S2.clocked (now' := M.start) (idl' := .slice none 0 0) (seq' := i + 1) (by omega) ((Fr.of_below (Below.refl _ wb)).setCell X.c 3 _ (Or.inl rfl)) (S2.hc.set 3 _)
  have N3 := N2.only o3 (notB S2.hc (by decide)) (notB S2.hc (by decide))
  have hl3' := o3.blk hl2' (hl2'.ne S2.hc (by decide))
  have hu3' := o3.blk hu2' (hu2'.ne S2.hc (by decide))
  have ho3 := o3.blk ho2 (ho2.ne S2.hc (by decide))
  have z3 := o3.size
  have hb6 : Below (wb.setCell ⟨X.c, 3, none⟩ (.int .u64 (i + 1 : Nat))).heap.size (wb.setCell ⟨X.c, 3, none⟩ (.int .u64 (i + 1 : Nat))) w5 := by
    rw [z3, z2, z1]; exact hb5
  have S5 := S3.below hb6
  have N5 := N3.below hb6
  have hl5 := hl3'.below hb6 hl3'.lt
  have hu5 := hu3'.below hb6 hu3'.lt
  have ho5 := ho3.below hb6 ho3.lt
  have het : (M.ev i).t = at' := hat.symm
  have hlst : 0 < Y.m j → (Y.q j (Y.m j - 1)).t ≤ (M.ev i).t := fun hm => by
    rcases h.hlast j hj with ⟨_, h0⟩ | ⟨x, q1, q2, q3⟩
    · omega
    · rw [q3, het, hat]
      unfold Mdl.atV
      rw [if_neg (by omega), hsel, Nat.add_sub_cancel, q1]
      simp only []
      omega
  have hold : ∀ e, InB (fun p => cnt p M.ev i) e → e.seq ≤ i := fun e he => by
    obtain ⟨r, hr, rfl⟩ := inE he
    simp [Mdl.ev]; omega
  have hp := sim_lpush hX S5 hold N5 (by simp only [cnt_all]; omega) (M.ev i) o j hj rfl ho5 hlst
  rw [het] at hp
  refine hp.mono ?_
  rintro ex w' ⟨rfl, v', k1, k2, k3⟩
  have hlaj : M.la (i + 1) j = some at' := by simp only [Mdl.la]; rw [if_pos hsel, hat]
  have hlan : ∀ r, r ≠ j → M.la (i + 1) r = M.la i r := fun r hr => by simp only [Mdl.la]; rw [if_neg (by omega)]
  refine ⟨rfl, ⟨_, ⟨k1, k2, fun r hr => ?_, ?_, ?_, h.hlog⟩, k3⟩, hat⟩
  · by_cases e : r = j
    · subst e
      simp only [upN_self]
      refine Or.inr ⟨at', hlaj, by omega, ?_⟩
      rw [Nat.add_sub_cancel, upd_self]; exact het
    · simp only [upN_ne _ _ e]
      rw [hlan r e]; exact h.hlast r hr
  · refine ⟨_, k3.blk hl5 (S5.notFoot hl5 (by decide) (by decide) (by decide) (by decide) (by decide)), by simpa using hl2, fun r hr x hx => ?_⟩
    by_cases e : r = j
    · subst e
      rw [hlaj] at hx; cases hx
      rw [Array.getElem?_setIfInBounds_self_of_lt (by omega)]
    · rw [Array.getElem?_setIfInBounds_ne (Ne.symm e)]
      rw [hlan r e] at hx
      exact hl3 r hr x hx
  · refine ⟨_, k3.blk hu5 (S5.notFoot hu5 (by decide) (by decide) (by decide) (by decide) (by decide)), by simpa using hu2, fun r hr => ?_⟩
    by_cases e : r = j
    · subst e
      rw [hlaj, Array.getElem?_setIfInBounds_self_of_lt (by omega)]; rfl
    · rw [Array.getElem?_setIfInBounds_ne (Ne.symm e), hlan r e]
      exact hu3 r hr
end Go.Proofs.Ybulkeeeq
