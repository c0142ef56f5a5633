import Derived.Test.YbulkeeeqSim
namespace Go.Proofs.Ybulkeeeq
open Go.RowKit
set_option linter.unusedVariables false

theorem info59 : (Yba.prog.info? 59).map (fun i => (i.zero, i.size, i.bytes)) = some (some (.agg #[.bool false, .int .i64 0, .int .i64 0]), 3, 24) := by kernel_rfl

theorem Kept.logged {X : Cx} {Y : Hp} {w w2 : World} {v' : Value} (hfr : Fr X.st Y.logv.ownBlock w.heap.size w w2) (hv : ∀ g, v'.ownBlock = some g → g < w.heap.size → Y.logv.ownBlock = some g) : Kept X Y { Y with logv := v' } w w2 :=
  Kept.of_fr hfr (Or.inr (Or.inl rfl)) (fun g hg => Or.inr (Or.inr (Or.inr (Or.inr (Or.inr hg))))) (fun g hgl hf => by
    rcases hf with h1 | h1 | h1 | h1 | h1 | h1
    · exact Or.inl h1
    · exact Or.inr (Or.inl h1)
    · exact Or.inr (Or.inr (Or.inl h1))
    · exact Or.inr (Or.inr (Or.inr (Or.inl h1)))
    · exact Or.inr (Or.inr (Or.inr (Or.inr (Or.inl h1))))
    · exact Or.inr (Or.inr (Or.inr (Or.inr (Or.inr (hv g h1 hgl))))))

/-- The clock's own cells have turned. -/
theorem Sim.clocked {X : Cx} {w w2 : World} {Y : Hp} {idl : Value} {now : Int} {seq nid L : Nat} {lg : List Value} {bag : (Ev → Bool) → Nat} (S : Sim X w Y idl now seq nid L lg bag) {idl' : Value} {now' : Int} {seq' : Nat} (hs : seq ≤ seq')
    (hfr : Fr X.c none w.heap.size w w2) (hc : Blk w2 X.c 33 #[.int .i64 now', Y.v, .slice (some ⟨X.lb, 0, none⟩) X.nl X.cpl, .int .u64 seq', .pointer none, idl']) : Sim X w2 Y idl' now' seq' nid L lg bag ∧ Kept X Y Y w w2 := by
  have keep : ∀ {g : Nat} {T : TypeId} {cs : Array Value}, Blk w g T cs → T ≠ 33 → Blk w2 g T cs := fun hg t1 => hfr.blk hg (hg.ne S.hc t1) (by simp)
  have keepb : ∀ {g : Nat} {T : TypeId} {cs : Array Value}, Blk w g T cs → T ≠ 33 → w2.heap[g]? = w.heap[g]? := fun hg t1 => hfr.block _ hg.lt (hg.ne S.hc t1) (by simp)
  refine ⟨⟨Nat.le_trans S.hbs hfr.size, hc, keep S.hst (by decide), keep S.hlb (by decide), owns_of_block S.hlog (fun g hg => ?_), S.hr.of_block (fun g hg => ?_), S.hh, fun j hj => ?_, S.hsort, S.hbag, fun e he => ?_, fun e he => Nat.le_trans (S.hseq e he) hs, S.hwf, S.hd1, S.hd2⟩, Kept.of_fr hfr (Or.inl rfl) (fun k hk => by cases hk) (fun k _ h => h)⟩
  · obtain ⟨cs, hcs⟩ := owns_blk S.hlog hg
    exact keepb hcs (by decide)
  · obtain ⟨cs, hcs⟩ := S.hr.own_blk hg
    exact keepb hcs (by decide)
  · have hLj := S.hL j hj
    refine hLj.of_block ?_ (fun g hg => ?_)
    · obtain ⟨hd, n, h, h1, _⟩ := hLj; exact keepb h1 (by decide)
    · obtain ⟨cs, hcs⟩ := hLj.own_blk hg
      exact keepb hcs (by decide)
  · obtain ⟨o, h1, h2⟩ := S.hob e he
    exact ⟨o, h1, keep h2 (by decide)⟩

/-- The log has grown, or the count has. -/
theorem Sim.logged {X : Cx} {w w2 : World} {Y : Hp} {idl : Value} {now : Int} {seq nid L : Nat} {lg : List Value} {bag : (Ev → Bool) → Nat} (S : Sim X w Y idl now seq nid L lg bag) {v' : Value} {nid' L' : Nat} {lg' : List Value}
    (hfr : Fr X.st Y.logv.ownBlock w.heap.size w w2) (hst : Blk w2 X.st 37 #[.pointer (some ⟨X.c, 0, none⟩), v', .int .i64 nid']) (hlog : w2.ownsRow X.base 59 3 v' L' lg') : Sim X w2 { Y with logv := v' } idl now seq nid' L' lg' bag := by
  have hlogrow : ∀ g, Y.logv.ownBlock = some g → ∃ cs, Blk w g 59 cs := fun g hg => owns_blk S.hlog hg
  have keep : ∀ {g : Nat} {T : TypeId} {cs : Array Value}, Blk w g T cs → T ≠ 37 → T ≠ 59 → Blk w2 g T cs := fun hg t1 t2 => hfr.blk hg (hg.ne S.hst t1) (row_ne hg t2 hlogrow)
  have keepb : ∀ {g : Nat} {T : TypeId} {cs : Array Value}, Blk w g T cs → T ≠ 37 → T ≠ 59 → w2.heap[g]? = w.heap[g]? := fun hg t1 t2 => hfr.block _ hg.lt (hg.ne S.hst t1) (row_ne hg t2 hlogrow)
  refine ⟨Nat.le_trans S.hbs hfr.size, keep S.hc (by decide) (by decide), hst, keep S.hlb (by decide) (by decide), hlog, S.hr.of_block (fun g hg => ?_), S.hh, fun j hj => ?_, S.hsort, S.hbag, fun e he => ?_, S.hseq, S.hwf, S.hd1, S.hd2⟩
  · obtain ⟨cs, hcs⟩ := S.hr.own_blk hg
    exact keepb hcs (by decide) (by decide)
  · have hLj := S.hL j hj
    refine hLj.of_block ?_ (fun g hg => ?_)
    · obtain ⟨hd, n, h, h1, _⟩ := hLj; exact keepb h1 (by decide) (by decide)
    · obtain ⟨cs, hcs⟩ := hLj.own_blk hg
      exact keepb hcs (by decide) (by decide)
  · obtain ⟨o, h1, h2⟩ := S.hob e he
    exact ⟨o, h1, keep h2 (by decide) (by decide)⟩

theorem EvFrom.wf_congr {w : World} {base : Nat} {wf wf' : Nat → Value} {v : Value} {hd n : Nat} {h : Nat → Ev} (hr : EvFrom w base wf v hd n h) (hh : ∀ j, hd ≤ j → j < n → wf (h j).seq = wf' (h j).seq) : EvFrom w base wf' v hd n h := by
  rcases hr with hr | ⟨g, cap, cs, h0, h1, h2, h3, h4, h5, h6⟩
  · exact Or.inl hr
  · refine Or.inr ⟨g, cap, cs, h0, h1, h2, h3, h4, h5, fun j r h7 hj hr => ?_⟩
    rw [h6 j r h7 hj hr]
    unfold evC
    rw [hh j h7 hj]
theorem LaneAt.wf_congr {w : World} {base : Nat} {wf wf' : Nat → Value} {l : Nat} {dly : Int} {v : Value} {q : Nat → Ev} {m : Nat} (h : LaneAt w base wf l dly v q m) (hh : ∀ j, j < m → wf (q j).seq = wf' (q j).seq) : LaneAt w base wf' l dly v q m := by
  obtain ⟨hd, n, h, h1, h2, h3, h4, h5⟩ := h
  refine ⟨hd, n, h, h1, h2.wf_congr (fun j a1 a2 => ?_), h3, h4, h5⟩
  have := h5 (j - hd) (by omega)
  rw [show hd + (j - hd) = j by omega] at this
  rw [this]
  exact hh _ (by omega)

/-- An event is asked for. -/
theorem sim_sched {X : Cx} (hX : X.Ok) {w : World} {Y : Hp} {idl : Value} {now : Int} {seq nid L : Nat} {lg : List Value} {bag : (Ev → Bool) → Nat} (S : Sim X w Y idl now seq nid L lg bag) (hbb : bag (fun _ => true) ≤ 1000000) (hsq : seq ≤ 1000000)
    (e : Ev) (o : Nat) (he : e.seq = seq + 1) (ho : Blk w o 48 #[.pointer (some ⟨X.st, 0, none⟩), .int .i64 e.id, .bool e.child, .int .u8 e.d]) :
    Calls Yba.prog 6 #[.pointer (some ⟨X.c, 0, none⟩), .int .i64 e.t, .iface 46 (.pointer (some ⟨o, 0, none⟩))] w fun ex w' => ex = .returned (.tuple #[]) ∧
      ∃ v' h', Sim X w' { Y with v := v', h := h', n := Y.n + 1, wf := upN Y.wf (seq + 1) (.iface 46 (.pointer (some ⟨o, 0, none⟩))) } idl now (seq + 1) nid L lg (fun p => bag p + (if p e then 1 else 0)) ∧ Kept X Y { Y with v := v', h := h', n := Y.n + 1, wf := upN Y.wf (seq + 1) (.iface 46 (.pointer (some ⟨o, 0, none⟩))) } w w' ∧ Fr X.c Y.v.ownBlock w.heap.size w w' := by
  have hcg : ∀ e', InB bag e' → Y.wf e'.seq = upN Y.wf (seq + 1) (.iface 46 (.pointer (some ⟨o, 0, none⟩))) e'.seq := fun e' he' => by
    have := S.hseq e' he'
    rw [upN_ne _ _ (by omega)]
  have hwf' : ∀ s, ∃ o', upN Y.wf (seq + 1) (.iface 46 (.pointer (some ⟨o, 0, none⟩))) s = .iface 46 (.pointer (some ⟨o', 0, none⟩)) := fun s => by
    by_cases e1 : s = seq + 1
    · subst e1; exact ⟨o, upN_self _ _ _⟩
    · rw [upN_ne _ _ e1]; exact S.hwf s
  have hr1 : EvRow w X.base (upN Y.wf (seq + 1) (.iface 46 (.pointer (some ⟨o, 0, none⟩)))) Y.v Y.n Y.h := S.hr.wf_congr (fun j hj => hcg _ (S.inH hj))
  refine (sched_calls X.c X.base Y.n seq _ (upN Y.wf (seq + 1) (.iface 46 (.pointer (some ⟨o, 0, none⟩)))) Y.v Y.h e o w S.hc rfl rfl rfl hr1 hX.hc S.hbs (Nat.le_trans S.nle hbb) hsq he (upN_self _ _ _) hwf' S.hh).mono ?_
  rintro ex w' ⟨rfl, v', h', k1, k2, k3, k4, k5, k6⟩
  refine ⟨rfl, v', h', ?_, Kept.of_fr k5 (Or.inl rfl) (fun g hg => Or.inr (Or.inr (Or.inr (Or.inl hg)))) (fun g hgl hf => ?_), k5⟩
  rotate_left
  · rcases hf with h1 | h1 | h1 | h1 | h1 | h1
    · exact Or.inl h1
    · exact Or.inr (Or.inl h1)
    · exact Or.inr (Or.inr (Or.inl h1))
    · rcases k6 with h6 | ⟨g', h6, h7⟩
      · exact Or.inr (Or.inr (Or.inr (Or.inl (by rw [← h6]; exact h1))))
      · simp only [] at h1
        rw [h6] at h1; cases h1; omega
    · exact Or.inr (Or.inr (Or.inr (Or.inr (Or.inl h1))))
    · exact Or.inr (Or.inr (Or.inr (Or.inr (Or.inr h1))))
  have hvrow : ∀ g, Y.v.ownBlock = some g → ∃ cs, Blk w g 54 cs := fun g hg => S.hr.own_blk hg
  have keep : ∀ {g : Nat} {T : TypeId} {cs : Array Value}, Blk w g T cs → T ≠ 33 → T ≠ 54 → Blk w' g T cs := fun hg t1 t2 => k5.blk hg (hg.ne S.hc t1) (row_ne hg t2 hvrow)
  have keepb : ∀ {g : Nat} {T : TypeId} {cs : Array Value}, Blk w g T cs → T ≠ 33 → T ≠ 54 → w'.heap[g]? = w.heap[g]? := fun hg t1 t2 => k5.block _ hg.lt (hg.ne S.hc t1) (row_ne hg t2 hvrow)
  have hnew : ∀ j, j < X.nl → ∀ g, (Y.lv j).ownBlock = some g → v'.ownBlock ≠ some g := fun j hj g hg e1 => by
    rcases k6 with h6 | ⟨g', h6, h7⟩
    · rw [h6] at e1; exact S.hd1 j hj g hg e1
    · rw [h6] at e1; cases e1
      obtain ⟨cs, hcs⟩ := (S.hL j hj).own_blk hg
      have := hcs.lt; omega
  have hin : ∀ e', InB (fun p => bag p + (if p e then 1 else 0)) e' → InB bag e' ∨ e' = e := fun e' he' => by
    by_cases e1 : e' = e
    · exact Or.inr e1
    · refine Or.inl (fun p hp => ?_)
      have := he' (fun x => p x && isE e' x) (by simp [hp, isE_self])
      have h2 : (if (p e && isE e' e) = true then 1 else 0) = 0 := by
        rw [if_neg]; intro h3
        simp at h3
        exact e1 (isE_eq h3.2).symm
      simp only [h2, Nat.add_zero] at this
      have hle : ∀ (a b : Ev → Bool), (∀ x, a x = true → b x = true) → ∀ (f : Nat → Ev) (n : Nat), cnt a f n ≤ cnt b f n := fun a b hab f n => by
        induction n with
        | zero => exact Nat.le_refl _
        | succ n ih =>
          simp only [cnt]
          by_cases e2 : a (f n) = true
          · rw [if_pos e2, if_pos (hab _ e2)]; omega
          · rw [if_neg e2]; split <;> omega
      have hle2 : ∀ (a b : Ev → Bool), (∀ x, a x = true → b x = true) → ∀ n, lcnt a Y.q Y.m n ≤ lcnt b Y.q Y.m n := fun a b hab n => by
        induction n with
        | zero => exact Nat.le_refl _
        | succ n ih => simp only [lcnt]; have := hle a b hab (Y.q n) (Y.m n); omega
      rw [← S.hbag] at this ⊢
      have h3 := hle (fun x => p x && isE e' x) p (fun x hx => by simp at hx; exact hx.1) Y.h Y.n
      have h4 := hle2 (fun x => p x && isE e' x) p (fun x hx => by simp at hx; exact hx.1) X.nl
      omega
  refine ⟨Nat.le_trans S.hbs k5.size, k1, keep S.hst (by decide) (by decide), keep S.hlb (by decide) (by decide), owns_of_block S.hlog (fun g hg => ?_), k2, k3, fun j hj => ?_, S.hsort, fun p => ?_, fun e' he' => ?_, fun e' he' => ?_, hwf', hnew, S.hd2⟩
  · obtain ⟨cs, hcs⟩ := owns_blk S.hlog hg
    exact keepb hcs (by decide) (by decide)
  · have hLj := S.hL j hj
    refine (hLj.wf_congr (fun r hr => hcg _ (S.inL hj hr))).of_block ?_ (fun g hg => ?_)
    · obtain ⟨hd, n, h, h1, _⟩ := hLj; exact keepb h1 (by decide) (by decide)
    · obtain ⟨cs, hcs⟩ := hLj.own_blk hg
      exact k5.block g hcs.lt (hcs.ne S.hc (by decide)) (fun e1 => S.hd1 j hj g hg e1.symm)
  · have := k4 p
    have h2 := S.hbag p
    show cnt p h' (Y.n + 1) + lcnt p Y.q Y.m X.nl = _
    omega
  · rcases hin e' he' with h1 | rfl
    · obtain ⟨o', q1, q2⟩ := S.hob e' h1
      exact ⟨o', by show upN _ _ _ _ = _; rw [← hcg e' h1]; exact q1, keep q2 (by decide) (by decide)⟩
    · exact ⟨o, by show upN _ _ _ _ = _; rw [he, upN_self], keep ho (by decide) (by decide)⟩
  · rcases hin e' he' with h1 | rfl
    · have := S.hseq e' h1; omega
    · omega
end Go.Proofs.Ybulkeeeq
