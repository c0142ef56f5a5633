import Derived.Test.YbulkeeeqRoom
namespace Go.Proofs.Ybulkeeeq
open Go.RowKit
set_option linter.unusedVariables false

/-- What came in. -/
structure Mdl where
  N : Nat
  nl : Nat
  start : Int
  lane : Nat → Nat
  tm : Nat → Int
  delta : Nat → Nat
  child : Nat → Bool
  d : Nat → Nat
def Mdl.sel (M : Mdl) (i : Nat) : Nat := M.lane i % (M.nl + 1)
def Mdl.atV (M : Mdl) (i : Nat) (la : Nat → Option Int) : Int := if M.sel i = 0 then M.tm i else match la (M.sel i - 1) with | some x => x + M.delta i | none => IntKind.i32.wrap (M.tm i)
/-- The last moment of each lane. -/
def Mdl.la (M : Mdl) : Nat → Nat → Option Int
  | 0 => fun _ => none
  | i + 1 => fun j => if M.sel i = j + 1 then some (M.atV i (M.la i)) else M.la i j
def Mdl.ev (M : Mdl) (i : Nat) : Ev := ⟨M.atV i (M.la i), i + 1, i, M.child i, M.d i⟩
def Mdl.s0 (M : Mdl) : St := ⟨M.ev, M.N, M.start, M.N, M.N⟩

theorem wrap32 (x : Int) : -2147483648 ≤ IntKind.i32.wrap x ∧ IntKind.i32.wrap x ≤ 2147483647 := by
  unfold IntKind.wrap
  have e1 : (2 ^ IntKind.i32.bits : Int) = 4294967296 := by decide
  have e2 : (2 ^ (IntKind.i32.bits - 1) : Int) = 2147483648 := by decide
  have e3 : IntKind.i32.signed = true := rfl
  simp only [e1, e2, e3]
  by_cases h : x % 4294967296 ≥ 2147483648
  · rw [if_pos (by simpa using h)]; omega
  · rw [if_neg (by simpa using h)]; omega
theorem Mdl.la_bound (M : Mdl) (hd : ∀ i, M.delta i ≤ 255) : ∀ i j x, M.la i j = some x → -2147483648 ≤ x ∧ x ≤ 2147483647 + 255 * (i : Int)
  | 0, j, x, h => by simp [Mdl.la] at h
  | i + 1, j, x, h => by
    simp only [Mdl.la] at h
    split at h
    · rename_i hs
      cases h
      unfold Mdl.atV
      rw [if_neg (by omega)]
      cases hl : M.la i (M.sel i - 1) with
      | none => simp only []; have := wrap32 (M.tm i); omega
      | some y => simp only []; have := M.la_bound hd i _ y hl; have := hd i; omega
    · have := M.la_bound hd i j x h; omega
theorem Mdl.uniq (M : Mdl) : Uniq M.s0 := by
  refine ⟨fun i j hi hj h => ?_, fun i hi => ?_⟩
  · simp [Mdl.s0, Mdl.ev] at h; exact h
  · simp [Mdl.s0, Mdl.ev] at hi ⊢; omega

/-- The lanes while nothing has been taken. -/
def NewL (X : Cx) (w : World) (Y : Hp) : Prop := ∀ j, j < X.nl → Blk w (X.l j) 42 #[.int .i64 (X.dly j), Y.lv j, .int .i64 0] ∧ EvRow w X.base Y.wf (Y.lv j) (Y.m j) (Y.q j) ∧ (Y.m j = 0 → Y.lv j = .slice none 0 0)

theorem NewL.below {X : Cx} {w w' : World} {Y : Hp} (h : NewL X w Y) (hb : Below w.heap.size w w') : NewL X w' Y := fun j hj => by
  obtain ⟨h1, h2, h3⟩ := h j hj
  exact ⟨h1.below hb h1.lt, h2.below hb (Nat.le_refl _), h3⟩

/-- Only one block has turned, which is of another kind. -/
theorem Sim.only {X : Cx} {w w' : World} {Y : Hp} {idl : Value} {now : Int} {seq nid L : Nat} {lg : List Value} {bag : (Ev → Bool) → Nat} (S : Sim X w Y idl now seq nid L lg bag) {g : Nat} (ho : Only g w w')
    (h1 : g ≠ X.c) (h2 : g ≠ X.st) (h3 : g ≠ X.lb) (h4 : ∀ cs, ¬ Blk w g 42 cs) (h5 : ∀ cs, ¬ Blk w g 54 cs) (h6 : ∀ cs, ¬ Blk w g 48 cs) (h7 : some g ≠ Y.logv.ownBlock) : Sim X w' Y idl now seq nid L lg bag := by
  have hs := ho.size
  refine ⟨by rw [hs]; exact S.hbs, ho.blk S.hc (Ne.symm h1), ho.blk S.hst (Ne.symm h2), ho.blk S.hlb (Ne.symm h3), owns_of_block S.hlog (fun k hk => ho.block k (fun e => h7 (by rw [← e]; exact hk.symm))), S.hr.of_block (fun k hk => ho.block k (fun e => ?_)), S.hh, fun j hj => ?_, S.hsort, S.hbag, fun e he => ?_, S.hseq, S.hwf, S.hd1, S.hd2⟩
  · obtain ⟨cs, hcs⟩ := S.hr.own_blk hk; subst e; exact h5 _ hcs
  · have hL := S.hL j hj
    refine hL.of_block (ho.block _ (fun e => ?_)) (fun k hk => ho.block k (fun e => ?_))
    · obtain ⟨hd, n, h, k1, _⟩ := hL; rw [e] at k1; exact h4 _ k1
    · obtain ⟨cs, hcs⟩ := hL.own_blk hk; subst e; exact h5 _ hcs
  · obtain ⟨o, q1, q2⟩ := S.hob e he
    exact ⟨o, q1, ho.blk q2 (fun e1 => by subst e1; exact h6 _ q2)⟩
theorem NewL.only {X : Cx} {w w' : World} {Y : Hp} (h : NewL X w Y) {g : Nat} (ho : Only g w w') (h4 : ∀ cs, ¬ Blk w g 42 cs) (h5 : ∀ cs, ¬ Blk w g 54 cs) : NewL X w' Y := fun j hj => by
  obtain ⟨k1, k2, k3⟩ := h j hj
  exact ⟨ho.blk k1 (fun e => by rw [e] at k1; exact h4 _ k1), k2.of_block (fun k hk => ho.block k (fun e => by obtain ⟨cs, hcs⟩ := k2.own_blk hk; subst e; exact h5 _ hcs)), k3⟩

/-- The lanes stay as they are where the heap grows. -/
theorem NewL.sched {X : Cx} {w w' : World} {Y : Hp} {idl : Value} {now : Int} {seq nid L : Nat} {lg : List Value} {bag : (Ev → Bool) → Nat} (S : Sim X w Y idl now seq nid L lg bag) (h : NewL X w Y) {v' : Value} {h' : Nat → Ev} {n' : Nat} {x : Value}
    (hfr : Fr X.c Y.v.ownBlock w.heap.size w w') : NewL X w' { Y with v := v', h := h', n := n', wf := upN Y.wf (seq + 1) x } := fun j hj => by
  obtain ⟨k1, k2, k3⟩ := h j hj
  have hvrow : ∀ g, Y.v.ownBlock = some g → ∃ cs, Blk w g 54 cs := fun g hg => S.hr.own_blk hg
  refine ⟨hfr.blk k1 (k1.ne S.hc (by decide)) (row_ne k1 (by decide) hvrow), (k2.wf_congr (fun r hr => ?_)).of_block (fun g hg => ?_), k3⟩
  · have := S.hseq _ (S.inL hj hr)
    show _ = upN Y.wf (seq + 1) x _
    rw [upN_ne _ _ (by omega)]
  · obtain ⟨cs, hcs⟩ := k2.own_blk hg
    exact hfr.block g hcs.lt (hcs.ne S.hc (by decide)) (fun e => S.hd1 j hj g hg e.symm)

/-- An event is laid in a lane; the clock has counted it already. -/
theorem sim_lpush {X : Cx} (hX : X.Ok) {w : World} {Y : Hp} {idl : Value} {now : Int} {seq nid L : Nat} {lg : List Value} {bag : (Ev → Bool) → Nat} (S : Sim X w Y idl now (seq + 1) nid L lg bag) (hold : ∀ e, InB bag e → e.seq ≤ seq) (hN : NewL X w Y) (hbb : bag (fun _ => true) < 1000000)
    (e : Ev) (o j : Nat) (hj : j < X.nl) (he : e.seq = seq + 1) (ho : Blk w o 48 #[.pointer (some ⟨X.st, 0, none⟩), .int .i64 e.id, .bool e.child, .int .u8 e.d]) (hlast : 0 < Y.m j → (Y.q j (Y.m j - 1)).t ≤ e.t) :
    Calls Yba.prog 7 #[.pointer (some ⟨X.l j, 0, none⟩), .agg #[.int .i64 e.t, .int .u64 (seq + 1 : Nat), .iface 46 (.pointer (some ⟨o, 0, none⟩))]] w fun ex w' => ex = .returned (.tuple #[]) ∧
      ∃ v', Sim X w' { Y with lv := upN Y.lv j v', q := upN Y.q j (upd (Y.q j) (Y.m j) e), m := upN Y.m j (Y.m j + 1), wf := upN Y.wf (seq + 1) (.iface 46 (.pointer (some ⟨o, 0, none⟩))) } idl now (seq + 1) nid L lg (fun p => bag p + (if p e then 1 else 0)) ∧
        NewL X w' { Y with lv := upN Y.lv j v', q := upN Y.q j (upd (Y.q j) (Y.m j) e), m := upN Y.m j (Y.m j + 1), wf := upN Y.wf (seq + 1) (.iface 46 (.pointer (some ⟨o, 0, none⟩))) } ∧
        Kept X Y { Y with lv := upN Y.lv j v', q := upN Y.q j (upd (Y.q j) (Y.m j) e), m := upN Y.m j (Y.m j + 1), wf := upN Y.wf (seq + 1) (.iface 46 (.pointer (some ⟨o, 0, none⟩))) } w w' := by
  have hcg : ∀ e', InB bag e' → Y.wf e'.seq = upN Y.wf (seq + 1) (.iface 46 (.pointer (some ⟨o, 0, none⟩))) e'.seq := fun e' he' => by
    have := hold e' he'
    rw [upN_ne _ _ (by omega)]
  have hwf' : ∀ s, ∃ o', upN Y.wf (seq + 1) (.iface 46 (.pointer (some ⟨o, 0, none⟩))) s = .iface 46 (.pointer (some ⟨o', 0, none⟩)) := fun s => by
    by_cases e1 : s = seq + 1
    · subst e1; exact ⟨o, upN_self _ _ _⟩
    · rw [upN_ne _ _ e1]; exact S.hwf s
  obtain ⟨k1, k2, k3⟩ := hN j hj
  have hmb : Y.m j < 1000000 := by
    have h1 := S.hbag (fun _ => true)
    have h2 : Y.m j ≤ lcnt (fun _ => true) Y.q Y.m X.nl := by
      have : ∀ i, j < i → Y.m j ≤ lcnt (fun _ => true) Y.q Y.m i := fun i => by
        induction i with
        | zero => intro h; omega
        | succ i ih =>
          intro h
          simp only [lcnt, cnt_all]
          by_cases e1 : j = i
          · subst e1; omega
          · have := ih (by omega); omega
      exact this _ hj
    omega
  have k2' : EvRow w X.base (upN Y.wf (seq + 1) (.iface 46 (.pointer (some ⟨o, 0, none⟩)))) (Y.lv j) (Y.m j) (Y.q j) := k2.wf_congr (fun r hr => hcg _ (S.inL hj hr))
  have hp := lpush_calls (X.l j) X.base (Y.m j) (X.dly j) (upN Y.wf (seq + 1) (.iface 46 (.pointer (some ⟨o, 0, none⟩)))) (Y.lv j) (Y.q j) e w k1 k2' (hX.hl j hj) S.hbs (Nat.le_of_lt hmb) k3 hwf'
  rw [he, upN_self] at hp
  refine hp.mono ?_
  rintro ex w' ⟨rfl, v', q1, q2, q3, q4, q5⟩
  have hLb : ∀ i, i < X.nl → ∃ cs, Blk w (X.l i) 42 cs := fun i hi => ⟨_, (hN i hi).1⟩
  have hlrow : ∀ i, i < X.nl → ∀ g, (Y.lv i).ownBlock = some g → ∃ cs, Blk w g 54 cs := fun i hi g hg => (S.hL i hi).own_blk hg
  have keep : ∀ {g : Nat} {T : TypeId} {cs : Array Value}, Blk w g T cs → T ≠ 42 → T ≠ 54 → Blk w' g T cs := fun hg t1 t2 => q4.blk hg (hg.ne k1 t1) (row_ne hg t2 (hlrow j hj))
  have keepb : ∀ {g : Nat} {T : TypeId} {cs : Array Value}, Blk w g T cs → T ≠ 42 → T ≠ 54 → w'.heap[g]? = w.heap[g]? := fun hg t1 t2 => q4.block _ hg.lt (hg.ne k1 t1) (row_ne hg t2 (hlrow j hj))
  have hin : ∀ e', InB (fun p => bag p + (if p e then 1 else 0)) e' → InB bag e' ∨ e' = e := fun e' he' => by
    by_cases e1 : e' = e
    · exact Or.inr e1
    · refine Or.inl (fun p hp => ?_)
      have := he' (fun x => p x && isE e' x) (by simp [hp, isE_self])
      have h2 : (if (p e && isE e' e) = true then 1 else 0) = 0 := by
        rw [if_neg]; intro h3
        simp at h3
        exact e1 (isE_eq h3.2).symm
      simp only [h2, Nat.add_zero] at this
      rw [← S.hbag] at this
      by_cases h4 : 0 < cnt (fun x => p x && isE e' x) Y.h Y.n
      · obtain ⟨i, hi, hp2⟩ := cnt_pos h4
        simp at hp2
        exact S.inH hi p hp2.1
      · obtain ⟨i, r, hi, hr, hp2⟩ := lcnt_pos (p := fun x => p x && isE e' x) (q := Y.q) (m := Y.m) (i := X.nl) (by omega)
        simp at hp2
        exact S.inL hi hr p hp2.1
  have hfreshv : ∀ i, i < X.nl → i ≠ j → ∀ g, (Y.lv i).ownBlock = some g → v'.ownBlock ≠ some g := fun i hi hij g hg e1 => by
    rcases q5 with h6 | ⟨g', h6, h7⟩
    · rw [h6] at e1; exact S.hd2 i j hi hj hij g hg e1
    · rw [h6] at e1; cases e1
      obtain ⟨cs, hcs⟩ := hlrow i hi g hg
      have := hcs.lt; omega
  have hnewL : NewL X w' { Y with lv := upN Y.lv j v', q := upN Y.q j (upd (Y.q j) (Y.m j) e), m := upN Y.m j (Y.m j + 1), wf := upN Y.wf (seq + 1) (.iface 46 (.pointer (some ⟨o, 0, none⟩))) } := fun i hi => by
    by_cases e1 : i = j
    · subst e1
      simp only [upN_self]
      exact ⟨q1, q2, fun h0 => by omega⟩
    · simp only [upN_ne _ _ e1]
      obtain ⟨r1, r2, r3⟩ := hN i hi
      refine ⟨q4.blk r1 (fun e2 => e1 (hX.hinj i j hi hj e2)) (row_ne r1 (by decide) (hlrow j hj)), (r2.wf_congr (fun r hr => hcg _ (S.inL hi hr))).of_block (fun g hg => ?_), r3⟩
      obtain ⟨cs, hcs⟩ := hlrow i hi g hg
      exact q4.block g hcs.lt (hcs.ne k1 (by decide)) (fun e2 => S.hd2 i j hi hj e1 g hg e2.symm)
  refine ⟨rfl, v', ?_, hnewL, Kept.of_fr q4 (Or.inr (Or.inr (Or.inl ⟨j, hj, rfl⟩))) (fun g hg => Or.inr (Or.inr (Or.inr (Or.inr (Or.inl ⟨j, hj, hg⟩))))) (fun g hgl hf => ?_)⟩
  · refine ⟨Nat.le_trans S.hbs q4.size, keep S.hc (by decide) (by decide), keep S.hst (by decide) (by decide), keep S.hlb (by decide) (by decide), owns_of_block S.hlog (fun g hg => ?_), (S.hr.wf_congr (fun r hr => hcg _ (S.inH hr))).of_block (fun g hg => ?_), S.hh, fun i hi => ?_, fun i hi r hr => ?_, fun p => ?_, fun e' he' => ?_, fun e' he' => ?_, hwf', fun i hi g hg => ?_, fun i i' hi hi' hii g hg => ?_⟩
    · obtain ⟨cs, hcs⟩ := owns_blk S.hlog hg
      exact keepb hcs (by decide) (by decide)
    · obtain ⟨cs, hcs⟩ := S.hr.own_blk hg
      exact q4.block g hcs.lt (hcs.ne k1 (by decide)) (fun e1 => S.hd1 j hj g e1.symm hg)
    · obtain ⟨r1, r2, r3⟩ := hnewL i hi
      refine ⟨0, _, _, r1, r2.from0, Nat.zero_add _, ?_, fun r hr => by rw [Nat.zero_add]⟩
      by_cases e1 : i = j
      · subst e1
        simp only [upN_self]
        omega
      · simp only [upN_ne _ _ e1]
        obtain ⟨hd, n, h, a1, a2, a3, a4, a5⟩ := S.hL i hi
        omega
    · by_cases e1 : i = j
      · subst e1
        simp only [upN_self] at hr ⊢
        by_cases e2 : r + 1 = Y.m i
        · rw [e2, upd_self, upd_ne _ _ (by omega)]
          have h1 := hlast (by omega)
          rw [show Y.m i - 1 = r by omega] at h1
          rw [bef_false]
          have h2 := hold _ (S.inL hi (show r < Y.m i by omega))
          omega
        · rw [upd_ne _ _ (by omega), upd_ne _ _ (by omega)]
          exact S.hsort i hi r (by omega)
      · simp only [upN_ne _ _ e1] at hr ⊢
        exact S.hsort i hi r hr
    · have h1 := lcnt_upd (p := p) (q := Y.q) (m := Y.m) (k := j) (upd (Y.q j) (Y.m j) e) (Y.m j + 1) hj
      have h2 := S.hbag p
      have h3 : cnt p (upd (Y.q j) (Y.m j) e) (Y.m j + 1) = cnt p (Y.q j) (Y.m j) + (if p e then 1 else 0) := by
        simp only [cnt, upd_self]
        rw [cnt_congr (h' := Y.q j) (fun r hr => upd_ne _ _ (by omega))]
      show cnt p Y.h Y.n + lcnt p (upN Y.q j _) (upN Y.m j _) X.nl = _
      omega
    · rcases hin e' he' with h1 | rfl
      · obtain ⟨o', a1, a2⟩ := S.hob e' h1
        exact ⟨o', by show upN _ _ _ _ = _; rw [← hcg e' h1]; exact a1, keep a2 (by decide) (by decide)⟩
      · exact ⟨o, by show upN _ _ _ _ = _; rw [he, upN_self], keep ho (by decide) (by decide)⟩
    · rcases hin e' he' with h1 | rfl
      · have := hold e' h1; omega
      · omega
    · by_cases e1 : i = j
      · subst e1
        simp only [upN_self] at hg
        rcases q5 with h6 | ⟨g', h6, h7⟩
        · rw [h6] at hg; exact S.hd1 i hi g hg
        · rw [h6] at hg; cases hg
          intro e2
          obtain ⟨cs, hcs⟩ := S.hr.own_blk e2
          have := hcs.lt; omega
      · simp only [upN_ne _ _ e1] at hg
        exact S.hd1 i hi g hg
    · by_cases e1 : i = j
      · subst e1
        simp only [upN_self] at hg
        simp only [upN_ne _ _ (Ne.symm hii)]
        intro e2
        exact hfreshv i' hi' (Ne.symm hii) g e2 hg
      · simp only [upN_ne _ _ e1] at hg
        by_cases e2 : i' = j
        · subst e2
          simp only [upN_self]
          exact hfreshv i hi e1 g hg
        · simp only [upN_ne _ _ e2]
          exact S.hd2 i i' hi hi' hii g hg
  · rcases hf with h1 | h1 | h1 | h1 | ⟨i, hi, h1⟩ | h1
    · exact Or.inl h1
    · exact Or.inr (Or.inl h1)
    · exact Or.inr (Or.inr (Or.inl h1))
    · exact Or.inr (Or.inr (Or.inr (Or.inl h1)))
    · refine Or.inr (Or.inr (Or.inr (Or.inr (Or.inl ⟨i, hi, ?_⟩))))
      by_cases e1 : i = j
      · subst e1
        simp only [upN_self] at h1
        rcases q5 with h6 | ⟨g', h6, h7⟩
        · rw [← h6]; exact h1
        · rw [h6] at h1; cases h1; omega
      · simp only [upN_ne _ _ e1] at h1; exact h1
    · exact Or.inr (Or.inr (Or.inr (Or.inr (Or.inr h1))))
end Go.Proofs.Ybulkeeeq
