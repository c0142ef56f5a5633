import Derived.Test.YbulkeeeqNext
namespace Go.Proofs.Ybulkeeeq
open Go.RowKit
set_option linter.unusedVariables false

def upN {α : Type} (f : Nat → α) (k : Nat) (x : α) : Nat → α := fun j => if j = k then x else f j
theorem upN_self {α : Type} (f : Nat → α) (k : Nat) (x : α) : upN f k x k = x := by simp [upN]
theorem upN_ne {α : Type} (f : Nat → α) {k j : Nat} (x : α) (h : j ≠ k) : upN f k x j = f j := by simp [upN, h]

/-- The bag of the lanes. -/
def lcnt (p : Ev → Bool) (q : Nat → Nat → Ev) (m : Nat → Nat) : Nat → Nat
  | 0 => 0
  | i + 1 => lcnt p q m i + cnt p (q i) (m i)
theorem lcnt_congr {p : Ev → Bool} {q q' : Nat → Nat → Ev} {m m' : Nat → Nat} : ∀ {i : Nat}, (∀ j, j < i → q j = q' j ∧ m j = m' j) → lcnt p q m i = lcnt p q' m' i
  | 0, _ => rfl
  | i + 1, h => by
    simp only [lcnt]
    rw [lcnt_congr (fun j hj => h j (by omega)), (h i (by omega)).1, (h i (by omega)).2]
theorem lcnt_upd {p : Ev → Bool} {q : Nat → Nat → Ev} {m : Nat → Nat} {k : Nat} (f : Nat → Ev) (mm : Nat) : ∀ {i : Nat}, k < i → lcnt p (upN q k f) (upN m k mm) i + cnt p (q k) (m k) = lcnt p q m i + cnt p f mm
  | 0, h => by omega
  | i + 1, h => by
    simp only [lcnt]
    by_cases e : k = i
    · subst e
      rw [upN_self, upN_self, lcnt_congr (q' := q) (m' := m) (fun j hj => ⟨upN_ne _ _ (by omega), upN_ne _ _ (by omega)⟩)]
      omega
    · have := lcnt_upd (p := p) (q := q) (m := m) (k := k) f mm (i := i) (by omega)
      rw [upN_ne _ _ (by omega : i ≠ k), upN_ne _ _ (by omega : i ≠ k)]
      omega
theorem lcnt_pos {p : Ev → Bool} {q : Nat → Nat → Ev} {m : Nat → Nat} : ∀ {i : Nat}, 0 < lcnt p q m i → ∃ j r, j < i ∧ r < m j ∧ p (q j r) = true
  | 0, h => by simp [lcnt] at h
  | i + 1, h => by
    simp only [lcnt] at h
    by_cases e : 0 < cnt p (q i) (m i)
    · obtain ⟨r, h1, h2⟩ := cnt_pos e
      exact ⟨i, r, by omega, h1, h2⟩
    · obtain ⟨j, r, h1, h2, h3⟩ := lcnt_pos (p := p) (q := q) (m := m) (i := i) (by omega)
      exact ⟨j, r, by omega, h2, h3⟩
theorem lcnt_one {p : Ev → Bool} {q : Nat → Nat → Ev} {m : Nat → Nat} {j r : Nat} : ∀ {i : Nat}, j < i → r < m j → p (q j r) = true → 0 < lcnt p q m i
  | 0, h, _, _ => by omega
  | i + 1, h, hr, hp => by
    simp only [lcnt]
    by_cases e : j = i
    · subst e; have := cnt_one hr hp; omega
    · have := lcnt_one (p := p) (q := q) (m := m) (i := i) (by omega) hr hp; omega
theorem cnt_shift {p : Ev → Bool} {q : Nat → Ev} : ∀ {n : Nat}, cnt p (fun j => q (j + 1)) n + (if p (q 0) then 1 else 0) = cnt p q (n + 1)
  | 0 => by simp [cnt]
  | n + 1 => by
    have := cnt_shift (p := p) (q := q) (n := n)
    simp only [cnt] at this ⊢
    omega
theorem cnt_all {h : Nat → Ev} : ∀ {n : Nat}, cnt (fun _ => true) h n = n
  | 0 => rfl
  | n + 1 => by simp only [cnt]; rw [cnt_all]; simp

/-- e is in the bag. -/
def InB (bag : (Ev → Bool) → Nat) (e : Ev) : Prop := ∀ p : Ev → Bool, p e = true → 0 < bag p
theorem InB.mono {bag bag' : (Ev → Bool) → Nat} {e : Ev} (h : InB bag e) (hb : ∀ p, bag p ≤ bag' p) : InB bag' e := fun p hp => Nat.lt_of_lt_of_le (h p hp) (hb p)
def isE (e : Ev) : Ev → Bool := fun x => decide (x.t = e.t ∧ x.seq = e.seq ∧ x.id = e.id ∧ x.child = e.child ∧ x.d = e.d)
theorem isE_self (e : Ev) : isE e e = true := by simp [isE]
theorem isE_eq {e x : Ev} (h : isE e x = true) : x = e := by
  cases e; cases x
  simpa [isE] using h

/-- What stands still while the clock runs. -/
structure Cx where
  base : Nat
  c : Nat
  st : Nat
  lb : Nat
  nl : Nat
  cpl : Nat
  lcs : Array Value
  l : Nat → Nat
  dly : Nat → Int
structure Cx.Ok (X : Cx) : Prop where
  hc : X.c < X.base
  hst : X.st < X.base
  hlb : X.lb < X.base
  hl : ∀ j, j < X.nl → X.l j < X.base
  hnl : X.nl ≤ 3
  hlcs : ∀ j, j < X.nl → X.lcs[j]? = some (.pointer (some ⟨X.l j, 0, none⟩))
  hinj : ∀ i j, i < X.nl → j < X.nl → X.l i = X.l j → i = j
/-- What turns. -/
structure Hp where
  v : Value
  h : Nat → Ev
  n : Nat
  lv : Nat → Value
  q : Nat → Nat → Ev
  m : Nat → Nat
  logv : Value
  wf : Nat → Value

structure Sim (X : Cx) (w : World) (Y : Hp) (idl : Value) (now : Int) (seq nid L : Nat) (lg : List Value) (bag : (Ev → Bool) → Nat) : Prop where
  hbs : X.base ≤ w.heap.size
  hc : Blk w X.c 33 #[.int .i64 now, Y.v, .slice (some ⟨X.lb, 0, none⟩) X.nl X.cpl, .int .u64 seq, .pointer none, idl]
  hst : Blk w X.st 37 #[.pointer (some ⟨X.c, 0, none⟩), Y.logv, .int .i64 nid]
  hlb : Blk w X.lb 40 X.lcs
  hlog : w.ownsRow X.base 59 3 Y.logv L lg
  hr : EvRow w X.base Y.wf Y.v Y.n Y.h
  hh : Heap Y.h Y.n
  hL : ∀ j, j < X.nl → LaneAt w X.base Y.wf (X.l j) (X.dly j) (Y.lv j) (Y.q j) (Y.m j)
  hsort : ∀ j, j < X.nl → ∀ i, i + 1 < Y.m j → bef (Y.q j (i + 1)) (Y.q j i) = false
  hbag : ∀ p, cnt p Y.h Y.n + lcnt p Y.q Y.m X.nl = bag p
  hob : ∀ e, InB bag e → ∃ o, Y.wf e.seq = .iface 46 (.pointer (some ⟨o, 0, none⟩)) ∧ Blk w o 48 #[.pointer (some ⟨X.st, 0, none⟩), .int .i64 e.id, .bool e.child, .int .u8 e.d]
  hseq : ∀ e, InB bag e → e.seq ≤ seq
  hwf : ∀ s, ∃ o, Y.wf s = .iface 46 (.pointer (some ⟨o, 0, none⟩))
  hd1 : ∀ j, j < X.nl → ∀ g, (Y.lv j).ownBlock = some g → Y.v.ownBlock ≠ some g
  hd2 : ∀ i j, i < X.nl → j < X.nl → i ≠ j → ∀ g, (Y.lv i).ownBlock = some g → (Y.lv j).ownBlock ≠ some g

theorem owns_blk {w : World} {base : Nat} {e : TypeId} {size : Nat} {v : Value} {n : Nat} {xs : List Value} (h : w.ownsRow base e size v n xs) {g : Nat} (hg : v.ownBlock = some g) : ∃ cs, Blk w g e cs := by
  rcases h.2 with ⟨rfl, _⟩ | ⟨g', cap, cur, rfl, _, hh, _⟩
  · simp [Value.ownBlock] at hg
  · simp [Value.ownBlock] at hg; subst hg; exact ⟨cur, hh⟩
theorem owns_of_block {w w' : World} {base : Nat} {e : TypeId} {size : Nat} {v : Value} {n : Nat} {xs : List Value} (h : w.ownsRow base e size v n xs) (hb : ∀ g, v.ownBlock = some g → w'.heap[g]? = w.heap[g]?) : w'.ownsRow base e size v n xs := by
  rcases h with ⟨h1, h2 | ⟨g', cap, cur, rfl, h3, h4, h5⟩⟩
  · exact ⟨h1, Or.inl h2⟩
  · exact ⟨h1, Or.inr ⟨g', cap, cur, rfl, h3, by rw [hb g' rfl]; exact h4, h5⟩⟩
theorem row_ne {w : World} {g : Nat} {T T' : TypeId} {cs : Array Value} {row : Option Nat} (hg : Blk w g T cs) (hT : T ≠ T') (hrow : ∀ g, row = some g → ∃ cs, Blk w g T' cs) : some g ≠ row := by
  intro e
  obtain ⟨cs', h'⟩ := hrow g e.symm
  exact hT (hg.ty h')
theorem Fr.blk {c : Nat} {row : Option Nat} {w w' : World} (h : Fr c row w.heap.size w w') {g : Nat} {T : TypeId} {cs : Array Value} (hg : Blk w g T cs) (h1 : g ≠ c) (h2 : some g ≠ row) : Blk w' g T cs := hg.of_block (h.block g hg.lt h1 h2)

theorem Sim.below {X : Cx} {w w' : World} {Y : Hp} {idl : Value} {now : Int} {seq nid L : Nat} {lg : List Value} {bag : (Ev → Bool) → Nat} (S : Sim X w Y idl now seq nid L lg bag) (hb : Below w.heap.size w w') : Sim X w' Y idl now seq nid L lg bag where
  hbs := Nat.le_trans S.hbs hb.size
  hc := S.hc.below hb S.hc.lt
  hst := S.hst.below hb S.hst.lt
  hlb := S.hlb.below hb S.hlb.lt
  hlog := owns_of_block S.hlog (fun g hg => by obtain ⟨cs, hcs⟩ := owns_blk S.hlog hg; exact hb.block g hcs.lt)
  hr := S.hr.below hb (Nat.le_refl _)
  hh := S.hh
  hL := fun j hj => (S.hL j hj).below hb (Nat.le_refl _)
  hsort := S.hsort
  hbag := S.hbag
  hob := fun e he => by obtain ⟨o, h1, h2⟩ := S.hob e he; exact ⟨o, h1, h2.below hb h2.lt⟩
  hseq := S.hseq
  hwf := S.hwf
  hd1 := S.hd1
  hd2 := S.hd2

theorem Sim.sorted {X : Cx} {w : World} {Y : Hp} {idl : Value} {now : Int} {seq nid L : Nat} {lg : List Value} {bag : (Ev → Bool) → Nat} (S : Sim X w Y idl now seq nid L lg bag) {j : Nat} (hj : j < X.nl) : ∀ r, r < Y.m j → bef (Y.q j r) (Y.q j 0) = false
  | 0, _ => le_refl' _
  | r + 1, hr => le_trans' (S.sorted hj r (by omega)) (S.hsort j hj r hr)
theorem Sim.mem {X : Cx} {w : World} {Y : Hp} {idl : Value} {now : Int} {seq nid L : Nat} {lg : List Value} {bag : (Ev → Bool) → Nat} (S : Sim X w Y idl now seq nid L lg bag) {e : Ev} (he : InB bag e) : (∃ i, i < Y.n ∧ Y.h i = e) ∨ ∃ j r, j < X.nl ∧ r < Y.m j ∧ Y.q j r = e := by
  have h1 := he (isE e) (isE_self e)
  rw [← S.hbag] at h1
  by_cases h2 : 0 < cnt (isE e) Y.h Y.n
  · obtain ⟨i, hi, hp⟩ := cnt_pos h2
    exact Or.inl ⟨i, hi, isE_eq hp⟩
  · obtain ⟨j, r, hj, hr, hp⟩ := lcnt_pos (p := isE e) (q := Y.q) (m := Y.m) (i := X.nl) (by omega)
    exact Or.inr ⟨j, r, hj, hr, isE_eq hp⟩
theorem Sim.inH {X : Cx} {w : World} {Y : Hp} {idl : Value} {now : Int} {seq nid L : Nat} {lg : List Value} {bag : (Ev → Bool) → Nat} (S : Sim X w Y idl now seq nid L lg bag) {i : Nat} (hi : i < Y.n) : InB bag (Y.h i) := fun p hp => by
  rw [← S.hbag]; have := cnt_one hi hp; omega
theorem Sim.inL {X : Cx} {w : World} {Y : Hp} {idl : Value} {now : Int} {seq nid L : Nat} {lg : List Value} {bag : (Ev → Bool) → Nat} (S : Sim X w Y idl now seq nid L lg bag) {j r : Nat} (hj : j < X.nl) (hr : r < Y.m j) : InB bag (Y.q j r) := fun p hp => by
  rw [← S.hbag]; have := lcnt_one (q := Y.q) (m := Y.m) hj hr hp; omega
theorem Sim.nle {X : Cx} {w : World} {Y : Hp} {idl : Value} {now : Int} {seq nid L : Nat} {lg : List Value} {bag : (Ev → Bool) → Nat} (S : Sim X w Y idl now seq nid L lg bag) : Y.n ≤ bag (fun _ => true) := by
  rw [← S.hbag, cnt_all]; omega

/-- What may turn. -/
def Foot (X : Cx) (Y : Hp) (k : Nat) : Prop := k = X.c ∨ k = X.st ∨ (∃ j, j < X.nl ∧ k = X.l j) ∨ Y.v.ownBlock = some k ∨ (∃ j, j < X.nl ∧ (Y.lv j).ownBlock = some k) ∨ Y.logv.ownBlock = some k
/-- Nothing else has turned. -/
structure Kept (X : Cx) (Y Y' : Hp) (w w' : World) : Prop where
  os : w'.os = w.os
  tape : w'.tape = w.tape
  output : w'.output = w.output
  size : w.heap.size ≤ w'.heap.size
  block : ∀ k, k < w.heap.size → ¬ Foot X Y k → w'.heap[k]? = w.heap[k]?
  new : ∀ k, k < w.heap.size → Foot X Y' k → Foot X Y k
theorem Kept.trans {X : Cx} {Y Y' Y'' : Hp} {x y z : World} (h : Kept X Y Y' x y) (k : Kept X Y' Y'' y z) : Kept X Y Y'' x z :=
  ⟨k.os.trans h.os, k.tape.trans h.tape, k.output.trans h.output, Nat.le_trans h.size k.size, fun i hi hf => (k.block i (by have := h.size; omega) (fun hf' => hf (h.new i hi hf'))).trans (h.block i hi hf), fun i hi hf => h.new i hi (k.new i (by have := h.size; omega) hf)⟩
theorem Kept.of_below {X : Cx} {Y : Hp} {w w' : World} (h : Below w.heap.size w w') : Kept X Y Y w w' := ⟨h.os, h.tape, h.output, h.size, fun k hk _ => h.block k hk, fun _ _ h => h⟩
theorem Kept.of_fr {X : Cx} {Y Y' : Hp} {w w' : World} {c : Nat} {row : Option Nat} (h : Fr c row w.heap.size w w') (hc : Foot X Y c) (hrow : ∀ k, row = some k → Foot X Y k) (hn : ∀ k, k < w.heap.size → Foot X Y' k → Foot X Y k) : Kept X Y Y' w w' :=
  ⟨h.os, h.tape, h.output, h.size, fun k hk hf => h.block k hk (fun e => hf (e ▸ hc)) (fun e => hf (hrow k e.symm)), hn⟩

/-- The next event is taken. -/
theorem sim_next {X : Cx} (hX : X.Ok) {w : World} {Y : Hp} {idl : Value} {now : Int} {seq nid L : Nat} {lg : List Value} {bag : (Ev → Bool) → Nat} (S : Sim X w Y idl now seq nid L lg bag) (hbb : bag (fun _ => true) ≤ 1000000) :
    Calls Yba.prog 20 #[.pointer (some ⟨X.c, 0, none⟩)] w fun ex w' =>
      (ex = .returned (.tuple #[.agg #[.int .i64 0, .int .u64 0, .nilIface], .bool false]) ∧ (∀ e, ¬ InB bag e) ∧ Y.n = 0 ∧ (∀ j, j < X.nl → Y.m j = 0) ∧ Below w.heap.size w w') ∨
      (∃ e o Y' bag', ex = .returned (.tuple #[.agg #[.int .i64 e.t, .int .u64 e.seq, .iface 46 (.pointer (some ⟨o, 0, none⟩))], .bool true]) ∧ InB bag e ∧ (∀ e', InB bag e' → bef e' e = false) ∧ Sim X w' Y' idl now seq nid L lg bag' ∧ (∀ p, bag' p + (if p e then 1 else 0) = bag p) ∧ Kept X Y Y' w w' ∧
        Blk w' o 48 #[.pointer (some ⟨X.st, 0, none⟩), .int .i64 e.id, .bool e.child, .int .u8 e.d]) := by
  refine (next_calls X.c X.base Y.n X.nl X.lb X.cpl 40 _ X.lcs Y.wf Y.v Y.h X.l X.dly Y.lv Y.q Y.m w S.hc rfl rfl rfl S.hlb hX.hlcs hX.hnl S.hr hX.hc (Nat.le_trans S.nle hbb) S.hwf S.hh S.hL hX.hl S.hbs).mono ?_
  have hst_c : X.st ≠ X.c := S.hst.ne S.hc (by decide)
  have hlb_c : X.lb ≠ X.c := S.hlb.ne S.hc (by decide)
  have hvrow : ∀ g, Y.v.ownBlock = some g → ∃ cs, Blk w g 54 cs := fun g hg => S.hr.own_blk hg
  have hlrow : ∀ j, j < X.nl → ∀ g, (Y.lv j).ownBlock = some g → ∃ cs, Blk w g 54 cs := fun j hj g hg => (S.hL j hj).own_blk hg
  have hlogrow : ∀ g, Y.logv.ownBlock = some g → ∃ cs, Blk w g 59 cs := fun g hg => owns_blk S.hlog hg
  have hLb : ∀ j, j < X.nl → ∃ cs, Blk w (X.l j) 42 cs := fun j hj => by obtain ⟨hd, n, h, h1, _⟩ := S.hL j hj; exact ⟨_, h1⟩
  rintro ex w' (⟨rfl, h1, h2, h3⟩ | ⟨k, m', rfl, hk, hm, hmin, hhp, v', hLk, hown, hfr⟩ | ⟨n', rfl, hn, hmin, v', h', hc', hr', hh', hcnt, hfr, hown⟩)
  · refine Or.inl ⟨rfl, fun e he => ?_, h1, h2, h3⟩
    rcases S.mem he with ⟨i, hi, _⟩ | ⟨j, r, hj, hr, _⟩
    · omega
    · have := h2 j hj; omega
  · -- from lane k
    have hin : InB bag (Y.q k 0) := S.inL hk (by omega)
    obtain ⟨o, ho1, ho2⟩ := S.hob _ hin
    obtain ⟨lcs0, hlk⟩ := hLb k hk
    have keep : ∀ {g : Nat} {T : TypeId} {cs : Array Value}, Blk w g T cs → T ≠ 42 → T ≠ 54 → Blk w' g T cs := fun hg t1 t2 => hfr.blk hg (hg.ne hlk t1) (row_ne hg t2 (hlrow k hk))
    have hbag' : ∀ p, (cnt p Y.h Y.n + lcnt p (upN Y.q k (fun j => Y.q k (j + 1))) (upN Y.m k m') X.nl) + (if p (Y.q k 0) then 1 else 0) = bag p := fun p => by
      have h1 := lcnt_upd (p := p) (q := Y.q) (m := Y.m) (fun j => Y.q k (j + 1)) m' hk
      have h2 := cnt_shift (p := p) (q := Y.q k) (n := m')
      rw [← S.hbag p]
      rw [hm] at h1
      omega
    refine Or.inr ⟨Y.q k 0, o, { Y with lv := upN Y.lv k v', q := upN Y.q k (fun j => Y.q k (j + 1)), m := upN Y.m k m' }, fun p => cnt p Y.h Y.n + lcnt p (upN Y.q k (fun j => Y.q k (j + 1))) (upN Y.m k m') X.nl, by rw [ho1], hin, ?_, ?_, hbag', Kept.of_fr hfr (Or.inr (Or.inr (Or.inl ⟨k, hk, rfl⟩))) (fun g hg => Or.inr (Or.inr (Or.inr (Or.inr (Or.inl ⟨k, hk, hg⟩))))) (fun g _ hf => ?_), keep ho2 (by decide) (by decide)⟩
    · intro e' he'
      rcases S.mem he' with ⟨i, hi, rfl⟩ | ⟨j, r, hj, hr, rfl⟩
      · exact le_trans' (hhp (by omega)) (S.hh.min hi)
      · exact le_trans' (hmin j hj (by omega)) (S.sorted hj r hr)
    · have hsub : ∀ e', InB (fun p => cnt p Y.h Y.n + lcnt p (upN Y.q k (fun j => Y.q k (j + 1))) (upN Y.m k m') X.nl) e' → InB bag e' := fun e' he' => he'.mono (fun p => by have := hbag' p; omega)
      refine ⟨Nat.le_trans S.hbs hfr.size, keep S.hc (by decide) (by decide), keep S.hst (by decide) (by decide), keep S.hlb (by decide) (by decide),
        owns_of_block S.hlog (fun g hg => ?_), S.hr.of_block (fun g hg => ?_), S.hh, fun j hj => ?_, fun j hj i hi => ?_, fun p => rfl, fun e' he' => ?_, fun e' he' => S.hseq e' (hsub e' he'), S.hwf, fun j hj g hg => ?_, fun i j hi hj hij g hg => ?_⟩
      · obtain ⟨cs, hcs⟩ := hlogrow g hg
        exact hfr.block g hcs.lt (hcs.ne hlk (by decide)) (row_ne hcs (by decide) (hlrow k hk))
      · obtain ⟨cs, hcs⟩ := hvrow g hg
        exact hfr.block g hcs.lt (hcs.ne hlk (by decide)) (fun e => S.hd1 k hk g e.symm hg)
      · by_cases e : j = k
        · subst e
          show LaneAt w' X.base Y.wf (X.l j) (X.dly j) (upN Y.lv j v' j) (upN Y.q j _ j) (upN Y.m j m' j)
          rw [upN_self, upN_self, upN_self]; exact hLk
        · show LaneAt w' X.base Y.wf (X.l j) (X.dly j) (upN Y.lv k v' j) (upN Y.q k _ j) (upN Y.m k m' j)
          rw [upN_ne _ _ e, upN_ne _ _ e, upN_ne _ _ e]
          obtain ⟨lcsj, hlj⟩ := hLb j hj
          refine (S.hL j hj).of_block (hfr.block _ hlj.lt (fun e1 => e (hX.hinj j k hj hk e1)) (row_ne hlj (by decide) (hlrow k hk))) (fun g hg => ?_)
          obtain ⟨cs, hcs⟩ := hlrow j hj g hg
          exact hfr.block g hcs.lt (hcs.ne hlk (by decide)) (fun e1 => S.hd2 k j hk hj (Ne.symm e) g e1.symm hg)
      · by_cases e : j = k
        · subst e
          simp only [upN_self] at hi ⊢
          exact S.hsort j hj (i + 1) (by omega)
        · simp only [upN_ne _ _ e] at hi ⊢
          exact S.hsort j hj i hi
      · obtain ⟨o', h1, h2⟩ := S.hob e' (hsub e' he')
        exact ⟨o', h1, keep h2 (by decide) (by decide)⟩
      · by_cases e : j = k
        · subst e
          simp only [upN_self] at hg
          rw [hown] at hg
          exact S.hd1 j hj g hg
        · simp only [upN_ne _ _ e] at hg
          exact S.hd1 j hj g hg
      · have e1 : ∀ x, (upN Y.lv k v' x).ownBlock = (Y.lv x).ownBlock := fun x => by
          by_cases e : x = k
          · subst e; rw [upN_self, hown]
          · rw [upN_ne _ _ e]
        simp only [e1] at hg ⊢
        exact S.hd2 i j hi hj hij g hg
    · rcases hf with h1 | h1 | h1 | h1 | ⟨j, hj, h1⟩ | h1
      · exact Or.inl h1
      · exact Or.inr (Or.inl h1)
      · exact Or.inr (Or.inr (Or.inl h1))
      · exact Or.inr (Or.inr (Or.inr (Or.inl h1)))
      · refine Or.inr (Or.inr (Or.inr (Or.inr (Or.inl ⟨j, hj, ?_⟩))))
        by_cases e : j = k
        · subst e
          simp only [upN_self] at h1
          rw [← hown]; exact h1
        · simp only [upN_ne _ _ e] at h1
          exact h1
      · exact Or.inr (Or.inr (Or.inr (Or.inr (Or.inr h1))))
  · -- from the heap
    have hin : InB bag (Y.h 0) := S.inH (by omega)
    obtain ⟨o, ho1, ho2⟩ := S.hob _ hin
    have keep : ∀ {g : Nat} {T : TypeId} {cs : Array Value}, Blk w g T cs → T ≠ 33 → T ≠ 54 → Blk w' g T cs := fun hg t1 t2 => hfr.blk hg (hg.ne S.hc t1) (row_ne hg t2 hvrow)
    have hbag' : ∀ p, (cnt p h' n' + lcnt p Y.q Y.m X.nl) + (if p (Y.h 0) then 1 else 0) = bag p := fun p => by
      have h1 := hcnt p
      rw [← hn] at h1
      rw [← S.hbag p]
      omega
    refine Or.inr ⟨Y.h 0, o, { Y with v := v', h := h', n := n' }, fun p => cnt p h' n' + lcnt p Y.q Y.m X.nl, by rw [ho1], hin, ?_, ?_, hbag', Kept.of_fr hfr (Or.inl rfl) (fun g hg => Or.inr (Or.inr (Or.inr (Or.inl hg)))) (fun g _ hf => ?_), keep ho2 (by decide) (by decide)⟩
    · intro e' he'
      rcases S.mem he' with ⟨i, hi, rfl⟩ | ⟨j, r, hj, hr, rfl⟩
      · exact S.hh.min hi
      · exact le_trans' (hmin j hj (by omega)) (S.sorted hj r hr)
    · have hsub : ∀ e', InB (fun p => cnt p h' n' + lcnt p Y.q Y.m X.nl) e' → InB bag e' := fun e' he' => he'.mono (fun p => by have := hbag' p; omega)
      refine ⟨Nat.le_trans S.hbs hfr.size, hc', keep S.hst (by decide) (by decide), keep S.hlb (by decide) (by decide),
        owns_of_block S.hlog (fun g hg => ?_), hr', hh', fun j hj => ?_, S.hsort, fun p => rfl, fun e' he' => ?_, fun e' he' => S.hseq e' (hsub e' he'), S.hwf, fun j hj g hg => ?_, S.hd2⟩
      · obtain ⟨cs, hcs⟩ := hlogrow g hg
        exact hfr.block g hcs.lt (hcs.ne S.hc (by decide)) (row_ne hcs (by decide) hvrow)
      · obtain ⟨lcsj, hlj⟩ := hLb j hj
        refine (S.hL j hj).of_block (hfr.block _ hlj.lt (hlj.ne S.hc (by decide)) (row_ne hlj (by decide) hvrow)) (fun g hg => ?_)
        obtain ⟨cs, hcs⟩ := hlrow j hj g hg
        exact hfr.block g hcs.lt (hcs.ne S.hc (by decide)) (fun e1 => S.hd1 j hj g hg e1.symm)
      · obtain ⟨o', h1, h2⟩ := S.hob e' (hsub e' he')
        exact ⟨o', h1, keep h2 (by decide) (by decide)⟩
      · show v'.ownBlock ≠ some g
        rw [hown]
        exact S.hd1 j hj g hg
    · rcases hf with h1 | h1 | h1 | h1 | h1 | h1
      · exact Or.inl h1
      · exact Or.inr (Or.inl h1)
      · exact Or.inr (Or.inr (Or.inl h1))
      · exact Or.inr (Or.inr (Or.inr (Or.inl (by rw [← hown]; exact h1))))
      · exact Or.inr (Or.inr (Or.inr (Or.inr (Or.inl h1))))
      · exact Or.inr (Or.inr (Or.inr (Or.inr (Or.inr h1))))
end Go.Proofs.Ybulkeeeq
