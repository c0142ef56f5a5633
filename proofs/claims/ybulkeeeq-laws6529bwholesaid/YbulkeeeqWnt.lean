import Derived.Test.YbulkeeeqNod
namespace Go.Proofs.Ybulkeeeq
open Go.RowKit
set_option linter.unusedVariables false

/-- Is entry i wanted? -/
def wantB (ek : Nat → Ent) (s : ByteArray) (sh sl eh el : Nat) (i : Nat) : Bool := !(decide (Lib.compareBytes (ek i).key.data.toList s.data.toList < 0)) && bin (ek i).hi (ek i).lo sh sl eh el
theorem wants_range {ek : Nat → Ent} {s : ByteArray} {sh sl eh el M p0 : Nat} (hc : Cut (klt ek s) M p0) : ∀ k, k ≤ M → (List.range k).filter (wantB ek s sh sl eh el) = (List.range' p0 (k - p0)).filter (fun i => bin (ek i).hi (ek i).lo sh sl eh el)
  | 0, _ => by simp
  | k + 1, hk => by
    rw [List.range_succ, List.filter_append, wants_range hc k (by omega)]
    by_cases h : k < p0
    · have h1 : klt ek s k := hc.2.1 k h
      have h2 : wantB ek s sh sl eh el k = false := by unfold wantB; unfold klt at h1; simp [h1]
      rw [show k - p0 = 0 by omega, show k + 1 - p0 = 0 by omega]
      simp [h2]
    · have h1 : ¬ klt ek s k := hc.2.2 k (by omega) (by omega)
      have h2 : wantB ek s sh sl eh el k = bin (ek k).hi (ek k).lo sh sl eh el := by
        unfold wantB; unfold klt at h1
        rw [decide_eq_false h1]; simp
      rw [show k + 1 - p0 = (k - p0) + 1 by omega, List.range'_1_concat, List.filter_append, show p0 + (k - p0) = k by omega]
      congr 1
      simp only [List.filter_cons, List.filter_nil, h2]
theorem pre_filter (p0 j m : Nat) (h : j ≤ m) (q : Nat → Bool) : (List.range' p0 j).filter q <+: (List.range' p0 m).filter q := by
  obtain ⟨d, rfl⟩ : ∃ d, m = j + d := ⟨m - j, by omega⟩
  rw [← List.range'_append_1, List.filter_append]
  exact List.prefix_append _ _
theorem pre_eq {α : Type} {a b c : List α} (h1 : a <+: c) (h2 : b <+: c) (h : a.length = b.length) : a = b :=
  (List.prefix_of_prefix_length_le h1 h2 (by omega)).eq_of_length h
/-- What the law wants is what eachHeld gave. -/
theorem want_gs {ek : Nat → Ent} {s : ByteArray} {sh sl eh el M p0 st : Nat} {hs gs : List Nat} (hc : Cut (klt ek s) M p0)
    (h : (hs = (List.range M).filter (wantB ek s sh sl eh el) ∧ (st = 0 ∨ hs.length < st)) ∨ (∃ k, k ≤ M ∧ hs = (List.range k).filter (wantB ek s sh sl eh el) ∧ hs.length = st ∧ 0 < st))
    (hg : (∃ k, p0 + k ≤ M ∧ gs = (List.range' p0 k).filter (fun i => bin (ek i).hi (ek i).lo sh sl eh el) ∧ gs.length = st ∧ 0 < st) ∨ (gs = (List.range' p0 (M - p0)).filter (fun i => bin (ek i).hi (ek i).lo sh sl eh el) ∧ (st = 0 ∨ gs.length < st))) : hs = gs := by
  have hp : p0 ≤ M := hc.1
  rcases h with ⟨h1, h2⟩ | ⟨k, hk, h1, h2, h3⟩
  · rw [wants_range hc M (Nat.le_refl _)] at h1
    rcases hg with ⟨j, hj, g1, g2, g3⟩ | ⟨g1, _⟩
    · have := (pre_filter p0 j (M - p0) (by omega) (fun i => bin (ek i).hi (ek i).lo sh sl eh el)).length_le
      rw [← h1, ← g1] at this
      omega
    · rw [h1, g1]
  · rw [wants_range hc k hk] at h1
    have hpre := pre_filter p0 (k - p0) (M - p0) (by omega) (fun i => bin (ek i).hi (ek i).lo sh sl eh el)
    rcases hg with ⟨j, hj, g1, g2, g3⟩ | ⟨g1, g2⟩
    · have hpre2 := pre_filter p0 j (M - p0) (by omega) (fun i => bin (ek i).hi (ek i).lo sh sl eh el)
      rw [← h1] at hpre
      rw [← g1] at hpre2
      exact pre_eq hpre hpre2 (by omega)
    · have := hpre.length_le
      rw [← h1, ← g1] at this
      omega
theorem want_step (ek : Nat → Ent) (s : ByteArray) (sh sl eh el k : Nat) : (List.range (k + 1)).filter (wantB ek s sh sl eh el) = (List.range k).filter (wantB ek s sh sl eh el) ++ (if wantB ek s sh sl eh el k then [k] else []) := by
  rw [List.range_succ, List.filter_append]
  congr 1
  simp only [List.filter_cons, List.filter_nil]
/-- Go's order of strings. -/
theorem less_cb : ∀ a b : List UInt8, Op.bytesLess a b = decide (Lib.compareBytes a b < 0)
  | [], [] => by simp [Op.bytesLess, Lib.compareBytes]
  | [], _ :: _ => by simp [Op.bytesLess, Lib.compareBytes]
  | _ :: _, [] => by simp [Op.bytesLess, Lib.compareBytes]
  | x :: xs, y :: ys => by
    have ih := less_cb xs ys
    unfold Op.bytesLess Lib.compareBytes
    rw [ih]
    by_cases h1 : x < y
    · simp [h1]
    · by_cases h2 : y < x
      · have h3 : ¬ x = y := fun e => by subst e; exact h1 h2
        simp [h1, h2, h3]
      · have h3 : x = y := by
          have a1 := UInt8.not_lt.1 h1
          have a2 := UInt8.not_lt.1 h2
          exact UInt8.le_antisymm a2 a1
        subst h3
        simp [h1]
theorem wantB_less {ek : Nat → Ent} {s : ByteArray} {sh sl eh el k : Nat} (h : Op.bytesLess (ek k).key.toList s.toList = true) : wantB ek s sh sl eh el k = false := by
  rw [less_cb, Lib.toList_data, Lib.toList_data] at h
  unfold wantB; rw [h]; rfl
theorem wantB_bin {ek : Nat → Ent} {s : ByteArray} {sh sl eh el k : Nat} (h : Op.bytesLess (ek k).key.toList s.toList = false) : wantB ek s sh sl eh el k = bin (ek k).hi (ek k).lo sh sl eh el := by
  rw [less_cb, Lib.toList_data, Lib.toList_data] at h
  unfold wantB; rw [h]; simp
/-- An identifier is loaded whole, as one step of a region that draws. -/
theorem step_load76 {ops : Array Oper} {o : Oper} {a : Act} {w : World} {K : Act → World → Prop} {Q : Exit → Act → World → Prop} {E : Prop}
    (hg : o.guard = none) (p : Operand) (hop : o.op = Op.load 76 p) (g hi lo : Nat) (hp : a.eval p = .pointer (some ⟨g, 0, none⟩)) (hb : Blk w g 76 (idA hi lo)) (hK : K (a.put o.dst (.agg (idA hi lo))) w) :
    if Region.wanted o (yielded ops a.tmps) = true then Oper.wp Yba.prog o a w K Q else E := by
  have hw : Region.wanted o (yielded ops a.tmps) = true := by simp [Region.wanted, hg]
  rw [if_pos hw]
  have hrun : (Instr.loadAt 76 (.pointer (some ⟨g, 0, none⟩))).run Yba.prog w = .ok (.agg (idA hi lo)) w := by
    have h1 : (Instr.sureAddr (.pointer (some ⟨g, 0, none⟩))).run Yba.prog w = .ok ⟨g, 0, none⟩ w := rfl
    simp only [Instr.loadAt, Sem.run_bind, h1, Result.andThen]
    exact run_load76 hb
  unfold Oper.wp
  simp [execOp, hop, hp, hrun, Result.andThen]
  exact hK
/-- The two rows that the law gathers. -/
structure WantI (x : World) (T : Nat) (ek : Nat → Ent) (u : Nat → Nat) (hs : List Nat) (va vb : Value) : Prop where
  a : x.ownsRow T 3 1 va hs.length (hs.map fun i => .int .i64 (u i : Nat))
  b : x.ownsRow T 82 1 vb hs.length (hs.map fun i => .int .u64 (vOf (ek i) : Nat))
theorem WantI.start (x : World) (T : Nat) (ek : Nat → Ent) (u : Nat → Nat) : WantI x T ek u [] (.slice none 0 0) (.slice none 0 0) := ⟨World.ownsRow_nil _ _ _ _, World.ownsRow_nil _ _ _ _⟩
theorem WantI.below {x y : World} {T : Nat} {ek : Nat → Ent} {u : Nat → Nat} {hs : List Nat} {va vb : Value} (h : WantI x T ek u hs va vb) (hb : Below x.heap.size x y) : WantI y T ek u hs va vb :=
  ⟨owns_other h.a (fun k hk => hb.block k (own_lt' h.a k hk)), owns_other h.b (fun k hk => hb.block k (own_lt' h.b k hk))⟩
theorem own_apart {x : World} {T T' n m : Nat} {va vb : Value} {xs ys : List Value} (h1 : x.ownsRow T 3 1 va n xs) (h2 : x.ownsRow T' 82 1 vb m ys) (k : Nat) (ha : va.ownBlock = some k) (hb : vb.ownBlock = some k) : False := by
  rcases h1.2 with ⟨rfl, _⟩ | ⟨g, c, cur, rfl, _, hh, _⟩
  · simp [Value.ownBlock] at ha
  · rcases h2.2 with ⟨rfl, _⟩ | ⟨g', c', cur', rfl, _, hh', _⟩
    · simp [Value.ownBlock] at hb
    · simp [Value.ownBlock] at ha hb
      subst ha; subst hb
      rw [hh] at hh'
      injection hh' with hh'; injection hh' with _ e; exact absurd e (by decide)
theorem WantI.puta {x z : World} {T : Nat} {ek : Nat → Ent} {u : Nat → Nat} {hs : List Nat} {va vb va' : Value} {i : Nat} (h : WantI x T ek u hs va vb) (hg : x.grownBy z va.ownBlock) (ho : z.ownsRow T 3 1 va' (hs.length + 1) ((hs.map fun i => .int .i64 (u i : Nat)) ++ [.int .i64 (u i : Nat)])) :
    z.ownsRow T 3 1 va' (hs ++ [i]).length ((hs ++ [i]).map fun i => .int .i64 (u i : Nat)) ∧ z.ownsRow T 82 1 vb hs.length (hs.map fun i => .int .u64 (vOf (ek i) : Nat)) := by
  refine ⟨by simpa using ho, owns_other h.b (fun k hk => hg.block k (own_lt' h.b k hk) (fun e => own_apart h.a h.b k e.symm hk))⟩
theorem WantI.putb {x z : World} {T : Nat} {ek : Nat → Ent} {u : Nat → Nat} {hs : List Nat} {va vb vb' : Value} {i vv : Nat} (ha : x.ownsRow T 3 1 va (hs ++ [i]).length ((hs ++ [i]).map fun i => .int .i64 (u i : Nat))) (hb : x.ownsRow T 82 1 vb hs.length (hs.map fun i => .int .u64 (vOf (ek i) : Nat)))
    (hg : x.grownBy z vb.ownBlock) (hv : vOf (ek i) = vv) (ho : z.ownsRow T 82 1 vb' (hs.length + 1) ((hs.map fun i => .int .u64 (vOf (ek i) : Nat)) ++ [.int .u64 (vv : Nat)])) : WantI z T ek u (hs ++ [i]) va vb' := by
  refine ⟨owns_other ha (fun k hk => hg.block k (own_lt' ha k hk) (fun e => own_apart ha hb k hk e.symm)), ?_⟩
  subst hv
  simpa using ho
theorem info82 : (Yba.prog.info? 82).map (fun i => (i.zero, i.size, i.bytes)) = some (some (.int .u64 0), 1, 8) := by kernel_rfl
theorem want_len {ek : Nat → Ent} {s : ByteArray} {sh sl eh el k : Nat} {hs : List Nat} (h : hs = (List.range k).filter (wantB ek s sh sl eh el)) : hs.length ≤ k := by
  rw [h]; exact Nat.le_trans (List.length_filter_le _ _) (by simp)
theorem own_from {x : World} {T t sz n : Nat} {v : Value} {xs : List Value} (h : x.ownsRow T t sz v n xs) (q : Nat) (e : v.ownBlock = some q) : T ≤ q := by
  rcases h.2 with ⟨rfl, _⟩ | ⟨g, c, cur, rfl, hg, _⟩
  · simp [Value.ownBlock] at e
  · simp [Value.ownBlock] at e; subst e; exact hg
end Go.Proofs.Ybulkeeeq
