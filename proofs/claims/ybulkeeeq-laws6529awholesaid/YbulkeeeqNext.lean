import Derived.Test.YbulkeeeqLn
namespace Go.Proofs.Ybulkeeeq
open Go.RowKit
set_option linter.unusedVariables false

/-- The lane whose first event runs first, among the first i. -/
def Best (q : Nat → Nat → Ev) (m : Nat → Nat) (i : Nat) : Option Nat → Prop
  | none => ∀ j, j < i → m j = 0
  | some k => k < i ∧ 0 < m k ∧ ∀ j, j < i → 0 < m j → bef (q j 0) (q k 0) = false
theorem Best.skip {q : Nat → Nat → Ev} {m : Nat → Nat} {i : Nat} {b : Option Nat} (h : Best q m i b) (h0 : m i = 0) : Best q m (i + 1) b := by
  cases b with
  | none => intro j hj; rcases Nat.lt_or_ge j i with h1 | h1; exact h j h1; rw [show j = i by omega]; exact h0
  | some k =>
    obtain ⟨h1, h2, h3⟩ := h
    refine ⟨by omega, h2, fun j hj hm => ?_⟩
    rcases Nat.lt_or_ge j i with h4 | h4
    · exact h3 j h4 hm
    · rw [show j = i by omega] at hm; omega
theorem Best.one {q : Nat → Nat → Ev} {m : Nat → Nat} {i : Nat} (h : Best q m i none) (h0 : 0 < m i) : Best q m (i + 1) (some i) := by
  refine ⟨by omega, h0, fun j hj hm => ?_⟩
  rcases Nat.lt_or_ge j i with h4 | h4
  · have := h j h4; omega
  · rw [show j = i by omega]; exact le_refl' _
theorem Best.take {q : Nat → Nat → Ev} {m : Nat → Nat} {i k : Nat} (h : Best q m i (some k)) (h0 : 0 < m i) (hb : bef (q i 0) (q k 0) = true) : Best q m (i + 1) (some i) := by
  obtain ⟨h1, h2, h3⟩ := h
  refine ⟨by omega, h0, fun j hj hm => ?_⟩
  rcases Nat.lt_or_ge j i with h4 | h4
  · exact le_trans' (le_of_bef hb) (h3 j h4 hm)
  · rw [show j = i by omega]; exact le_refl' _
theorem Best.keep {q : Nat → Nat → Ev} {m : Nat → Nat} {i k : Nat} (h : Best q m i (some k)) (hb : bef (q i 0) (q k 0) = false) : Best q m (i + 1) (some k) := by
  obtain ⟨h1, h2, h3⟩ := h
  refine ⟨by omega, h2, fun j hj hm => ?_⟩
  rcases Nat.lt_or_ge j i with h4 | h4
  · exact h3 j h4 hm
  · rw [show j = i by omega]; exact hb

/-- The lane that is held, and its first event. -/
def Held (w : World) (wf : Nat → Value) (l : Nat → Nat) (q : Nat → Nat → Ev) (f : Nat) (v4 : Value) : Option Nat → Prop
  | none => v4 = .pointer none ∧ Blk w f 54 #[.int .i64 0, .int .u64 0, .nilIface]
  | some k => v4 = .pointer (some ⟨l k, 0, none⟩) ∧ Blk w f 54 #[.int .i64 (q k 0).t, .int .u64 (q k 0).seq, wf (q k 0).seq]
theorem Held.below {w w' : World} {wf : Nat → Value} {l : Nat → Nat} {q : Nat → Nat → Ev} {f : Nat} {v4 : Value} {b : Option Nat} {B : Nat} (h : Held w wf l q f v4 b) (hb : Below B w w') (hf : f < B) : Held w' wf l q f v4 b := by
  cases b with
  | none => exact ⟨h.1, h.2.below hb hf⟩
  | some k => exact ⟨h.1, h.2.below hb hf⟩

/-- Three cells are written over. -/
theorem st3 {w : World} {R : Nat} {a b c x y z : Value} (h : Blk w R 54 #[a, b, c]) : w.cell? ⟨R, 0, none⟩ = some a ∧ w.frozen? ⟨R, 0, none⟩ = false ∧ (w.setCell ⟨R, 0, none⟩ x).cell? ⟨R, 1, none⟩ = some b ∧ (w.setCell ⟨R, 0, none⟩ x).frozen? ⟨R, 1, none⟩ = false ∧
    ((w.setCell ⟨R, 0, none⟩ x).setCell ⟨R, 1, none⟩ y).cell? ⟨R, 2, none⟩ = some c ∧ ((w.setCell ⟨R, 0, none⟩ x).setCell ⟨R, 1, none⟩ y).frozen? ⟨R, 2, none⟩ = false ∧
    Blk (((w.setCell ⟨R, 0, none⟩ x).setCell ⟨R, 1, none⟩ y).setCell ⟨R, 2, none⟩ z) R 54 #[x, y, z] :=
  ⟨h.cell 0, h.frozen 0, (h.set 0 x).cell 1, (h.set 0 x).frozen 1, ((h.set 0 x).set 1 y).cell 2, ((h.set 0 x).set 1 y).frozen 2, ((h.set 0 x).set 1 y).set 2 z⟩

/-- The three cells of another block do not matter. -/
theorem Blk.other3 {w : World} {g R : Nat} {T : TypeId} {cs : Array Value} (h : Blk w g T cs) (x y z : Value) (hne : g ≠ R) : Blk (((w.setCell ⟨R, 0, none⟩ x).setCell ⟨R, 1, none⟩ y).setCell ⟨R, 2, none⟩ z) g T cs :=
  ((h.setOther ⟨R, 0, none⟩ x hne).setOther ⟨R, 1, none⟩ y hne).setOther ⟨R, 2, none⟩ z hne
theorem heap_other3 (w : World) (g R : Nat) (x y z : Value) (hne : g ≠ R) : (((w.setCell ⟨R, 0, none⟩ x).setCell ⟨R, 1, none⟩ y).setCell ⟨R, 2, none⟩ z).heap[g]? = w.heap[g]? := by
  rw [Below.heap_setCell _ _ _ _ hne, Below.heap_setCell _ _ _ _ hne, Below.heap_setCell _ _ _ _ hne]
theorem Fr.set3 {c : Nat} {row : Option Nat} {B : Nat} {w0 w : World} (h : Fr c row B w0 w) (R : Nat) (x y z : Value) (hR : B ≤ R) : Fr c row B w0 (((w.setCell ⟨R, 0, none⟩ x).setCell ⟨R, 1, none⟩ y).setCell ⟨R, 2, none⟩ z) :=
  ((h.setCell R 0 x (Or.inr (Or.inr hR))).setCell R 1 y (Or.inr (Or.inr hR))).setCell R 2 z (Or.inr (Or.inr hR))
theorem Fr.mono {c : Nat} {row : Option Nat} {B B' : Nat} {w w' : World} (h : Fr c row B w w') (hB : B' ≤ B) : Fr c row B' w w' := ⟨h.os, h.tape, h.output, h.size, fun k hk => h.block k (by omega)⟩

set_option maxHeartbeats 8000000 in
set_option maxRecDepth 100000 in
theorem next_calls (c base n nl lb cpl : Nat) (TL : TypeId) (cl lcs : Array Value) (wf : Nat → Value) (v : Value) (h : Nat → Ev) (l : Nat → Nat) (dly : Nat → Int) (lv : Nat → Value) (q : Nat → Nat → Ev) (m : Nat → Nat) (w : World)
    (hc : Blk w c 33 cl) (hv : cl[1]? = some v) (hvl : cl[2]? = some (.slice (some ⟨lb, 0, none⟩) nl cpl)) (hsz : cl.size = 6)
    (hlb : Blk w lb TL lcs) (hlcs : ∀ j, j < nl → lcs[j]? = some (.pointer (some ⟨l j, 0, none⟩))) (hnl : nl ≤ 3)
    (hr : EvRow w base wf v n h) (hcb : c < base) (hn : n ≤ 1000000) (hwf : ∀ s, ∃ o, wf s = .iface 46 (.pointer (some ⟨o, 0, none⟩))) (hh : Heap h n)
    (hL : ∀ j, j < nl → LaneAt w base wf (l j) (dly j) (lv j) (q j) (m j)) (hLb : ∀ j, j < nl → l j < base) (hbase : base ≤ w.heap.size) :
    Calls Yba.prog 20 #[.pointer (some ⟨c, 0, none⟩)] w fun ex w' =>
      (ex = .returned (.tuple #[.agg #[.int .i64 0, .int .u64 0, .nilIface], .bool false]) ∧ n = 0 ∧ (∀ j, j < nl → m j = 0) ∧ Below w.heap.size w w') ∨
      (∃ k m', ex = .returned (.tuple #[.agg #[.int .i64 (q k 0).t, .int .u64 (q k 0).seq, wf (q k 0).seq], .bool true]) ∧ k < nl ∧ m k = m' + 1 ∧ (∀ j, j < nl → 0 < m j → bef (q j 0) (q k 0) = false) ∧ (0 < n → bef (h 0) (q k 0) = false) ∧
        ∃ v', LaneAt w' base wf (l k) (dly k) v' (fun j => q k (j + 1)) m' ∧ v'.ownBlock = (lv k).ownBlock ∧ Fr (l k) (lv k).ownBlock w.heap.size w w') ∨
      (∃ n', ex = .returned (.tuple #[.agg #[.int .i64 (h 0).t, .int .u64 (h 0).seq, wf (h 0).seq], .bool true]) ∧ n = n' + 1 ∧ (∀ j, j < nl → 0 < m j → bef (q j 0) (h 0) = false) ∧
        ∃ v' h', Blk w' c 33 (cl.setIfInBounds 1 v') ∧ EvRow w' base wf v' n' h' ∧ Heap h' n' ∧ (∀ p, cnt p h' n' + (if p (h 0) then 1 else 0) = cnt p h (n' + 1)) ∧ Fr c v.ownBlock w.heap.size w w' ∧ v'.ownBlock = v.ownBlock) := by
  have hcl := hc.lt
  have hll := hlb.lt
  have c1 : w.cell? ⟨c, 1, none⟩ = some v := by rw [hc.cell]; exact hv
  have c2 : w.cell? ⟨c, 2, none⟩ = some (.slice (some ⟨lb, 0, none⟩) nl cpl) := by rw [hc.cell]; exact hvl
  have hL' : Hid (∀ j, j < nl → LaneAt w base wf (l j) (dly j) (lv j) (q j) (m j)) := hL
  have hLb' : Hid (∀ j, j < nl → l j < base) := hLb
  have hlcs' : Hid (∀ j, j < nl → lcs[j]? = some (.pointer (some ⟨l j, 0, none⟩))) := hlcs
  have hwf' : Hid (∀ s, ∃ o, wf s = .iface 46 (.pointer (some ⟨o, 0, none⟩))) := hwf
  have hr' : Hid (EvRow w base wf v n h) := hr
  have hh' : Hid (Heap h n) := hh
  have hsz' : Hid (cl.size = 6) := hsz
  clear hL hLb hlcs hwf hr hh hsz
  go_enter Yba.func20, Yba.ntmps20
  go_upto_region 3 with fail
  have hb0 : Below w.heap.size w ((w.alloc (.cells #[.int .i64 0, .int .u64 0, .nilIface] 54)).alloc (.cells #[.int .i64 0, .int .u64 0, .nilIface] 54)) := ((Below.refl _ w).alloc (Nat.le_refl _) _).alloc (by simp) _
  have hR0 : Blk ((w.alloc (.cells #[.int .i64 0, .int .u64 0, .nilIface] 54)).alloc (.cells #[.int .i64 0, .int .u64 0, .nilIface] 54)) w.heap.size 54 #[.int .i64 0, .int .u64 0, .nilIface] := (Blk.new w _ _).alloc _
  have hF0 : Blk ((w.alloc (.cells #[.int .i64 0, .int .u64 0, .nilIface] 54)).alloc (.cells #[.int .i64 0, .int .u64 0, .nilIface] 54)) (w.heap.size + 1) 54 #[.int .i64 0, .int .u64 0, .nilIface] := by
    have := Blk.new (w.alloc (.cells #[.int .i64 0, .int .u64 0, .nilIface] 54)) 54 #[.int .i64 0, .int .u64 0, .nilIface]
    simp at this; exact this
  have hs0 : ((w.alloc (.cells #[.int .i64 0, .int .u64 0, .nilIface] 54)).alloc (.cells #[.int .i64 0, .int .u64 0, .nilIface] 54)).heap.size = w.heap.size + 2 := by simp
  obtain ⟨w0, hw0⟩ : ∃ x, x = (w.alloc (.cells #[.int .i64 0, .int .u64 0, .nilIface] 54)).alloc (.cells #[.int .i64 0, .int .u64 0, .nilIface] 54) := ⟨_, rfl⟩
  rw [← hw0] at hb0 hR0 hF0 hs0 ⊢
  clear hw0
  obtain ⟨R, hRv⟩ : ∃ x, x = w.heap.size := ⟨_, rfl⟩
  have hRv' : Hid (R = w.heap.size) := hRv
  rw [← hRv] at hb0 hR0 hF0 hs0 hcl hll hbase ⊢
  clear hRv c1 c2
  have hc0 := hc.below hb0 hcl
  have hlb0 := hlb.below hb0 hll
  have c2 : w0.cell? ⟨c, 2, none⟩ = some (.slice (some ⟨lb, 0, none⟩) nl cpl) := by rw [hc0.cell]; exact hvl
  go_upto_block 0 with fail
  go_cut [4, 7, 8, 9] from 15 to 36 (fun v4 _ _ _ wc => ∃ b, Best q m nl b ∧ Held wc wf l q (R + 1) v4 b ∧ Below R w wc ∧ Blk wc R 54 #[.int .i64 0, .int .u64 0, .nilIface] ∧ R + 2 ≤ wc.heap.size)
  case first =>
    go_wp2
    go_loopw [4, 7, 8, 9, 15] (fun v4 _ _ _ v15 wr => ∃ (i : Nat) (b : Option Nat), v15 = .int .i64 i ∧ i ≤ nl ∧ Best q m i b ∧ Held wr wf l q (R + 1) v4 b ∧ Below R w wr ∧ Blk wr R 54 #[.int .i64 0, .int .u64 0, .nilIface] ∧ R + 2 ≤ wr.heap.size) (fun _ _ _ _ v15 _ => nl - (intOf v15).toNat)
    case atStart => exact ⟨0, none, rfl, Nat.zero_le _, fun j hj => by omega, ⟨rfl, hF0⟩, hb0, hR0, by omega⟩
    case round =>
      obtain ⟨i, b, rfl, hin, hbest, hheld, hbw, hRr, hsr⟩ := hrel
      by_cases hi : i < nl
      · have hLi := (hL'.out i hi).below hbw (by rw [hRv'.out]; exact Nat.le_refl _)
        have hci : wr.cell? ⟨lb, i, none⟩ = some (.pointer (some ⟨l i, 0, none⟩)) := by rw [(hlb.below hbw hll).cell]; exact hlcs'.out i hi
        have hdi : decide (i < nl) = true := decide_eq_true hi
        have hbest' : Hid (Best q m i b) := hbest
        have hheld' : Hid (Held wr wf l q (R + 1) u4 b) := hheld
        clear hbest hheld hc0 hlb0 c2 hb0 hR0 hF0 hs0
        by_cases hm : m i = 0
        · rw [hm] at hLi
          go_wp2_with (go_at_call 31; refine (lane_first_none hLi).mono ?_; rintro ex w2 ⟨rfl, hb2⟩)
          have hs2 := hb2.size
          have hb3 : Below R w (w2.alloc (Obj.cells #[Value.int IntKind.i64 0, Value.int IntKind.u64 0, Value.nilIface] 54)) := (hbw.trans (hb2.mono (by omega))).alloc (by omega) _
          refine ⟨⟨i + 1, b, by simp, hi, hbest'.out.skip hm, ?_, hb3, (hRr.below hb2 (by omega)).alloc _, by simp; omega⟩, by simp [intOf]; omega⟩
          exact (hheld'.out.below hb2 (by omega)).below ((Below.refl (R + 2) w2).alloc (by omega) _) (by omega)
        · obtain ⟨o, ho⟩ := hwf'.out (q i 0).seq
          have hf1 := lane_first_some hLi (by omega) hwf'.out
          rw [ho] at hf1
          have ho' : Hid (wf (q i 0).seq = .iface 46 (.pointer (some ⟨o, 0, none⟩))) := ho
          have hm' : Hid (0 < m i) := Nat.pos_of_ne_zero hm
          clear ho hLi hm
          go_upto_region 7 with (go_at_call 31; refine hf1.mono ?_; rintro ex w2 ⟨rfl, hb2⟩)
          have hs2 := hb2.size
          have hb3 : Below R w (w2.alloc (Obj.cells #[.int .i64 (q i 0).t, .int .u64 (q i 0).seq, .iface 46 (.pointer (some ⟨o, 0, none⟩))] 54)) := (hbw.trans (hb2.mono (by omega))).alloc (by omega) _
          have hR3 : Blk (w2.alloc (Obj.cells #[.int .i64 (q i 0).t, .int .u64 (q i 0).seq, .iface 46 (.pointer (some ⟨o, 0, none⟩))] 54)) R 54 #[.int .i64 0, .int .u64 0, .nilIface] := (hRr.below hb2 (by omega)).alloc _
          have hE3 := Blk.new w2 54 #[.int .i64 (q i 0).t, .int .u64 (q i 0).seq, .iface 46 (.pointer (some ⟨o, 0, none⟩))]
          have hheld3 : Hid (Held (w2.alloc (Obj.cells #[.int .i64 (q i 0).t, .int .u64 (q i 0).seq, .iface 46 (.pointer (some ⟨o, 0, none⟩))] 54)) wf l q (R + 1) u4 b) := (hheld'.out.below hb2 (by omega)).below ((Below.refl (R + 2) w2).alloc (by omega) _) (by omega)
          have hs3 : R + 2 < (w2.alloc (Obj.cells #[.int .i64 (q i 0).t, .int .u64 (q i 0).seq, .iface 46 (.pointer (some ⟨o, 0, none⟩))] 54)).heap.size := by simp; omega
          obtain ⟨w3, hw3⟩ : ∃ x, x = w2.alloc (Obj.cells #[.int .i64 (q i 0).t, .int .u64 (q i 0).seq, .iface 46 (.pointer (some ⟨o, 0, none⟩))] 54) := ⟨_, rfl⟩
          obtain ⟨E, hEv⟩ : ∃ x, x = w2.heap.size := ⟨_, rfl⟩
          rw [← hw3] at hb3 hR3 hE3 hheld3 hs3 ⊢
          rw [← hEv] at hE3 ⊢
          have hER : R + 2 ≤ E := by omega
          clear hw3 hEv hb2 hs2 hheld' hRr hbw hf1
          have z0 := hE3.cell 0
          have z1 := hE3.cell 1
          have z2 := hE3.cell 2
          simp at z0 z1 z2
          cases b with
          | none =>
            obtain ⟨rfl, hF3⟩ := hheld3.out
            have y0 := hF3.cell 0
            have g0 := hF3.frozen 0
            have hF4 := hF3.set 0 (.int .i64 (q i 0).t)
            have y1 := hF4.cell 1
            have g1 := hF4.frozen 1
            have hF5 := hF4.set 1 (.int .u64 (q i 0).seq)
            have y2 := hF5.cell 2
            have g2 := hF5.frozen 2
            have hF6 := hF5.set 2 (.iface 46 (.pointer (some ⟨o, 0, none⟩)))
            simp at y0 y1 y2 hF6
            go_upto_region 8 with fail
            go_region
            all_goals
              go_wp2
              go_roundw
              case rel =>
                refine ⟨i + 1, some i, by simp, hi, hbest'.out.one hm'.out, ⟨rfl, ?_⟩, ?_, ?_, by simp [World.setCell]; omega⟩
                · rw [ho'.out]; exact hF6
                · exact (((below_drewN hb3 1).setCell (by show R ≤ R + 1; omega) _).setCell (by show R ≤ R + 1; omega) _).setCell (by show R ≤ R + 1; omega) _
                · exact ((hR3.setOther ⟨R + 1, 0, none⟩ (.int .i64 (q i 0).t) (by show R ≠ R + 1; omega)).setOther ⟨R + 1, 1, none⟩ (.int .u64 (q i 0).seq) (by show R ≠ R + 1; omega)).setOther ⟨R + 1, 2, none⟩ (.iface 46 (.pointer (some ⟨o, 0, none⟩))) (by show R ≠ R + 1; omega)
              case measure => simp [intOf]; omega
          | some k =>
            obtain ⟨rfl, hF3⟩ := hheld3.out
            obtain ⟨o2, ho2⟩ := hwf'.out (q k 0).seq
            rw [ho2] at hF3
            have ho2' : Hid (wf (q k 0).seq = .iface 46 (.pointer (some ⟨o2, 0, none⟩))) := ho2
            clear ho2
            have y0 := hF3.cell 0
            have y1 := hF3.cell 1
            have y2 := hF3.cell 2
            simp at y0 y1 y2
            have hbf := before_calls (q i 0) (q k 0) (.iface 46 (.pointer (some ⟨o, 0, none⟩))) (.iface 46 (.pointer (some ⟨o2, 0, none⟩)))
            obtain ⟨bf, hbfv⟩ : ∃ b, b = bef (q i 0) (q k 0) := ⟨_, rfl⟩
            rw [← hbfv] at hbf
            have hbfv' : Hid (bf = bef (q i 0) (q k 0)) := hbfv
            clear hbfv
            go_upto_if 33 with (go_at_call 30; refine (hbf _).mono ?_; rintro ex w4 ⟨rfl, hb4⟩)
            have hs4 := hb4.size
            cases bf with
            | false =>
              go_wp2
              refine ⟨⟨i + 1, some k, by simp, hi, hbest'.out.keep hbfv'.out.symm, ⟨rfl, ?_⟩, hb3.trans (hb4.mono (by omega)), hR3.below hb4 (by omega), by omega⟩, by simp [intOf]; omega⟩
              rw [ho2'.out]; exact hF3.below hb4 (by omega)
            | true =>
              have hE5 := hE3.below hb4 hE3.lt
              have hF5 := hF3.below hb4 hF3.lt
              have hR5 := hR3.below hb4 (by omega)
              have hb5 := hb3.trans (hb4.mono (by omega))
              clear z0 z1 z2 y0 y1 y2 hb4 hbf hb3 hR3 hE3 hF3
              have z0 := hE5.cell 0
              have z1 := hE5.cell 1
              have z2 := hE5.cell 2
              simp at z0 z1 z2
              obtain ⟨y0, g0, y1, g1, y2, g2, hF6⟩ := st3 (x := .int .i64 (q i 0).t) (y := .int .u64 (q i 0).seq) (z := .iface 46 (.pointer (some ⟨o, 0, none⟩))) hF5
              go_upto_region 8 with fail
              go_region
              all_goals
                go_wp2
                go_roundw
                case rel =>
                  refine ⟨i + 1, some i, by simp, hi, hbest'.out.take hm'.out hbfv'.out.symm, ⟨rfl, ?_⟩, ?_, ?_, by simp [World.setCell]; omega⟩
                  · rw [ho'.out]; exact hF6
                  · exact (((below_drewN hb5 1).setCell (by show R ≤ R + 1; omega) _).setCell (by show R ≤ R + 1; omega) _).setCell (by show R ≤ R + 1; omega) _
                  · exact ((hR5.setOther ⟨R + 1, 0, none⟩ (.int .i64 (q i 0).t) (by show R ≠ R + 1; omega)).setOther ⟨R + 1, 1, none⟩ (.int .u64 (q i 0).seq) (by show R ≠ R + 1; omega)).setOther ⟨R + 1, 2, none⟩ (.iface 46 (.pointer (some ⟨o, 0, none⟩))) (by show R ≠ R + 1; omega)
                case measure => simp [intOf]; omega
      · have hdi : decide (i < nl) = false := decide_eq_false hi
        obtain rfl : i = nl := by omega
        go_wp2
        go_meet
        case rel => exact ⟨b, hbest, hheld, hbw, hRr, hsr⟩
  case rest =>
    obtain ⟨b, hbest, hheld, hbw, hRc, hsc⟩ := hcut
    have hLw : Hid (∀ k w', k < nl → Below R w w' → ∀ m', m k = m' + 1 → R < w'.heap.size → Blk w' R 54 #[.int .i64 0, .int .u64 0, .nilIface] → Calls Yba.prog 32 #[.pointer (some ⟨l k, 0, none⟩)] w' fun ex w5 => ex = .returned (.agg #[.int .i64 (q k 0).t, .int .u64 (q k 0).seq, wf (q k 0).seq]) ∧
        Blk w5 R 54 #[.int .i64 0, .int .u64 0, .nilIface] ∧ Hid (∀ x y z, ∃ v', LaneAt (((w5.setCell ⟨R, 0, none⟩ x).setCell ⟨R, 1, none⟩ y).setCell ⟨R, 2, none⟩ z) base wf (l k) (dly k) v' (fun j => q k (j + 1)) m' ∧ v'.ownBlock = (lv k).ownBlock ∧ Fr (l k) (lv k).ownBlock R w (((w5.setCell ⟨R, 0, none⟩ x).setCell ⟨R, 1, none⟩ y).setCell ⟨R, 2, none⟩ z))) := by
      intro k w' hk hb' m' hm' hRl hR'
      have hLk := hL'.out k hk
      have hLk' := hLk.below hb' (by rw [hRv'.out]; exact Nat.le_refl _)
      rw [hm'] at hLk'
      refine (lane_pop hLk' (hLb'.out k hk) hwf'.out).mono ?_
      rintro ex w5 ⟨rfl, v', h1, h2, h3⟩
      have hkR : l k < R := by rw [hRv'.out]; exact hLk.lt
      have hgR : ∀ g, (lv k).ownBlock = some g → g < R := fun g hg => by obtain ⟨cs, hcs⟩ := hLk.own_blk hg; rw [hRv'.out]; exact hcs.lt
      have hR5 : Blk w5 R 54 #[.int .i64 0, .int .u64 0, .nilIface] := hR'.of_block (h3.block R hRl (by omega) (by intro e; have := hgR R e.symm; omega))
      refine ⟨rfl, hR5, fun x y z => ⟨v', h1.of_block (heap_other3 _ _ _ _ _ _ (by omega)) (fun g hg => heap_other3 _ _ _ _ _ _ (by rw [h2] at hg; have := hgR g hg; omega)), h2, ?_⟩⟩
      exact ((Fr.of_below hb').trans (h3.mono (by omega))).set3 R x y z (Nat.le_refl _)
    have hPw : Hid (∀ w', Below R w w' → ∀ n', n = n' + 1 → R < w'.heap.size → Blk w' R 54 #[.int .i64 0, .int .u64 0, .nilIface] → Calls Yba.prog 33 #[.pointer (some ⟨c, 1, none⟩)] w' fun ex w5 => ex = .returned (.agg #[.int .i64 (h 0).t, .int .u64 (h 0).seq, wf (h 0).seq]) ∧
        Blk w5 R 54 #[.int .i64 0, .int .u64 0, .nilIface] ∧ Hid (∀ x y z, ∃ v' h', Blk (((w5.setCell ⟨R, 0, none⟩ x).setCell ⟨R, 1, none⟩ y).setCell ⟨R, 2, none⟩ z) c 33 (cl.setIfInBounds 1 v') ∧ EvRow (((w5.setCell ⟨R, 0, none⟩ x).setCell ⟨R, 1, none⟩ y).setCell ⟨R, 2, none⟩ z) base wf v' n' h' ∧ Heap h' n' ∧ (∀ p, cnt p h' n' + (if p (h 0) then 1 else 0) = cnt p h (n' + 1)) ∧
          Fr c v.ownBlock R w (((w5.setCell ⟨R, 0, none⟩ x).setCell ⟨R, 1, none⟩ y).setCell ⟨R, 2, none⟩ z) ∧ v'.ownBlock = v.ownBlock)) := by
      intro w' hb' n' hn' hRl hR'
      subst hn'
      have hr1 := hr'.out.below hb' (by rw [hRv'.out]; exact Nat.le_refl _)
      refine (pop_calls c 1 base n' 33 cl wf v h w' (hc.below hb' hcl) hv hr1 hcb (by omega) hwf'.out hh'.out).mono ?_
      rintro ex w5 ⟨rfl, v', h', h1, h2, h3, h4, h5, h6⟩
      have hgR : ∀ g, v.ownBlock = some g → g < R := fun g hg => by obtain ⟨cs, hcs⟩ := hr'.out.own_blk hg; rw [hRv'.out]; exact hcs.lt
      have hR5 : Blk w5 R 54 #[.int .i64 0, .int .u64 0, .nilIface] := hR'.of_block (h5.block R hRl (by omega) (by intro e; have := hgR R e.symm; omega))
      refine ⟨rfl, hR5, fun x y z => ⟨v', h', h1.of_block (heap_other3 _ _ _ _ _ _ (by omega)), h2.of_block (fun g hg => heap_other3 _ _ _ _ _ _ (by rw [h6] at hg; have := hgR g hg; omega)), h3, h4, ?_, h6⟩⟩
      exact ((Fr.of_below hb').trans (h5.mono (by omega))).set3 R x y z (Nat.le_refl _)
    have hc1 := hc.below hbw hcl
    have c1 : wc.cell? ⟨c, 1, none⟩ = some v := by rw [hc1.cell]; exact hv
    have hr1 := hr'.out.below hbw (by rw [hRv'.out]; exact Nat.le_refl _)
    clear hc0 hlb0 hb0 hR0 hF0 hs0 c2
    obtain ⟨va, vc, rfl⟩ := len_of hr'.out
    cases b with
    | none =>
      obtain ⟨rfl, hF⟩ := hheld
      have hbest' : Hid (∀ j, j < nl → m j = 0) := hbest
      clear hbest hF
      go_upto_region 10 with fail
      go_cut [37] from 38 to 57 (fun v37 wx => v37 = .bool false ∧ ∃ nq, wx = wc.drewN nq)
      case first =>
        go_quiet (fail)
        go_wp2
        go_meet
        case rel => exact ⟨by first | rfl | simp, _, rfl⟩
      case rest =>
        obtain ⟨rfl, nq, hwx⟩ := hcut
        have hbX : Below R w wc := by rw [hwx]; exact below_drewN hbw nq
        have hRX : Blk wc R 54 #[.int .i64 0, .int .u64 0, .nilIface] := by rw [hwx]; exact hRc
        have c1X : wc.cell? ⟨c, 1, none⟩ = some (.slice va n vc) := by rw [hwx]; exact c1
        clear hwx c1 hbw hRc hc1 hr1 hsc
        by_cases hn0 : n = 0
        · have hdn : decide (0 < n) = false := decide_eq_false (by omega)
          have hn0' : Hid (n = 0) := hn0
          clear hn0
          obtain ⟨y0, g0, y1, g1, y2, g2, hR6⟩ := st3 (x := .int .i64 0) (y := .int .u64 0) (z := .nilIface) hRX
          have e0 := hR6.cell 0
          have e1 := hR6.cell 1
          have e2 := hR6.cell 2
          simp at e0 e1 e2
          go_wp2
          (try simp only [Exit.inBlock, Exit.then])
          refine bodyPost_ret (by simp [results, Yba.results20, go_sem, e0, e1, e2]; try rfl) rfl ?_
          rw [← hRv'.out]
          exact Or.inl ⟨rfl, hn0'.out, hbest'.out, ((hbX.setCell (by exact Nat.le_refl R) _).setCell (by exact Nat.le_refl R) _).setCell (by exact Nat.le_refl R) _⟩
        · obtain ⟨n', hn'⟩ : ∃ n', n = n' + 1 := ⟨n - 1, by omega⟩
          have hn2' : Hid (n = n' + 1) := hn'
          have hdn : decide (0 < n) = true := decide_eq_true (by omega)
          have hPc := hPw.out wc hbX n' hn' (by exact hRX.lt) hRX
          obtain ⟨o, ho⟩ := hwf'.out (h 0).seq
          rw [ho] at hPc
          have ho' : Hid (wf (h 0).seq = .iface 46 (.pointer (some ⟨o, 0, none⟩))) := ho
          clear hn' ho
          go_wp2_with (go_at_call 33; refine hPc.mono ?_; rintro ex w5 ⟨rfl, hR5, hpost⟩; obtain ⟨y0, g0, y1, g1, y2, g2, hR6⟩ := st3 (x := .int .i64 (h 0).t) (y := .int .u64 (h 0).seq) (z := .iface 46 (.pointer (some ⟨o, 0, none⟩))) hR5)
          have e0 := hR6.cell 0
          have e1 := hR6.cell 1
          have e2 := hR6.cell 2
          simp at e0 e1 e2
          (try simp only [Exit.inBlock, Exit.then])
          refine bodyPost_ret (by simp [results, Yba.results20, go_sem, e0, e1, e2]; try rfl) rfl ?_
          rw [← hRv'.out]
          exact Or.inr (Or.inr ⟨n', by rw [ho'.out], hn2'.out, fun j hj hm => by have := hbest'.out j hj; omega, hpost.out _ _ _⟩)
          
    | some k =>
      obtain ⟨rfl, hF⟩ := hheld
      have hbest' : Hid (Best q m nl (some k)) := hbest
      clear hbest
      by_cases hn0 : n = 0
      · have hdn : ((n : Int) == 0) = true := by simp; omega
        have hn0' : Hid (n = 0) := hn0
        clear hn0
        go_upto_region 10 with fail
        go_cut [37] from 38 to 57 (fun v37 wx => v37 = .bool true ∧ ∃ nq, wx = wc.drewN nq)
        case first =>
          go_quiet (fail)
          go_wp2
          go_meet
          case rel => exact ⟨by first | rfl | simp, _, rfl⟩
        case rest =>
          obtain ⟨rfl, nq, hwx⟩ := hcut
          have hbX : Below R w wc := by rw [hwx]; exact below_drewN hbw nq
          have hRX : Blk wc R 54 #[.int .i64 0, .int .u64 0, .nilIface] := by rw [hwx]; exact hRc
          clear hwx c1 hbw hRc hc1 hr1 hsc hdn
          obtain ⟨m', hm'⟩ : ∃ m', m k = m' + 1 := ⟨m k - 1, by have := hbest'.out.2.1; omega⟩
          have hm2' : Hid (m k = m' + 1) := hm'
          have hLc := hLw.out k wc (hbest'.out.1) hbX m' hm' (by exact hRX.lt) hRX
          obtain ⟨o, ho⟩ := hwf'.out (q k 0).seq
          rw [ho] at hLc
          have ho' : Hid (wf (q k 0).seq = .iface 46 (.pointer (some ⟨o, 0, none⟩))) := ho
          clear hm' ho
          go_wp2_with (go_at_call 32; refine hLc.mono ?_; rintro ex w5 ⟨rfl, hR5, hpost⟩; obtain ⟨y0, g0, y1, g1, y2, g2, hR6⟩ := st3 (x := .int .i64 (q k 0).t) (y := .int .u64 (q k 0).seq) (z := .iface 46 (.pointer (some ⟨o, 0, none⟩))) hR5)
          have e0 := hR6.cell 0
          have e1 := hR6.cell 1
          have e2 := hR6.cell 2
          simp at e0 e1 e2
          (try simp only [Exit.inBlock, Exit.then])
          refine bodyPost_ret (by simp [results, Yba.results20, go_sem, e0, e1, e2]; try rfl) rfl ?_
          rw [← hRv'.out]
          exact Or.inr (Or.inl ⟨k, m', by rw [ho'.out], hbest'.out.1, hm2'.out, hbest'.out.2.2, fun hn => by have := hn0'.out; omega, hpost.out _ _ _⟩)
          
      · rcases hr1 with ⟨_, h0⟩ | ⟨g, cap, cs, hvv, hg, hb, hle, hcap, hsz, hcells⟩
        · exact absurd h0 hn0
        have hgl := hb.lt
        cases hvv
        obtain ⟨o, ho⟩ := hwf'.out (h 0).seq
        obtain ⟨o2, ho2⟩ := hwf'.out (q k 0).seq
        have cf0 : wc.cell? ⟨g, 0, none⟩ = some (.int .i64 (h 0).t) := by rw [hb.cell]; exact hcells 0 0 (by omega) (by omega)
        have cf1 : wc.cell? ⟨g, 1, none⟩ = some (.int .u64 (h 0).seq) := by rw [hb.cell]; exact hcells 0 1 (by omega) (by omega)
        have cf2 : wc.cell? ⟨g, 2, none⟩ = some (.iface 46 (.pointer (some ⟨o, 0, none⟩))) := by rw [hb.cell, ← ho]; exact hcells 0 2 (by omega) (by omega)
        rw [ho2] at hF
        have z0 := hF.cell 0
        have z1 := hF.cell 1
        have z2 := hF.cell 2
        simp at z0 z1 z2
        have hdn : ((n : Int) == 0) = false := by simp; omega
        have hn0b : 0 < n := by omega
        have hbf := before_calls (q k 0) (h 0) (.iface 46 (.pointer (some ⟨o2, 0, none⟩))) (.iface 46 (.pointer (some ⟨o, 0, none⟩)))
        obtain ⟨bf, hbfv⟩ : ∃ b, b = bef (q k 0) (h 0) := ⟨_, rfl⟩
        rw [← hbfv] at hbf
        have hbfv' : Hid (bf = bef (q k 0) (h 0)) := hbfv
        clear hbfv ho ho2 hn0 hcells hsz
        go_upto_region 10 with fail
        go_cut [37] from 38 to 57 (fun v37 wx => v37 = .bool bf ∧ Below wc.heap.size wc wx)
        case first =>
          go_region_with (go_at_call 30; refine (hbf _).mono ?_; rintro ex w3 ⟨rfl, hb3⟩; have hb3' : Below wc.heap.size wc w3 := (by refine Below.trans ?_ hb3; exact ⟨rfl, rfl, rfl, Nat.le_refl _, fun _ _ => rfl⟩))
          all_goals
            go_wp2
            go_meet
            case rel => exact ⟨by first | rfl | simp, hb3'⟩
        case rest =>
          obtain ⟨rfl, hbx⟩ := hcut
          have hbX : Below R w wc := hbw.trans (hbx.mono (by omega))
          have hRX : Blk wc R 54 #[.int .i64 0, .int .u64 0, .nilIface] := hRc.below hbx hRc.lt
          have c1X : wc.cell? ⟨c, 1, none⟩ = some (.slice (some ⟨g, 0, none⟩) n vc) := by rw [hbx.cell (by exact hc1.lt)]; exact c1
          clear hbx c1 hbw hRc hc1 hsc cf0 cf1 cf2 z0 z1 z2 hF hb hbf hdn
          cases bf with
          | true =>
            obtain ⟨m', hm'⟩ : ∃ m', m k = m' + 1 := ⟨m k - 1, by have := hbest'.out.2.1; omega⟩
            have hm2' : Hid (m k = m' + 1) := hm'
            have hLc := hLw.out k wc (hbest'.out.1) hbX m' hm' (by exact hRX.lt) hRX
            obtain ⟨o, ho⟩ := hwf'.out (q k 0).seq
            rw [ho] at hLc
            have ho' : Hid (wf (q k 0).seq = .iface 46 (.pointer (some ⟨o, 0, none⟩))) := ho
            clear hm' ho
            go_wp2_with (go_at_call 32; refine hLc.mono ?_; rintro ex w5 ⟨rfl, hR5, hpost⟩; obtain ⟨y0, g0, y1, g1, y2, g2, hR6⟩ := st3 (x := .int .i64 (q k 0).t) (y := .int .u64 (q k 0).seq) (z := .iface 46 (.pointer (some ⟨o, 0, none⟩))) hR5)
            have e0 := hR6.cell 0
            have e1 := hR6.cell 1
            have e2 := hR6.cell 2
            simp at e0 e1 e2
            (try simp only [Exit.inBlock, Exit.then])
            refine bodyPost_ret (by simp [results, Yba.results20, go_sem, e0, e1, e2]; try rfl) rfl ?_
            rw [← hRv'.out]
            exact Or.inr (Or.inl ⟨k, m', by rw [ho'.out], hbest'.out.1, hm2'.out, hbest'.out.2.2, fun hn => le_of_bef hbfv'.out.symm, hpost.out _ _ _⟩)
            
          | false =>
            obtain ⟨n', hn'⟩ : ∃ n', n = n' + 1 := ⟨n - 1, by omega⟩
            have hn2' : Hid (n = n' + 1) := hn'
            have hdn : decide (0 < n) = true := decide_eq_true (by omega)
            have hPc := hPw.out wc hbX n' hn' (by exact hRX.lt) hRX
            obtain ⟨o, ho⟩ := hwf'.out (h 0).seq
            rw [ho] at hPc
            have ho' : Hid (wf (h 0).seq = .iface 46 (.pointer (some ⟨o, 0, none⟩))) := ho
            clear hn' ho
            go_wp2_with (go_at_call 33; refine hPc.mono ?_; rintro ex w5 ⟨rfl, hR5, hpost⟩; obtain ⟨y0, g0, y1, g1, y2, g2, hR6⟩ := st3 (x := .int .i64 (h 0).t) (y := .int .u64 (h 0).seq) (z := .iface 46 (.pointer (some ⟨o, 0, none⟩))) hR5)
            have e0 := hR6.cell 0
            have e1 := hR6.cell 1
            have e2 := hR6.cell 2
            simp at e0 e1 e2
            (try simp only [Exit.inBlock, Exit.then])
            refine bodyPost_ret (by simp [results, Yba.results20, go_sem, e0, e1, e2]; try rfl) rfl ?_
            rw [← hRv'.out]
            exact Or.inr (Or.inr ⟨n', by rw [ho'.out], hn2'.out, fun j hj hm => le_trans' hbfv'.out.symm (hbest'.out.2.2 j hj hm), hpost.out _ _ _⟩)
            
end Go.Proofs.Ybulkeeeq
