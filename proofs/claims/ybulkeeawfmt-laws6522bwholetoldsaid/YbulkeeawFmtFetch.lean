import Derived.Test.YbulkeeawFmtStopAt
import Derived.Test.YbulkeeawFmtLib
import Derived.Deep.RegionWith
namespace Go.Proofs.YbulkeeawFmt
open Go.RowKit
set_option linter.unusedVariables false

/-- All but three blocks below B is as it was. -/
structure Ex (K a b B : Nat) (w w' : World) : Prop where
  os : w'.os = w.os
  tape : w'.tape = w.tape
  output : w'.output = w.output
  size : w.heap.size ≤ w'.heap.size
  block : ∀ k, k < B → k ≠ K → k ≠ a → k ≠ b → w'.heap[k]? = w.heap[k]?
theorem Ex.trans {K a b B : Nat} {x y z : World} (h : Ex K a b B x y) (k : Ex K a b B y z) : Ex K a b B x z :=
  ⟨k.os.trans h.os, k.tape.trans h.tape, k.output.trans h.output, Nat.le_trans h.size k.size, fun i hi h1 h2 h3 => (k.block i hi h1 h2 h3).trans (h.block i hi h1 h2 h3)⟩
theorem Ex.of_below {K a b B : Nat} {w w' : World} (h : Below B w w') : Ex K a b B w w' := ⟨h.os, h.tape, h.output, h.size, fun k hk _ _ _ => h.block k hk⟩
theorem Ex.of_but {K a b B : Nat} {w w' : World} (h : But K B w w') : Ex K a b B w w' := ⟨h.os, h.tape, h.output, h.size, fun k hk h1 _ _ => h.block k hk h1⟩
theorem Ex.setCell {K a b B : Nat} {x w : World} (h : Ex K a b B x w) (g j : Nat) (v : Value) (hg : g = K ∨ g = a ∨ g = b) : Ex K a b B x (w.setCell ⟨g, j, none⟩ v) :=
  h.trans ⟨rfl, rfl, rfl, by simp [World.setCell], fun k _ h1 h2 h3 => Below.heap_setCell _ _ _ _ (by show k ≠ g; omega)⟩
theorem Ex.drewN {K a b B : Nat} {x w : World} (h : Ex K a b B x w) (n : Nat) : Ex K a b B x (w.drewN n) := h.trans ⟨rfl, rfl, rfl, Nat.le_refl _, fun _ _ _ _ _ => rfl⟩
theorem Ex.mono {K a b B B' : Nat} {w w' : World} (h : Ex K a b B w w') (hB : B' ≤ B) : Ex K a b B' w w' := ⟨h.os, h.tape, h.output, h.size, fun k hk => h.block k (Nat.lt_of_lt_of_le hk hB)⟩

theorem Tr.of_blocks {w w' : World} {T sp : Nat} {kb : Nat → Nat} {m : Nat} (h : Tr w T sp kb m) (hs : w.heap.size ≤ w'.heap.size) (h1 : w'.heap[T]? = w.heap[T]?) (h2 : w'.heap[sp]? = w.heap[sp]?) : Tr w' T sp kb m := by
  have hc : ∀ j, w'.cell? ⟨sp, j, none⟩ = w.cell? ⟨sp, j, none⟩ := fun j => World.cell?_of_block (w := w) h2
  refine ⟨?_, by have := h.lt; omega, fun q hq => by rw [hc]; exact h.s0 q hq, fun q hq => by rw [hc]; exact h.s1 q hq, fun q hq => by rw [hc]; exact h.s2 q hq, fun q hq => by rw [hc]; exact h.s3 q hq, h.m1, h.m2, h.k5⟩
  have := h.blk
  unfold Blk at this ⊢
  rw [h1]; exact this

set_option maxHeartbeats 1000000 in
theorem moveTo_calls (K T sp : Nat) (kb : Nat → Nat) (m off C cs lb nL cL st buf last slot used sb ly cLy sta cSt old held wst : Nat) (sr : Nat → Bool) (t b1 : Nat) (w : World)
    (h : Tr w T sp kb m) (hK : Blk w K 44 (cliV T off C cs lb nL cL st buf last slot used sb ly cLy sta cSt old held wst)) (hKT : T ≠ K) (hKs : sp ≠ K) (hsta : sta ≠ K) (hstl : sta < w.heap.size)
    (hsr : ∀ q, q < C → w.cell? ⟨sta, q, none⟩ = some (.bool (sr q)))
    (hoff : off ≤ 64) (ht : 1 ≤ t) (ht1 : t ≤ 63) (hC : C ≤ 64) (hcs : cs ≤ 64) (hst : st ≤ 64) (hold : 1 ≤ old) (hold1 : old ≤ C + 1) (hheld : held ≤ 64) (hcnt : cntT sr (old - 1) (C + 1 - old) ≤ held)
    (hb1 : Hid (b1 = W kb m (off + t - 1) 1)) :
    Calls Ybaf.prog 17 #[.pointer (some ⟨K, 0, none⟩), .int .i64 t] w fun e w' => e = .returned (.tuple #[]) ∧ ∃ o hd, Blk w' K 44 (cliV T off C cs lb nL cL st buf last t 0 b1 ly cLy sta cSt o hd wst) ∧ But K w.heap.size w w' ∧
      (old ≤ o ∧ o ≤ C + 1 ∧ (∀ q, old ≤ q → q < o → dl cs st (q - 1) < t) ∧ (o = C + 1 ∨ t ≤ dl cs st (o - 1)) ∧ hd + cntT sr (old - 1) (o - old) = held) := by
  have hs := stop_calls K T sp kb m off C cs lb nL cL st buf last slot used sb ly cLy sta cSt old held wst sr t 0 t 0 b1 b1 w h hK hKT hKs hsta hstl hsr hoff ht ht1 hC hcs hst hold hold1 hheld hcnt (by omega) hb1 hb1 (Or.inr ⟨by omega, rfl, rfl⟩)
  clear hsr hcnt h hK
  go_enter Ybaf.func17, Ybaf.ntmps17
  go_wp2_with (go_at_call 13; refine hs.mono ?_; rintro e w1 ⟨rfl, hpost⟩)
  go_end0
  exact ⟨rfl, hpost⟩

/-- Nothing but draws lies between. -/
structure Same (w w' : World) : Prop where
  os : w'.os = w.os
  tape : w'.tape = w.tape
  output : w'.output = w.output
  heap : w'.heap = w.heap
theorem Same.tr {w w' : World} (hs : Same w w') {T sp : Nat} {kb : Nat → Nat} {m : Nat} (h : Tr w T sp kb m) : Tr w' T sp kb m :=
  h.of_blocks (by rw [hs.heap]; exact Nat.le_refl _) (by rw [hs.heap]) (by rw [hs.heap])
theorem Same.blk {w w' : World} (hs : Same w w') {g : Nat} {T : TypeId} {cs : Array Value} (h : Blk w g T cs) : Blk w' g T cs := by
  unfold Blk at h ⊢; rw [hs.heap]; exact h
theorem Same.row {w w' : World} (hs : Same w w') {g : Nat} {T : TypeId} {n : Nat} {f : Nat → Value} (h : Row w g T n f) : Row w' g T n f := h.of_block (by rw [hs.heap])
theorem Same.ex {w w' : World} (hs : Same w w') (K a b B : Nat) : Ex K a b B w w' := ⟨hs.os, hs.tape, hs.output, by rw [hs.heap]; exact Nat.le_refl _, fun k _ _ _ _ => by rw [hs.heap]⟩
theorem Same.below {w w' : World} (hs : Same w w') (B : Nat) : Below B w w' := ⟨hs.os, hs.tape, hs.output, by rw [hs.heap]; exact Nat.le_refl _, fun k _ => by rw [hs.heap]⟩
theorem Same.size {w w' : World} (hs : Same w w') : w'.heap.size = w.heap.size := by rw [hs.heap]

/-- How a request goes. -/
def Way (kb : Nat → Nat) (m off slot used left need D wst t0 u0 wst0 add : Nat) : Prop :=
  (need ≤ left ∧ t0 = slot ∧ u0 = used + need ∧ wst0 = wst ∧ add = 1) ∨
  (left < need ∧ slot < t0 ∧ t0 ≤ D ∧ W kb m (off + slot) (t0 - slot - 1) < need - left ∧ need - left ≤ W kb m (off + slot) (t0 - slot) ∧ u0 + W kb m (off + slot) (t0 - slot - 1) = need - left ∧ wst0 = wst ∧ add = 1) ∨
  (left < need ∧ W kb m (off + slot) (D - slot) < need - left ∧ t0 = D + 1 ∧ u0 = 0 ∧ wst0 = wst + left + W kb m (off + slot) (D - slot) ∧ add = 0)

set_option maxHeartbeats 4000000 in
set_option maxRecDepth 100000 in
theorem fetch_calls (K T sp : Nat) (kb : Nat → Nat) (m off C cs lb nL cL st buf last slot used sb ly cLy sta cSt old held wst : Nat) (L : Nat → Nat) (sr : Nat → Bool) (lbf : Nat → Nat) (i need D left t0 u0 wst0 add t2 u2 b1 b2 : Nat) (w : World)
    (h : Tr w T sp kb m) (hK : Blk w K 44 (cliV T off C cs lb nL cL st buf last slot used sb ly cLy sta cSt old held wst))
    (hly : Row w ly 3 C (fun q => .int .i64 (L q : Nat))) (hsr : Row w sta 4 C (fun q => .bool (sr q))) (hlb : Row w lb 2 nL (fun q => .int .i64 (lbf q : Nat)))
    (d1 : T ≠ K) (d2 : sp ≠ K) (d3 : sta ≠ K) (d4 : ly ≠ K) (d5 : lb ≠ K) (d6 : T ≠ sta) (d7 : sp ≠ sta) (d8 : ly ≠ sta) (d9 : lb ≠ sta) (d10 : T ≠ ly) (d11 : sp ≠ ly) (d12 : lb ≠ ly)
    (hoff : off ≤ 64) (hs1 : 1 ≤ slot) (hsD : slot ≤ D) (hD1 : D ≤ 62) (hD : Hid (D = dl cs st (i - 1))) (hC : C ≤ 64) (hcs : cs ≤ 64) (hst : st ≤ 64) (hold : 1 ≤ old) (hoi : old ≤ i) (hiC : i ≤ C) (hheld : Hid (held = cntT sr (old - 1) (C + 1 - old)))
    (hsb : sb ≤ 5000) (hused : used + left = sb) (hneed : Hid (need = lbf (L (i - 1)))) (hn1 : need ≤ 10000) (hk : L (i - 1) < nL) (hnL : nL ≤ 70000) (hw : wst ≤ 100000)
    (hway : Hid (Way kb m off slot used left need D wst t0 u0 wst0 add))
    (hb1 : Hid (b1 = W kb m (off + t0 - 1) 1)) (hb2 : Hid (b2 = W kb m (off + t2 - 1) 1)) (hfull : Hid ((0 < u0 ∧ u0 = b1 ∧ t2 = t0 + 1 ∧ u2 = 0) ∨ (¬ (0 < u0 ∧ u0 = b1) ∧ t2 = t0 ∧ u2 = u0))) :
    Calls Ybaf.prog 7 #[.pointer (some ⟨K, 0, none⟩), .int .i64 i] w fun e w' => e = .returned (.tuple #[]) ∧ ∃ o hd, Blk w' K 44 (cliV T off C cs lb nL cL st buf last t2 u2 b2 ly cLy sta cSt o hd wst0) ∧
      Row w' ly 3 C (fun q => .int .i64 (if q = i - 1 then L q + add else L q : Nat)) ∧ Row w' sta 4 C (fun q => .bool (if q = i - 1 then true else sr q)) ∧ Ex K ly sta w.heap.size w w' ∧
      (old ≤ o ∧ o ≤ C + 1 ∧ (∀ q, old ≤ q → q < o → dl cs st (q - 1) < t2) ∧ (o = C + 1 ∨ t2 ≤ dl cs st (o - 1)) ∧
        hd + cntT (fun q => if q = i - 1 then true else sr q) (old - 1) (o - old) = cntT (fun q => if q = i - 1 then true else sr q) (old - 1) (C + 1 - old)) := by
  have hKl := hK.lt
  have hlyl := hly.lt
  have hstl := hsr.lt
  have hlbl := hlb.lt
  have hTl := h.blk.lt
  have hspl := h.lt
  obtain ⟨p, hp⟩ : ∃ p, p = i - 1 := ⟨_, rfl⟩
  rw [← hp] at hk hneed hD ⊢
  have hp1 : (i : Int) - 1 = (p : Int) := by omega
  have hpC : p < C := by omega
  obtain ⟨k, hk'⟩ : ∃ k, k = L p := ⟨_, rfl⟩
  rw [← hk'] at hk hneed
  have cly := hly.cell hpC
  have csr := hsr.cell hpC
  simp only [← hk'] at cly
  obtain ⟨sr2, hsr2⟩ : ∃ sr2 : Nat → Bool, sr2 = fun q => if q = p then true else sr q := ⟨_, rfl⟩
  rw [← hsr2]
  obtain ⟨held2, hh2⟩ : ∃ x, x = cntT sr2 (old - 1) (C + 1 - old) := ⟨_, rfl⟩
  rw [← hh2]
  have hh2b : held2 ≤ 64 := by rw [hh2]; have := cntT_le sr2 (old - 1) (C + 1 - old); omega
  have hhb : held ≤ 64 := by rw [hheld.out]; have := cntT_le sr (old - 1) (C + 1 - old); omega
  have hstep : held2 = held + (if sr p then 0 else 1) := by
    rw [hh2, hheld.out, hsr2]
    cases e : sr p with
    | false => rw [cntT_set sr (old - 1) p e _ (by omega), if_pos (by omega)]; simp
    | true => rw [cntT_same sr (old - 1) p e]; simp
  have hh2' : Hid (held2 = cntT sr2 (old - 1) (C + 1 - old)) := hh2
  have hstep' : Hid (held2 = held + (if sr p then 0 else 1)) := hstep
  have hsr2' : Hid (sr2 = fun q => if q = p then true else sr q) := hsr2
  have hk2 : Hid (k = L p) := hk'
  have hp2 : Hid (p = i - 1) := hp
  clear hh2 hstep hsr2 hk' hp
  have g1 : decide (i < old) = false := decide_eq_false (by omega)
  have g2 : ((k : Int) == (nL : Int)) = false := by simp; omega
  have hLay := fun w => layers_calls cs (some ⟨lb, 0, none⟩) nL cL w
  have hca := cli_at hK
  obtain ⟨c0, c1, c2, c3, c4, c5, c6, c7, c8, c9, c10, c11, c12, c13, c14, c15, c16, c17⟩ := hca
  go_enter Ybaf.func7, Ybaf.ntmps7
  go_upto_region 4 with (go_at_call 10; refine (hLay _).mono ?_; rintro e w1 ⟨rfl, hbe1⟩)
  have hbw1 : Below w.heap.size w w1 := ((Below.refl _ w).alloc (Nat.le_refl _) _).trans (hbe1.mono (by simp))
  have hbx : Blk w1 w.heap.size 37 #[.pointer (some ⟨T, 0, none⟩), .int .i64 off, .int .i64 C, .int .i64 cs, .slice (some ⟨lb, 0, none⟩) nL cL, .int .i64 st, .int .i64 buf, .string ByteArray.empty] := (Blk.new w 37 _).below hbe1 (by simp)
  have hK1 := hK.below hbw1 hKl
  have hly1 := hly.below hbw1 hlyl
  have hsr1 := hsr.below hbw1 hstl
  clear c0 c1 c2 c3 c4 c5 c6 c7 c8 c9 c10 c11 c12 c13 c14 c15 c16 c17 hbe1 cly csr g1 g2
  have c14 := (cli_at hK1).c14
  have c16 := (cli_at hK1).c16
  have csr := hsr1.cell hpC
  go_upto_if 56 with fail
  go_cut [] from 6 (fun wc => Blk wc K 44 (cliV T off C cs lb nL cL st buf last slot used sb ly cLy sta cSt old held2 wst) ∧ Row wc sta 4 C (fun q => .bool (sr2 q)) ∧ Row wc ly 3 C (fun q => .int .i64 (L q : Nat)) ∧ Blk wc w.heap.size 37 #[.pointer (some ⟨T, 0, none⟩), .int .i64 off, .int .i64 C, .int .i64 cs, .slice (some ⟨lb, 0, none⟩) nL cL, .int .i64 st, .int .i64 buf, .string ByteArray.empty] ∧ Ex K ly sta w.heap.size w wc)
  case first =>
    cases hsp : sr p with
    | true =>
      rw [hsp] at csr
      go_wp2
      go_meet
      case rel =>
        have e1 : held2 = held := by have := hstep'.out; rw [hsp] at this; simpa using this
        subst e1
        refine ⟨hK1, hsr1.congr fun q hq => ?_, hly1, hbx, Ex.of_below hbw1⟩
        rw [hsr2'.out]
        by_cases e : q = p
        · subst e; simp [hsp]
        · simp [e]
    | false =>
      rw [hsp] at csr
      have f1 := hsr1.frozen p
      have hK2 := hK1.setOther ⟨sta, p, none⟩ (.bool true) (Ne.symm d3)
      have c16' := (cli_at hK2).c16
      have c14' := (cli_at hK2).c14
      have f2 := hK2.frozen 16
      go_wp2
      go_meet
      case rel =>
        have e1 : held2 = held + 1 := by have := hstep'.out; rw [hsp] at this; simpa using this
        subst e1
        refine ⟨hK2.set 16 _, (((hsr1.set hpC (.bool true)).setOther _ _ d3).congr fun q hq => ?_), (hly1.setOther _ _ d8).setOther _ _ d4, (hbx.setOther _ _ (by show w.heap.size ≠ sta; omega)).setOther _ _ (by show w.heap.size ≠ K; omega), ((Ex.of_below hbw1).setCell sta p _ (by omega)).setCell K 16 _ (by omega)⟩
        rw [hsr2'.out]
        by_cases e : q = p
        · subst e; simp
        · simp [e]
  case rest =>
    obtain ⟨hKc, hsrc, hlyc, hbxc, hexc⟩ := hcut
    have hlbc := hlb.of_block (hexc.block lb hlbl d5 d12 d9)
    have hTc := h.of_blocks hexc.size (hexc.block T hTl d1 d10 d6) (hexc.block sp hspl d2 d11 d7)
    clear hK1 hly1 hsr1 hbx hbw1 c14 c16 csr hK hly hsr h hlb hLay
    have z3 := hbxc.cell 3
    have z4 := hbxc.cell 4
    simp at z3 z4
    have clb := hlbc.cell hk
    simp only [← hneed.out] at clb
    have hLB := layerBits_calls cs lb nL cL k need wc hk clb
    clear clb
    go_upto_region 8 with (go_at_call 12; refine hLB.mono ?_; rintro e w2 ⟨rfl, hb2⟩)
    clear hLB
    have hK2 := hKc.below hb2 hKc.lt
    have hsr2 := hsrc.below hb2 hsrc.lt
    have hly2 := hlyc.below hb2 hlyc.lt
    have hbx2 := hbxc.below hb2 hbxc.lt
    have hT2 := hTc.grown hb2
    have hex2 : Ex K ly sta w.heap.size w w2 := hexc.trans (Ex.of_below (hb2.mono hexc.size))
    clear hKc hsrc hlyc hbxc hTc hexc hlbc z3 z4 hb2
    obtain ⟨c0, c1, c2, c3, c4, c5, c6, c7, c8, c9, c10, c11, c12, c13, c14, c15, c16, c17⟩ := cli_at hK2
    have hleft : (sb : Int) - (used : Int) = (left : Int) := by omega
    go_quiet (fail)
    have hsz := hex2.size
    have cly : (w2.drewN nq).cell? ⟨ly, p, none⟩ = some (.int .i64 k) := by have := hly2.cell hpC; simp only [← hk2.out] at this; exact this
    have fly : (w2.drewN nq).frozen? ⟨ly, p, none⟩ = false := hly2.frozen p
    obtain ⟨Fin, hFin⟩ : ∃ Fin : World → Prop, Fin = fun w' => ∃ o hd, Blk w' K 44 (cliV T off C cs lb nL cL st buf last t2 u2 b2 ly cLy sta cSt o hd wst0) ∧
      Row w' ly 3 C (fun q => .int .i64 (if q = p then L q + add else L q : Nat)) ∧ Row w' sta 4 C (fun q => .bool (sr2 q)) ∧ Ex K ly sta w.heap.size w w' ∧
      (old ≤ o ∧ o ≤ C + 1 ∧ (∀ q, old ≤ q → q < o → dl cs st (q - 1) < t2) ∧ (o = C + 1 ∨ t2 ≤ dl cs st (o - 1)) ∧
        hd + cntT sr2 (old - 1) (o - old) = held2) := ⟨_, rfl⟩
    have hbds : 1 ≤ t0 ∧ t0 ≤ 63 ∧ u0 ≤ 1000000 := by
      rcases hway.out with h1 | h1 | h1
      · omega
      · omega
      · omega
    have hend : ∀ w' w3 : World, Ex K ly sta w.heap.size w w' → Row w' sta 4 C (fun q => .bool (sr2 q)) → Row w' ly 3 C (fun q => .int .i64 (if q = p then L q + add else L q : Nat)) →
        (∃ o hd, Blk w3 K 44 (cliV T off C cs lb nL cL st buf last t2 u2 b2 ly cLy sta cSt o hd wst0) ∧ But K w'.heap.size w' w3 ∧
          (old ≤ o ∧ o ≤ C + 1 ∧ (∀ q, old ≤ q → q < o → dl cs st (q - 1) < t2) ∧ (o = C + 1 ∨ t2 ≤ dl cs st (o - 1)) ∧ hd + cntT sr2 (old - 1) (o - old) = held2)) → Fin w3 := by
      intro w' w3 hex hrs hrl hp
      obtain ⟨o, hd, q1, q2, q3⟩ := hp
      rw [hFin]
      exact ⟨o, hd, q1, hrl.of_block (q2.block ly hrl.lt d4), hrs.of_block (q2.block sta hrs.lt d3), hex.trans (Ex.of_but (q2.mono hex.size)), q3⟩
    have hgo : ∀ w3, Fin w3 → ∃ o hd, Blk w3 K 44 (cliV T off C cs lb nL cL st buf last t2 u2 b2 ly cLy sta cSt o hd wst0) ∧
      Row w3 ly 3 C (fun q => .int .i64 (if q = p then L q + add else L q : Nat)) ∧ Row w3 sta 4 C (fun q => .bool (if q = p then true else sr q)) ∧ Ex K ly sta w.heap.size w w3 ∧
      (old ≤ o ∧ o ≤ C + 1 ∧ (∀ q, old ≤ q → q < o → dl cs st (q - 1) < t2) ∧ (o = C + 1 ∨ t2 ≤ dl cs st (o - 1)) ∧
        hd + cntT sr2 (old - 1) (o - old) = held2) := by
      intro w3 h3
      rw [hFin] at h3
      obtain ⟨o, hd, x1, x2, x3, x4, x5⟩ := h3
      exact ⟨o, hd, x1, x2, x3.congr (fun q _ => by rw [hsr2'.out]), x4, x5⟩
    have hstop : ∀ wA : World, Blk wA K 44 (cliV T off C cs lb nL cL st buf last slot used sb ly cLy sta cSt old held2 wst0) → Tr wA T sp kb m → Row wA sta 4 C (fun q => .bool (sr2 q)) → Row wA ly 3 C (fun q => .int .i64 (if q = p then L q + add else L q : Nat)) → Ex K ly sta w.heap.size w wA →
        ∀ w', Below wA.heap.size wA w' → Calls Ybaf.prog 13 #[.pointer (some ⟨K, 0, none⟩), .int .i64 t0, .int .i64 u0] w' fun e w3 => e = .returned (.tuple #[]) ∧ Fin w3 := by
      intro wA hKA hTA hsrA hlyA hexA w' hs
      have hex' : Ex K ly sta w.heap.size w w' := hexA.trans (Ex.of_below (hs.mono hexA.size))
      refine (stop_calls K T sp kb m off C cs lb nL cL st buf last slot used sb ly cLy sta cSt old held2 wst0 sr2 t0 u0 t2 u2 b1 b2 w' (hTA.grown hs) (hKA.below hs hKA.lt) d1 d2 d3 (hsrA.below hs hsrA.lt).lt (fun q hq => (hsrA.below hs hsrA.lt).cell hq) hoff hbds.1 hbds.2.1 hC hcs hst hold (by omega) hh2b (by rw [hh2'.out]; exact Nat.le_refl _) hbds.2.2 hb1 hb2 hfull.out).mono ?_
      rintro e w3 ⟨rfl, hp⟩
      exact ⟨rfl, hend w' w3 hex' (hsrA.below hs hsrA.lt) (hlyA.below hs hlyA.lt) hp⟩
    have hmove : u0 = 0 → ∀ wA : World, Blk wA K 44 (cliV T off C cs lb nL cL st buf last slot used sb ly cLy sta cSt old held2 wst0) → Tr wA T sp kb m → Row wA sta 4 C (fun q => .bool (sr2 q)) → Row wA ly 3 C (fun q => .int .i64 (if q = p then L q + add else L q : Nat)) → Ex K ly sta w.heap.size w wA →
        Calls Ybaf.prog 17 #[.pointer (some ⟨K, 0, none⟩), .int .i64 t0] wA fun e w3 => e = .returned (.tuple #[]) ∧ Fin w3 := by
      intro hu wA hKA hTA hsrA hlyA hexA
      have hf2 : t2 = t0 ∧ u2 = 0 := by rcases hfull.out with h1 | h1 <;> omega
      have hbb : b2 = b1 := by rw [hb1.out, hb2.out, hf2.1]
      refine (moveTo_calls K T sp kb m off C cs lb nL cL st buf last slot used sb ly cLy sta cSt old held2 wst0 sr2 t0 b1 wA hTA hKA d1 d2 d3 hsrA.lt (fun q hq => hsrA.cell hq) hoff hbds.1 hbds.2.1 hC hcs hst hold (by omega) hh2b (by rw [hh2'.out]; exact Nat.le_refl _) hb1).mono ?_
      rintro e w3 ⟨rfl, hp⟩
      refine ⟨rfl, hend wA w3 hexA hsrA hlyA ?_⟩
      rw [hf2.1, hf2.2, hbb]
      exact hp
    have hu0b : u0 ≤ 1000000 := hbds.2.2
    clear hFin hend hbds
    obtain ⟨ly2f, hly2f⟩ : ∃ f : Nat → Value, f = fun q => .int .i64 (if q = p then L q + add else L q : Nat) := ⟨_, rfl⟩
    have hset : ∀ wB : World, Row wB ly 3 C (fun q => .int .i64 (L q : Nat)) → add = 1 → Row (wB.setCell ⟨ly, p, none⟩ (.int .i64 ((k : Int) + 1))) ly 3 C (fun q => .int .i64 (if q = p then L q + add else L q : Nat)) := by
      intro wB hB ha
      subst ha
      refine (hB.set hpC _).congr fun q hq => ?_
      by_cases e : q = p
      · subst e; simp [hk2.out]
      · simp [e]
    clear hly2f
    by_cases hnl : need ≤ left
    · have hwA : t0 = slot ∧ u0 = used + need ∧ wst0 = wst ∧ add = 1 := by
        rcases hway.out with h1 | h1 | h1
        · exact h1.2
        · omega
        · omega
      obtain ⟨a1, a2, a3, a4⟩ := hwA
      have a2' : IntKind.i64.wrap ((used : Int) + (need : Int)) = (u0 : Int) := by rw [IntKind.wrap_i64]; omega
      subst a1
      subst a3
      have hKA : Blk ((w2.drewN nq).setCell ⟨ly, p, none⟩ (.int .i64 ((k : Int) + 1))) K 44 (cliV T off C cs lb nL cL st buf last t0 used sb ly cLy sta cSt old held2 wst0) := Blk.setOther (w := w2.drewN nq) hK2 _ _ (Ne.symm d4)
      have hst' := hstop ((w2.drewN nq).setCell ⟨ly, p, none⟩ (.int .i64 ((k : Int) + 1))) hKA
        (hT2.of_blocks (by simp [World.setCell]) (Below.heap_setCell _ _ _ _ d10) (Below.heap_setCell _ _ _ _ d11)) (Row.setOther (w := w2.drewN nq) hsr2 _ _ (Ne.symm d8)) (hset _ hly2 a4) ((hex2.drewN nq).setCell ly p _ (by omega))
      have e10 := (cli_at hKA).c10
      have e11 := (cli_at hKA).c11
      clear hstop hmove hset hKA a2 a4
      go_upto_region 11 with fail
      go_region_with (go_at_call 13; refine (hst' _ (by exact ⟨rfl, rfl, rfl, Nat.le_refl _, fun _ _ => rfl⟩)).mono ?_; rintro e w3 ⟨rfl, hpost⟩)
      all_goals
        go_wp2
        (try simp only [Exit.inBlock, Exit.then])
        refine bodyPost_ret (results_none rfl _ _ _) rfl ?_
        exact ⟨rfl, hgo _ hpost⟩
    · obtain ⟨rem, hrem⟩ : ∃ rem, rem = need - left := ⟨_, rfl⟩
      have hrem0 : 0 < rem := by omega
      have hrem1 : rem ≤ 10000 := by omega
      have hrem' : IntKind.i64.wrap ((need : Int) - (left : Int)) = (rem : Int) := by rw [IntKind.wrap_i64]; omega
      obtain ⟨f, hf⟩ : ∃ f, f = slot + 1 := ⟨_, rfl⟩
      have hf' : IntKind.i64.wrap ((slot : Int) + 1) = (f : Int) := by rw [IntKind.wrap_i64]; omega
      have hoffs : off + f - 1 = off + slot := by omega
      have hdl := deadline_calls T off C cs (some ⟨lb, 0, none⟩) nL cL st buf p (w2.drewN nq) (by omega) hcs hst
      rw [show p + 1 = i by have := hp2.out; omega, ← hD.out] at hdl
      have hway' := hway.out
      unfold Way at hway'
      rw [← hrem] at hway'
      have hway2 : Hid ((slot < t0 ∧ t0 ≤ D ∧ W kb m (off + slot) (t0 - slot - 1) < rem ∧ rem ≤ W kb m (off + slot) (t0 - slot) ∧ u0 + W kb m (off + slot) (t0 - slot - 1) = rem ∧ wst0 = wst ∧ add = 1) ∨
        (W kb m (off + slot) (D - slot) < rem ∧ t0 = D + 1 ∧ u0 = 0 ∧ wst0 = wst + left + W kb m (off + slot) (D - slot) ∧ add = 0)) := by
        rcases hway' with h1 | h1 | h1
        · omega
        · exact Or.inl h1.2
        · exact Or.inr h1.2
      clear hway' hway
      unfold sessV at hdl
      have z0 := hbx2.cell 0
      have z1 := hbx2.cell 1
      have z2 := hbx2.cell 2
      have z3 := hbx2.cell 3
      have z4 := hbx2.cell 4
      have z5 := hbx2.cell 5
      have z6 := hbx2.cell 6
      have z7 := hbx2.cell 7
      simp at z0 z1 z2 z3 z4 z5 z6 z7
      have hremh : Hid (rem = need - left) := hrem
      have hfh : Hid (f = slot + 1) := hf
      have hoffh : Hid (off + f - 1 = off + slot) := hoffs
      clear hrem hf hoffs
      go_upto_region 13 with (go_at_call 14; refine hdl.mono ?_; rintro e w4 ⟨rfl, hb4'⟩)
      have hb4 : Below w2.heap.size w2 w4 := (below_drewN (Below.refl _ w2) nq).trans hb4'
      have hK4 := hK2.below hb4 hK2.lt
      have hsr4 := hsr2.below hb4 hsr2.lt
      have hly4 := hly2.below hb4 hly2.lt
      have hbx4 := hbx2.below hb4 hbx2.lt
      have hT4 := hT2.grown hb4
      have hex4 : Ex K ly sta w.heap.size w w4 := hex2.trans (Ex.of_below (hb4.mono hex2.size))
      clear hK2 hsr2 hly2 hbx2 hT2 hex2 hb4 hb4' hdl c0 c1 c2 c3 c4 c5 c6 c7 c8 c9 c10 c11 c12 c13 c14 c15 c16 c17 cly fly hsz z0 z1 z2 z3 z4 z5 z6 z7
      have c10 := (cli_at hK4).c10
      have z0 := hbx4.cell 0
      have z1 := hbx4.cell 1
      have z2 := hbx4.cell 2
      have z3 := hbx4.cell 3
      have z4 := hbx4.cell 4
      have z5 := hbx4.cell 5
      have z6 := hbx4.cell 6
      have z7 := hbx4.cell 7
      simp at z0 z1 z2 z3 z4 z5 z6 z7
      rcases hway2.out with hB | hB
      · have hB' : Hid (slot < t0 ∧ t0 ≤ D ∧ W kb m (off + slot) (t0 - slot - 1) < rem ∧ rem ≤ W kb m (off + slot) (t0 - slot) ∧ u0 + W kb m (off + slot) (t0 - slot - 1) = rem ∧ wst0 = wst ∧ add = 1) := hB
        clear hB hway2
        have hfill : ∀ w', Below w4.heap.size w4 w' → Calls Ybaf.prog 15 #[.agg #[.pointer (some ⟨T, 0, none⟩), .int .i64 off, .int .i64 C, .int .i64 cs, .slice (some ⟨lb, 0, none⟩) nL cL, .int .i64 st, .int .i64 buf, .string ByteArray.empty], .int .i64 f, .int .i64 D, .int .i64 rem] w' fun e w5 => e = .returned (.tuple #[.int .i64 t0, .bool true]) ∧ Below w4.heap.size w4 w5 := by
          intro w' hb
          obtain ⟨x1, x2, x3, x4, x5, x6, x7⟩ := hB'.out
          have y1 := hfh.out
          have hm := W_mono kb m (off + slot) (show t0 - slot ≤ D - slot by omega)
          refine (fill_found T sp kb m off C cs (some ⟨lb, 0, none⟩) nL cL st buf f D (D - slot) rem w' (hT4.grown hb) hoff (by omega) (by omega) (by omega) (by omega) (by omega) (by rw [hoffh.out]; omega) hrem0 (by omega)).mono ?_
          rintro e w5 ⟨u, rfl, ⟨q1, q2, q3, q4⟩, q5⟩
          rw [hoffh.out] at q3 q4
          have hu : u - f = t0 - slot - 1 := fill_unique q3 q4 x3 (by rw [show t0 - slot - 1 + 1 = t0 - slot by omega]; exact x4)
          have hu2 : u = t0 := by omega
          subst hu2
          exact ⟨rfl, hb.trans (q5.mono hb.size)⟩
        go_cut [9, 10] from 11 (fun v9 v10 wc => v9 = .int .i64 t0 ∧ v10 = .bool true ∧ Below w4.heap.size w4 wc)
        case first =>
          go_region_with (go_at_call 15; refine (hfill _ (by exact ⟨rfl, rfl, rfl, Nat.le_refl _, fun _ _ => rfl⟩)).mono ?_; rintro e w5 ⟨rfl, hb5⟩)
          all_goals
            go_wp2
            go_meet
            case rel => exact ⟨rfl, rfl, hb5⟩
        case rest =>
          obtain ⟨rfl, rfl, hb5⟩ := hcut
          obtain ⟨x1, x2, x3, x4, x5, x6, x7⟩ := hB'.out
          subst x6
          have hK5 := hK4.below hb5 hK4.lt
          have hsr5 := hsr4.below hb5 hsr4.lt
          have hly5 := hly4.below hb5 hly4.lt
          have hbx5 := hbx4.below hb5 hbx4.lt
          have hT5 := hT4.grown hb5
          have hex5 : Ex K ly sta w.heap.size w wc := hex4.trans (Ex.of_below (hb5.mono hex4.size))
          clear hK4 hsr4 hly4 hbx4 hT4 hex4 hb5 hfill c10 z0 z1 z2 z3 z4 z5 z6 z7
          have c13 := (cli_at hK5).c13
          have cly : wc.cell? ⟨ly, p, none⟩ = some (.int .i64 k) := by have := hly5.cell hpC; simp only [← hk2.out] at this; exact this
          have fly : wc.frozen? ⟨ly, p, none⟩ = false := hly5.frozen p
          have hKA : Blk (wc.setCell ⟨ly, p, none⟩ (.int .i64 ((k : Int) + 1))) K 44 (cliV T off C cs lb nL cL st buf last slot used sb ly cLy sta cSt old held2 wst0) := hK5.setOther _ _ (Ne.symm d4)
          have hbxA := hbx5.setOther ⟨ly, p, none⟩ (.int .i64 ((k : Int) + 1)) (by show w.heap.size ≠ ly; omega)
          have hTA : Tr (wc.setCell ⟨ly, p, none⟩ (.int .i64 ((k : Int) + 1))) T sp kb m := hT5.of_blocks (by simp [World.setCell]) (Below.heap_setCell _ _ _ _ d10) (Below.heap_setCell _ _ _ _ d11)
          have hst' := hstop (wc.setCell ⟨ly, p, none⟩ (.int .i64 ((k : Int) + 1))) hKA hTA (hsr5.setOther _ _ (Ne.symm d8)) (hset _ hly5 x7) (hex5.setCell ly p _ (by omega))
          obtain ⟨wv, hwv⟩ : ∃ wv, wv = W kb m (off + slot) (t0 - slot - 1) := ⟨_, rfl⟩
          rw [← hwv] at x5
          obtain ⟨tm, htm⟩ : ∃ tm, tm = t0 - 1 := ⟨_, rfl⟩
          have htm' : IntKind.i64.wrap ((t0 : Int) - 1) = (tm : Int) := by rw [IntKind.wrap_i64]; omega
          have hu' : IntKind.i64.wrap ((rem : Int) - (wv : Int)) = (u0 : Int) := by rw [IntKind.wrap_i64]; omega
          have hss : ∀ w', Below (wc.setCell ⟨ly, p, none⟩ (.int .i64 ((k : Int) + 1))).heap.size (wc.setCell ⟨ly, p, none⟩ (.int .i64 ((k : Int) + 1))) w' → Calls Ybaf.prog 16 #[.agg #[.pointer (some ⟨T, 0, none⟩), .int .i64 off, .int .i64 C, .int .i64 cs, .slice (some ⟨lb, 0, none⟩) nL cL, .int .i64 st, .int .i64 buf, .string ByteArray.empty], .int .i64 f, .int .i64 tm] w' fun e w6 => e = .returned (.int .i64 wv) ∧ Below (wc.setCell ⟨ly, p, none⟩ (.int .i64 ((k : Int) + 1))).heap.size (wc.setCell ⟨ly, p, none⟩ (.int .i64 ((k : Int) + 1))) w6 := by
            intro w' hb
            have y1 := hfh.out
            refine (sslots_calls T sp kb m off C cs (some ⟨lb, 0, none⟩) nL cL st buf f tm (t0 - slot - 1) w' (hTA.grown hb) hoff (by omega) (by omega) (by omega) (by omega)).mono ?_
            rintro e w6 ⟨rfl, q5⟩
            rw [hoffh.out, ← hwv]
            exact ⟨rfl, hb.trans (q5.mono hb.size)⟩
          have c10 := (cli_at hKA).c10
          have z0 := hbxA.cell 0
          have z1 := hbxA.cell 1
          have z2 := hbxA.cell 2
          have z3 := hbxA.cell 3
          have z4 := hbxA.cell 4
          have z5 := hbxA.cell 5
          have z6 := hbxA.cell 6
          have z7 := hbxA.cell 7
          simp at z0 z1 z2 z3 z4 z5 z6 z7
          clear hstop hmove hset hwv htm x1 x2 x3 x4 x5 x7 hK5 hsr5 hly5 hbx5 hT5 hex5 hTA hbxA hKA
          go_upto_region 18 with fail
          go_region_with (first
            | (go_at_call 13; refine (hst' _ hb6).mono ?_; rintro e w7 ⟨rfl, hpost⟩)
            | (go_at_call 16; refine (hss _ (by exact ⟨rfl, rfl, rfl, Nat.le_refl _, fun _ _ => rfl⟩)).mono ?_; rintro e w6 ⟨rfl, hb6⟩))
          all_goals
            go_wp2
            go_end0
            exact ⟨rfl, hgo _ hpost⟩
      · have hB' : Hid (W kb m (off + slot) (D - slot) < rem ∧ t0 = D + 1 ∧ u0 = 0 ∧ wst0 = wst + left + W kb m (off + slot) (D - slot) ∧ add = 0) := hB
        clear hB hway2
        have hfill : ∀ w', Below w4.heap.size w4 w' → Calls Ybaf.prog 15 #[.agg #[.pointer (some ⟨T, 0, none⟩), .int .i64 off, .int .i64 C, .int .i64 cs, .slice (some ⟨lb, 0, none⟩) nL cL, .int .i64 st, .int .i64 buf, .string ByteArray.empty], .int .i64 f, .int .i64 D, .int .i64 rem] w' fun e w5 => e = .returned (.tuple #[.int .i64 0, .bool false]) ∧ Below w4.heap.size w4 w5 := by
          intro w' hb
          obtain ⟨x1, x2, x3, x4, x5⟩ := hB'.out
          have y1 := hfh.out
          refine (fill_short T sp kb m off C cs (some ⟨lb, 0, none⟩) nL cL st buf f D (D - slot) rem w' (hT4.grown hb) hoff (by omega) (by omega) (by omega) (by omega) (by rw [hoffh.out]; omega) (by omega)).mono ?_
          rintro e w5 ⟨rfl, q5⟩
          exact ⟨rfl, hb.trans (q5.mono hb.size)⟩
        go_cut [9, 10] from 11 (fun v9 v10 wc => v9 = .int .i64 0 ∧ v10 = .bool false ∧ Below w4.heap.size w4 wc)
        case first =>
          go_region_with (go_at_call 15; refine (hfill _ (by exact ⟨rfl, rfl, rfl, Nat.le_refl _, fun _ _ => rfl⟩)).mono ?_; rintro e w5 ⟨rfl, hb5⟩)
          all_goals
            go_wp2
            go_meet
            case rel => exact ⟨rfl, rfl, hb5⟩
        case rest =>
          obtain ⟨rfl, rfl, hb5⟩ := hcut
          obtain ⟨x1, x2, x3, x4, x5⟩ := hB'.out
          have hK5 := hK4.below hb5 hK4.lt
          have hsr5 := hsr4.below hb5 hsr4.lt
          have hly5 := hly4.below hb5 hly4.lt
          have hbx5 := hbx4.below hb5 hbx4.lt
          have hT5 := hT4.grown hb5
          have hex5 : Ex K ly sta w.heap.size w wc := hex4.trans (Ex.of_below (hb5.mono hex4.size))
          clear hK4 hsr4 hly4 hbx4 hT4 hex4 hb5 hfill c10 z0 z1 z2 z3 z4 z5 z6 z7
          have hWb := W_le hT5.k5 m (off + slot) (D - slot)
          obtain ⟨wv, hwv⟩ : ∃ wv, wv = W kb m (off + slot) (D - slot) := ⟨_, rfl⟩
          rw [← hwv] at x4 hWb
          have hwb2 : wv ≤ 400000 := by omega
          obtain ⟨lw, hlw⟩ : ∃ lw, lw = left + wv := ⟨_, rfl⟩
          have hlw' : IntKind.i64.wrap ((left : Int) + (wv : Int)) = (lw : Int) := by rw [IntKind.wrap_i64]; omega
          have hws' : IntKind.i64.wrap ((wst : Int) + (lw : Int)) = (wst0 : Int) := by rw [IntKind.wrap_i64]; omega
          have htD : IntKind.i64.wrap ((D : Int) + 1) = (t0 : Int) := by rw [IntKind.wrap_i64]; omega
          have hss : ∀ w', Below wc.heap.size wc w' → Calls Ybaf.prog 16 #[.agg #[.pointer (some ⟨T, 0, none⟩), .int .i64 off, .int .i64 C, .int .i64 cs, .slice (some ⟨lb, 0, none⟩) nL cL, .int .i64 st, .int .i64 buf, .string ByteArray.empty], .int .i64 f, .int .i64 D] w' fun e w6 => e = .returned (.int .i64 wv) ∧ Below wc.heap.size wc w6 := by
            intro w' hb
            have y1 := hfh.out
            refine (sslots_calls T sp kb m off C cs (some ⟨lb, 0, none⟩) nL cL st buf f D (D - slot) w' (hT5.grown hb) hoff (by omega) (by omega) (by omega) (by omega)).mono ?_
            rintro e w6 ⟨rfl, q5⟩
            rw [hoffh.out, ← hwv]
            exact ⟨rfl, hb.trans (q5.mono hb.size)⟩
          have hly0 : Row wc ly 3 C (fun q => .int .i64 (if q = p then L q + add else L q : Nat)) := hly5.congr fun q _ => by subst x5; simp
          have hmv : ∀ w', Below wc.heap.size wc w' → Calls Ybaf.prog 17 #[.pointer (some ⟨K, 0, none⟩), .int .i64 t0] (w'.setCell ⟨K, 17, none⟩ (.int .i64 wst0)) fun e w3 => e = .returned (.tuple #[]) ∧ Fin w3 := by
            intro w' hb
            have hK6 := (hK5.below hb hK5.lt).set 17 (.int .i64 wst0)
            exact hmove x3 _ hK6 ((hT5.grown hb).of_blocks (by simp [World.setCell]) (Below.heap_setCell _ _ _ _ d1) (Below.heap_setCell _ _ _ _ d2)) ((hsr5.below hb hsr5.lt).setOther _ _ d3) ((hly0.below hb hly0.lt).setOther _ _ d4) ((hex5.trans (Ex.of_below (hb.mono hex5.size))).setCell K 17 _ (by omega))
          have hcK : ∀ w', Below wc.heap.size wc w' → w'.cell? ⟨K, 17, none⟩ = some (.int .i64 wst) ∧ w'.frozen? ⟨K, 17, none⟩ = false ∧ w'.cell? ⟨K, 10, none⟩ = some (.int .i64 slot) := fun w' hb => ⟨(cli_at (hK5.below hb hK5.lt)).c17, (hK5.below hb hK5.lt).frozen 17, (cli_at (hK5.below hb hK5.lt)).c10⟩
          have c10 := (cli_at hK5).c10
          have c17 := (cli_at hK5).c17
          have z0 := hbx5.cell 0
          have z1 := hbx5.cell 1
          have z2 := hbx5.cell 2
          have z3 := hbx5.cell 3
          have z4 := hbx5.cell 4
          have z5 := hbx5.cell 5
          have z6 := hbx5.cell 6
          have z7 := hbx5.cell 7
          simp at z0 z1 z2 z3 z4 z5 z6 z7
          have hmv' : Hid (∀ w', Below wc.heap.size wc w' → Calls Ybaf.prog 17 #[.pointer (some ⟨K, 0, none⟩), .int .i64 t0] (w'.setCell ⟨K, 17, none⟩ (.int .i64 wst0)) fun e w3 => e = .returned (.tuple #[]) ∧ Fin w3) := hmv
          have hcK' : Hid (∀ w', Below wc.heap.size wc w' → w'.cell? ⟨K, 17, none⟩ = some (.int .i64 wst) ∧ w'.frozen? ⟨K, 17, none⟩ = false ∧ w'.cell? ⟨K, 10, none⟩ = some (.int .i64 slot)) := hcK
          clear hstop hmove hset hwv hlw x1 x2 x3 x4 x5 hK5 hsr5 hly5 hbx5 hT5 hex5 hly0 hmv hcK hWb
          go_upto_region 15 with fail
          go_region_with (go_at_call 16; refine (hss _ (by exact ⟨rfl, rfl, rfl, Nat.le_refl _, fun _ _ => rfl⟩)).mono ?_; rintro e w6 ⟨rfl, hb6⟩; have k17 := (hcK'.out w6 hb6).1; have kf := (hcK'.out w6 hb6).2.1; have k10 := (hcK'.out w6 hb6).2.2)
          all_goals
            go_wp2_with (go_at_call 17; refine (hmv'.out _ hb6).mono ?_; rintro e w7 ⟨rfl, hpost⟩)
            (try simp only [Exit.inBlock, Exit.then])
            refine bodyPost_ret (results_none rfl _ _ _) rfl ?_
            exact ⟨rfl, hgo _ hpost⟩
end Go.Proofs.YbulkeeawFmt
