import Derived.Test.YbulkeeeqPush
namespace Go.Proofs.Ybulkeeeq
open Go.RowKit
set_option linter.unusedVariables false

set_option maxHeartbeats 4000000 in
set_option maxRecDepth 100000 in
theorem pop_calls (c qi base n : Nat) (Tc : TypeId) (cl : Array Value) (wf : Nat → Value) (v : Value) (h : Nat → Ev) (w : World)
    (hc : Blk w c Tc cl) (hv : cl[qi]? = some v) (hr : EvRow w base wf v (n + 1) h) (hcb : c < base) (hn : n ≤ 1000000) (hwf : ∀ s, ∃ o, wf s = .iface 46 (.pointer (some ⟨o, 0, none⟩))) (hh : Heap h (n + 1)) :
    Calls Yba.prog 33 #[.pointer (some ⟨c, qi, none⟩)] w fun ex w' => ex = .returned (.agg #[.int .i64 (h 0).t, .int .u64 (h 0).seq, wf (h 0).seq]) ∧ ∃ v' h', Blk w' c Tc (cl.setIfInBounds qi v') ∧ EvRow w' base wf v' n h' ∧ Heap h' n ∧
      (∀ p, cnt p h' n + (if p (h 0) then 1 else 0) = cnt p h (n + 1)) ∧ Fr c v.ownBlock w.heap.size w w' ∧ v'.ownBlock = v.ownBlock := by
  have hcl := hc.lt
  rcases hr with ⟨_, h0⟩ | ⟨g, cap, cs, rfl, hg, hb, hle, hcap, hsz, hcells⟩
  · omega
  have hqs : qi < cl.size := (Array.getElem?_eq_some_iff.1 hv).1
  have hcq : w.cell? ⟨c, qi, none⟩ = some (.slice (some ⟨g, 0, none⟩) (n + 1) cap) := by rw [hc.cell]; exact hv
  have hgl := hb.lt
  have hgc : g ≠ c := by omega
  obtain ⟨o, ho⟩ := hwf (h 0).seq
  obtain ⟨on, hon⟩ := hwf (h n).seq
  have cf0 : w.cell? ⟨g, 0, none⟩ = some (.int .i64 (h 0).t) := by rw [hb.cell]; exact hcells 0 0 (by omega) (by omega)
  have cf1 : w.cell? ⟨g, 1, none⟩ = some (.int .u64 (h 0).seq) := by rw [hb.cell]; exact hcells 0 1 (by omega) (by omega)
  have cf2 : w.cell? ⟨g, 2, none⟩ = some (.iface 46 (.pointer (some ⟨o, 0, none⟩))) := by rw [hb.cell, ← ho]; exact hcells 0 2 (by omega) (by omega)
  have cn0 : w.cell? ⟨g, n * 3, none⟩ = some (.int .i64 (h n).t) := by rw [hb.cell]; exact hcells n 0 (by omega) (by omega)
  have cn1 : w.cell? ⟨g, n * 3 + 1, none⟩ = some (.int .u64 (h n).seq) := by rw [hb.cell]; exact hcells n 1 (by omega) (by omega)
  have cn2 : w.cell? ⟨g, n * 3 + 2, none⟩ = some (.iface 46 (.pointer (some ⟨on, 0, none⟩))) := by rw [hb.cell, ← hon]; exact hcells n 2 (by omega) (by omega)
  have hcells' : Hid (∀ j r, j < n + 1 → r < 3 → cs[j * 3 + r]? = some (evC wf (h j) r)) := hcells
  have ho' : Hid (wf (h 0).seq = .iface 46 (.pointer (some ⟨o, 0, none⟩))) := ho
  have hon' : Hid (wf (h n).seq = .iface 46 (.pointer (some ⟨on, 0, none⟩))) := hon
  have hwf' : Hid (∀ s, ∃ o, wf s = .iface 46 (.pointer (some ⟨o, 0, none⟩))) := hwf
  rw [ho]
  clear hcells ho hon hwf
  go_enter Yba.func33, Yba.ntmps33
  go_upto_region 4 with fail
  obtain ⟨R, hRv⟩ : ∃ x, x = w.heap.size := ⟨_, rfl⟩
  obtain ⟨w3, hw3⟩ : ∃ x, x = ((w.alloc (Obj.cells #[Value.int IntKind.i64 0, Value.int IntKind.u64 0, Value.nilIface] 54)).alloc (Obj.cells #[Value.int IntKind.i64 (h 0).t, Value.int IntKind.u64 (h 0).seq, Value.iface 46 (Value.pointer (some ⟨o, 0, none⟩))] 54)).alloc (Obj.cells #[Value.int IntKind.i64 (h n).t, Value.int IntKind.u64 (h n).seq, Value.iface 46 (Value.pointer (some ⟨on, 0, none⟩))] 54) := ⟨_, rfl⟩
  have hbw3 : Below R w w3 := by
    rw [hw3, hRv]
    exact (((Below.refl _ w).alloc (Nat.le_refl _) _).alloc (by simp) _).alloc (by simp; omega) _
  have hR3 : Blk w3 R 54 #[Value.int IntKind.i64 0, Value.int IntKind.u64 0, Value.nilIface] := by rw [hw3, hRv]; exact ((Blk.new w 54 _).alloc _).alloc _
  have hF3 : Blk w3 (R + 1) 54 #[Value.int IntKind.i64 (h 0).t, Value.int IntKind.u64 (h 0).seq, Value.iface 46 (Value.pointer (some ⟨o, 0, none⟩))] := by
    rw [hw3, hRv]
    have := Blk.new (w.alloc (Obj.cells #[Value.int IntKind.i64 0, Value.int IntKind.u64 0, Value.nilIface] 54)) 54 #[Value.int IntKind.i64 (h 0).t, Value.int IntKind.u64 (h 0).seq, Value.iface 46 (Value.pointer (some ⟨o, 0, none⟩))]
    simp at this
    exact this.alloc _
  have hL3 : Blk w3 (R + 1 + 1) 54 #[Value.int IntKind.i64 (h n).t, Value.int IntKind.u64 (h n).seq, Value.iface 46 (Value.pointer (some ⟨on, 0, none⟩))] := by
    rw [hw3, hRv]
    have := Blk.new ((w.alloc (Obj.cells #[Value.int IntKind.i64 0, Value.int IntKind.u64 0, Value.nilIface] 54)).alloc (Obj.cells #[Value.int IntKind.i64 (h 0).t, Value.int IntKind.u64 (h 0).seq, Value.iface 46 (Value.pointer (some ⟨o, 0, none⟩))] 54)) 54 #[Value.int IntKind.i64 (h n).t, Value.int IntKind.u64 (h n).seq, Value.iface 46 (Value.pointer (some ⟨on, 0, none⟩))]
    simp at this
    exact this
  rw [← hw3]
  simp only [← hRv] at hcl hgl ⊢
  have hRv' : Hid (R = w.heap.size) := hRv
  clear hRv
  have hb3 := hb.below hbw3 hgl
  have hc3 := hc.below hbw3 hcl
  have hfr3 : Fr c (some g) R w w3 := Fr.of_below hbw3
  clear hw3 hbw3 hb hc cf0 cf1 cf2 cn0 cn1 cn2 hcq
  have hgR : g ≠ R := by omega
  have hgF : g ≠ R + 1 := by omega
  have hgL : g ≠ R + 1 + 1 := by omega
  -- the place of the last is emptied
  obtain ⟨y0, hy0⟩ : ∃ y, w3.cell? ⟨g, n * 3, none⟩ = some y := ⟨_, by rw [hb3.cell]; exact Array.getElem?_eq_getElem (by omega)⟩
  have f0 := hb3.frozen (n * 3)
  have hb4 := hb3.set (n * 3) (.int .i64 0)
  obtain ⟨y1, hy1⟩ : ∃ y, (w3.setCell ⟨g, n * 3, none⟩ (.int .i64 0)).cell? ⟨g, n * 3 + 1, none⟩ = some y := ⟨_, by rw [hb4.cell]; exact Array.getElem?_eq_getElem (by simp; omega)⟩
  have f1 := hb4.frozen (n * 3 + 1)
  have hb5 := hb4.set (n * 3 + 1) (.int .u64 0)
  obtain ⟨y2, hy2⟩ : ∃ y, ((w3.setCell ⟨g, n * 3, none⟩ (.int .i64 0)).setCell ⟨g, n * 3 + 1, none⟩ (.int .u64 0)).cell? ⟨g, n * 3 + 2, none⟩ = some y := ⟨_, by rw [hb5.cell]; exact Array.getElem?_eq_getElem (by simp; omega)⟩
  have f2 := hb5.frozen (n * 3 + 2)
  have hb6 := hb5.set (n * 3 + 2) .nilIface
  have hoth : ∀ {q : Nat} {T : TypeId} {ds : Array Value}, Blk w3 q T ds → q ≠ g → Blk (((w3.setCell ⟨g, n * 3, none⟩ (.int .i64 0)).setCell ⟨g, n * 3 + 1, none⟩ (.int .u64 0)).setCell ⟨g, n * 3 + 2, none⟩ .nilIface) q T ds := fun hq hne =>
    ((hq.setOther ⟨g, n * 3, none⟩ (.int .i64 0) hne).setOther ⟨g, n * 3 + 1, none⟩ (.int .u64 0) hne).setOther ⟨g, n * 3 + 2, none⟩ .nilIface hne
  have hc6 := hoth hc3 (Ne.symm hgc)
  have hR6 := hoth hR3 (Ne.symm hgR)
  have hF6 := hoth hF3 (Ne.symm hgF)
  have hL6 := hoth hL3 (Ne.symm hgL)
  have hfr6 := ((hfr3.setCell g (n * 3) (.int .i64 0) (Or.inr (Or.inl rfl))).setCell g (n * 3 + 1) (.int .u64 0) (Or.inr (Or.inl rfl))).setCell g (n * 3 + 2) .nilIface (Or.inr (Or.inl rfl))
  have hsz6 : (((cs.setIfInBounds (n * 3) (.int .i64 0)).setIfInBounds (n * 3 + 1) (.int .u64 0)).setIfInBounds (n * 3 + 2) .nilIface).size = cap * 3 := by simpa using hsz
  have hcells6 : Hid (∀ j r, j < n → r < 3 → (((cs.setIfInBounds (n * 3) (.int .i64 0)).setIfInBounds (n * 3 + 1) (.int .u64 0)).setIfInBounds (n * 3 + 2) .nilIface)[j * 3 + r]? = some (evC wf (h j) r)) := by
    intro j r hj hr
    rw [Array.getElem?_setIfInBounds_ne (by omega), Array.getElem?_setIfInBounds_ne (by omega), Array.getElem?_setIfInBounds_ne (by omega)]
    exact hcells'.out j r (by omega) hr
  have hcq6 := hc6.cell qi
  have hcf6 := hc6.frozen qi
  obtain ⟨vq, hvq⟩ : ∃ y, cl[qi]? = some y := ⟨_, hv⟩
  rw [hvq] at hcq6
  clear hoth hb3 hb4 hb5 hc3 hR3 hF3 hL3 hfr3
  go_upto_region 7 with fail
  obtain ⟨cs7, hcs7⟩ : ∃ x, x = ((cs.setIfInBounds (n * 3) (.int .i64 0)).setIfInBounds (n * 3 + 1) (.int .u64 0)).setIfInBounds (n * 3 + 2) .nilIface := ⟨_, rfl⟩
  obtain ⟨w7, hw7⟩ : ∃ x, x = (((w3.setCell ⟨g, n * 3, none⟩ (.int .i64 0)).setCell ⟨g, n * 3 + 1, none⟩ (.int .u64 0)).setCell ⟨g, n * 3 + 2, none⟩ .nilIface).setCell ⟨c, qi, none⟩ (.slice (some ⟨g, 0, none⟩) n cap) := ⟨_, rfl⟩
  rw [← hcs7] at hb6 hsz6 hcells6
  have hb7 : Blk w7 g 54 cs7 := by rw [hw7]; exact hb6.setOther _ _ hgc
  have hc7 : Blk w7 c Tc (cl.setIfInBounds qi (.slice (some ⟨g, 0, none⟩) n cap)) := by rw [hw7]; exact hc6.set qi _
  have hR7 : Blk w7 R 54 #[Value.int IntKind.i64 0, Value.int IntKind.u64 0, Value.nilIface] := by rw [hw7]; exact hR6.setOther _ _ (by show R ≠ c; omega)
  have hF7 : Blk w7 (R + 1) 54 #[Value.int IntKind.i64 (h 0).t, Value.int IntKind.u64 (h 0).seq, Value.iface 46 (Value.pointer (some ⟨o, 0, none⟩))] := by rw [hw7]; exact hF6.setOther _ _ (by show R + 1 ≠ c; omega)
  have hL7 : Blk w7 (R + 1 + 1) 54 #[Value.int IntKind.i64 (h n).t, Value.int IntKind.u64 (h n).seq, Value.iface 46 (Value.pointer (some ⟨on, 0, none⟩))] := by rw [hw7]; exact hL6.setOther _ _ (by show R + 1 + 1 ≠ c; omega)
  have hfr7 : Fr c (some g) R w w7 := by rw [hw7]; exact hfr6.setCell c qi _ (Or.inl rfl)
  rw [← hw7]
  clear hw7 hcs7 hb6 hc6 hR6 hF6 hL6 hfr6 hcq6 hcf6 hvq hy0 hy1 hy2 f0 f1 f2
  -- what is returned
  have hret : ∀ wz : World, Blk wz R 54 #[Value.int IntKind.i64 0, Value.int IntKind.u64 0, Value.nilIface] → Blk wz (R + 1) 54 #[Value.int IntKind.i64 (h 0).t, Value.int IntKind.u64 (h 0).seq, Value.iface 46 (Value.pointer (some ⟨o, 0, none⟩))] →
      (wz.cell? ⟨R, 0, none⟩ = some (.int .i64 0) ∧ wz.frozen? ⟨R, 0, none⟩ = false ∧ wz.cell? ⟨R + 1, 0, none⟩ = some (.int .i64 (h 0).t) ∧ wz.cell? ⟨R + 1, 1, none⟩ = some (.int .u64 (h 0).seq) ∧ wz.cell? ⟨R + 1, 2, none⟩ = some (.iface 46 (.pointer (some ⟨o, 0, none⟩)))) ∧
      ((wz.setCell ⟨R, 0, none⟩ (.int .i64 (h 0).t)).cell? ⟨R, 1, none⟩ = some (.int .u64 0) ∧ (wz.setCell ⟨R, 0, none⟩ (.int .i64 (h 0).t)).frozen? ⟨R, 1, none⟩ = false) ∧
      (((wz.setCell ⟨R, 0, none⟩ (.int .i64 (h 0).t)).setCell ⟨R, 1, none⟩ (.int .u64 (h 0).seq)).cell? ⟨R, 2, none⟩ = some .nilIface ∧ ((wz.setCell ⟨R, 0, none⟩ (.int .i64 (h 0).t)).setCell ⟨R, 1, none⟩ (.int .u64 (h 0).seq)).frozen? ⟨R, 2, none⟩ = false) ∧
      Blk (((wz.setCell ⟨R, 0, none⟩ (.int .i64 (h 0).t)).setCell ⟨R, 1, none⟩ (.int .u64 (h 0).seq)).setCell ⟨R, 2, none⟩ (.iface 46 (.pointer (some ⟨o, 0, none⟩)))) R 54 #[Value.int IntKind.i64 (h 0).t, Value.int IntKind.u64 (h 0).seq, Value.iface 46 (Value.pointer (some ⟨o, 0, none⟩))] := by
    intro wz hR hF
    have a1 := hR.set 0 (.int .i64 (h 0).t)
    have a2 := a1.set 1 (.int .u64 (h 0).seq)
    have a3 := a2.set 2 (.iface 46 (.pointer (some ⟨o, 0, none⟩)))
    exact ⟨⟨hR.cell 0, hR.frozen 0, hF.cell 0, hF.cell 1, hF.cell 2⟩, ⟨a1.cell 1, a1.frozen 1⟩, ⟨a2.cell 2, a2.frozen 2⟩, a3⟩
  have hret' := hret
  by_cases h0 : n = 0
  · have hd : ((n : Int) == 0) = true := by simp [h0]
    have h0' : Hid (n = 0) := h0
    clear h0
    obtain ⟨⟨r1, r2, r3, r4, r5⟩, ⟨r6, r7⟩, ⟨r8, r9⟩, hR8⟩ := hret w7 hR7 hF7
    clear hret hret'
    have e0 := hR8.cell 0
    have e1 := hR8.cell 1
    have e2 := hR8.cell 2
    simp at e0 e1 e2
    have hc8 := ((hc7.setOther ⟨R, 0, none⟩ (.int .i64 (h 0).t) (by show c ≠ R; omega)).setOther ⟨R, 1, none⟩ (.int .u64 (h 0).seq) (by show c ≠ R; omega)).setOther ⟨R, 2, none⟩ (.iface 46 (.pointer (some ⟨o, 0, none⟩))) (by show c ≠ R; omega)
    have hb8 := ((hb7.setOther ⟨R, 0, none⟩ (.int .i64 (h 0).t) hgR).setOther ⟨R, 1, none⟩ (.int .u64 (h 0).seq) hgR).setOther ⟨R, 2, none⟩ (.iface 46 (.pointer (some ⟨o, 0, none⟩))) hgR
    have hfr8 := ((hfr7.setCell R 0 (.int .i64 (h 0).t) (Or.inr (Or.inr (Nat.le_refl _)))).setCell R 1 (.int .u64 (h 0).seq) (Or.inr (Or.inr (Nat.le_refl _)))).setCell R 2 (.iface 46 (.pointer (some ⟨o, 0, none⟩))) (Or.inr (Or.inr (Nat.le_refl _)))
    go_wp2
    (try simp only [Exit.inBlock, Exit.then])
    refine bodyPost_ret (by simp [results, Yba.results33, go_sem, e0, e1, e2]; try rfl) rfl ?_
    refine ⟨rfl, _, h, hc8, Or.inr ⟨g, cap, cs7, rfl, hg, hb8, by omega, hcap, hsz6, hcells6.out⟩, ?_, ?_, ?_, rfl⟩
    · intro j h1 h2
      have := h0'.out
      omega
    · intro p
      have h1 := h0'.out
      subst h1
      simp [cnt]
    · rw [← hRv'.out]; exact hfr8
  · have hd : ((n : Int) == 0) = false := by simp [h0]
    have hn0 : 0 < n := by omega
    clear h0
    have hdown0 : Hid (DownInv h h 0 n (h n)) := DownInv.start hn0 hh h (fun _ _ => rfl)
    have hcells0 : Hid (∀ j r, j < n → r < 3 → j ≠ 0 → cs7[j * 3 + r]? = some (evC wf (h j) r)) := fun j r a b _ => hcells6.out j r a b
    have hret2 : Hid (∀ wz : World, Blk wz R 54 #[Value.int IntKind.i64 0, Value.int IntKind.u64 0, Value.nilIface] → Blk wz (R + 1) 54 #[Value.int IntKind.i64 (h 0).t, Value.int IntKind.u64 (h 0).seq, Value.iface 46 (Value.pointer (some ⟨o, 0, none⟩))] →
      (wz.cell? ⟨R, 0, none⟩ = some (.int .i64 0) ∧ wz.frozen? ⟨R, 0, none⟩ = false ∧ wz.cell? ⟨R + 1, 0, none⟩ = some (.int .i64 (h 0).t) ∧ wz.cell? ⟨R + 1, 1, none⟩ = some (.int .u64 (h 0).seq) ∧ wz.cell? ⟨R + 1, 2, none⟩ = some (.iface 46 (.pointer (some ⟨o, 0, none⟩)))) ∧
      ((wz.setCell ⟨R, 0, none⟩ (.int .i64 (h 0).t)).cell? ⟨R, 1, none⟩ = some (.int .u64 0) ∧ (wz.setCell ⟨R, 0, none⟩ (.int .i64 (h 0).t)).frozen? ⟨R, 1, none⟩ = false) ∧
      (((wz.setCell ⟨R, 0, none⟩ (.int .i64 (h 0).t)).setCell ⟨R, 1, none⟩ (.int .u64 (h 0).seq)).cell? ⟨R, 2, none⟩ = some .nilIface ∧ ((wz.setCell ⟨R, 0, none⟩ (.int .i64 (h 0).t)).setCell ⟨R, 1, none⟩ (.int .u64 (h 0).seq)).frozen? ⟨R, 2, none⟩ = false) ∧
      Blk (((wz.setCell ⟨R, 0, none⟩ (.int .i64 (h 0).t)).setCell ⟨R, 1, none⟩ (.int .u64 (h 0).seq)).setCell ⟨R, 2, none⟩ (.iface 46 (.pointer (some ⟨o, 0, none⟩)))) R 54 #[Value.int IntKind.i64 (h 0).t, Value.int IntKind.u64 (h 0).seq, Value.iface 46 (Value.pointer (some ⟨o, 0, none⟩))]) := hret
    clear hret hret' hh hcells' hsz
    obtain ⟨e, he⟩ : ∃ x, x = h n := ⟨_, rfl⟩
    rw [← he] at hdown0 hon' hL7
    clear he
    obtain ⟨f, hf⟩ : ∃ x, x = h 0 := ⟨_, rfl⟩
    have hf' : Hid (f = h 0) := hf
    simp only [← hf] at hF7 hret2 ⊢
    clear hf
    go_upto_block 0 with fail
    go_cut [7, 8, 9] from 36 to 77 (fun v7 _ _ wc => ∃ (k : Nat) (h1 : Nat → Ev) (cs1 : Array Value), v7 = .int .i64 k ∧ Blk wc g 54 cs1 ∧ cs1.size = cap * 3 ∧ (∀ j r, j < n → r < 3 → j ≠ k → cs1[j * 3 + r]? = some (evC wf (h1 j) r)) ∧ DownInv h h1 k n e ∧
      (n ≤ 4 * k + 1 ∨ ∃ m, LeastOf h1 k n m ∧ bef (h1 m) e = false) ∧
      Blk wc c Tc (cl.setIfInBounds qi (.slice (some ⟨g, 0, none⟩) n cap)) ∧ Blk wc R 54 #[Value.int IntKind.i64 0, Value.int IntKind.u64 0, Value.nilIface] ∧ Blk wc (R + 1) 54 #[Value.int IntKind.i64 f.t, Value.int IntKind.u64 f.seq, Value.iface 46 (Value.pointer (some ⟨o, 0, none⟩))] ∧
      Blk wc (R + 1 + 1) 54 #[Value.int IntKind.i64 e.t, Value.int IntKind.u64 e.seq, Value.iface 46 (Value.pointer (some ⟨on, 0, none⟩))] ∧ Fr c (some g) R w wc)
    case first =>
      clear hret2
      go_wp2
      go_loopw [7, 8, 9] (fun v7 _ _ wr => ∃ (k : Nat) (h1 : Nat → Ev) (cs1 : Array Value), v7 = .int .i64 k ∧ Blk wr g 54 cs1 ∧ cs1.size = cap * 3 ∧ (∀ j r, j < n → r < 3 → j ≠ k → cs1[j * 3 + r]? = some (evC wf (h1 j) r)) ∧ DownInv h h1 k n e ∧
          Blk wr c Tc (cl.setIfInBounds qi (.slice (some ⟨g, 0, none⟩) n cap)) ∧ Blk wr R 54 #[Value.int IntKind.i64 0, Value.int IntKind.u64 0, Value.nilIface] ∧ Blk wr (R + 1) 54 #[Value.int IntKind.i64 f.t, Value.int IntKind.u64 f.seq, Value.iface 46 (Value.pointer (some ⟨o, 0, none⟩))] ∧
          Blk wr (R + 1 + 1) 54 #[Value.int IntKind.i64 e.t, Value.int IntKind.u64 e.seq, Value.iface 46 (Value.pointer (some ⟨on, 0, none⟩))] ∧ Fr c (some g) R w wr)
        (fun v7 _ _ _ => n - (intOf v7).toNat)
      case atStart => exact ⟨0, h, cs7, rfl, hb7, hsz6, hcells0.out, hdown0.out, hc7, hR7, hF7, hL7, hfr7⟩
      case round =>
        obtain ⟨k, h1, cs1, rfl, hb1, hsz1, hcells1, hdn, hc1, hR1, hF1, hL1, hfr1⟩ := hrel
        have hkn : k < n := hdn.lt
        have hcells1' : Hid (∀ j r, j < n → r < 3 → j ≠ k → cs1[j * 3 + r]? = some (evC wf (h1 j) r)) := hcells1
        have hdn' : Hid (DownInv h h1 k n e) := hdn
        clear hcells1 hdn hb7 hc7 hR7 hF7 hL7 hfr7 hcells6 hcells0 hdown0
        obtain ⟨k4, hk4⟩ : ∃ x, x = 4 * k := ⟨_, rfl⟩
        have ek4 : 4 * (k : Int) = (k4 : Int) := by omega
        have hk4b : k4 ≤ 4000000 := by omega
        obtain ⟨l0, hl0⟩ : ∃ x, x = k4 + 1 := ⟨_, rfl⟩
        have el0 : (k4 : Int) + 1 = (l0 : Int) := by omega
        have hl0b : l0 ≤ 4000001 := by omega
        have hl0k : Hid (l0 = 4 * k + 1) := by unfold Hid; omega
        have hk4k : Hid (k4 = 4 * k) := hk4
        clear hk4 hl0
        by_cases hlt : l0 < n
        · have hd1 : decide (n ≤ l0) = false := decide_eq_false (by omega)
          obtain ⟨l1, hl1⟩ : ∃ x, x = l0 + 1 := ⟨_, rfl⟩
          have el1 : (l0 : Int) + 1 = (l1 : Int) := by omega
          obtain ⟨k5, hk5⟩ : ∃ x, x = k4 + 5 := ⟨_, rfl⟩
          have ek5 : (k4 : Int) + 5 = (k5 : Int) := by omega
          have hk5b : k5 ≤ 4000005 := by omega
          have hk5k : Hid (k5 = l0 + 4) := by unfold Hid; have := hl0k.out; have := hk4k.out; omega
          have hl1' : Hid (l1 = l0 + 1) := hl1
          clear hk5 hl1
          obtain ⟨lim, hlim⟩ : ∃ x, x = min k5 n := ⟨_, rfl⟩
          have emin : (if n < k5 then (n : Int) else (k5 : Int)) = (lim : Int) := by split <;> omega
          have hlim1 : lim ≤ n := by omega
          have hlim2 : lim ≤ k5 := by omega
          have hlim' : Hid (lim = min k5 n) := hlim
          clear hlim
          obtain ⟨wO, hwO⟩ : ∃ x, x = wr := ⟨_, rfl⟩
          rw [← hwO] at hb1 hc1 hR1 hF1 hL1 hfr1 ⊢
          clear hwO
          go_upto_block 2 with fail
          go_cut [8, 9] from 36 to 77 (fun v8 _ wx => ∃ m : Nat, v8 = .int .i64 m ∧ LeastOf h1 k n m ∧ Below wO.heap.size wO wx)
          case first =>
            go_wp2
            go_loopw [8, 9] (fun v8 v9 wx => ∃ m b : Nat, v8 = .int .i64 m ∧ v9 = .int .i64 b ∧ (l0 ≤ m ∧ m < b ∧ b ≤ k5 ∧ b ≤ n ∧ ∀ j, l0 ≤ j → j < b → bef (h1 j) (h1 m) = false) ∧ Below wO.heap.size wO wx)
              (fun _ v9 _ => k5 - (intOf v9).toNat)
            case atStart => exact ⟨l0, l1, rfl, rfl, ⟨Nat.le_refl _, by have := hl1'.out; omega, by have := hl1'.out; have := hk5k.out; omega, by have := hl1'.out; omega, fun j a1 a2 => by
              have : j = l0 := by have := hl1'.out; omega
              subst this; exact le_refl' _⟩, Below.refl _ _⟩
            case round =>
              obtain ⟨m, b, rfl, rfl, ⟨i1, i2, i3, i4, i5⟩, hbx⟩ := hrel
              have i5' : Hid (∀ j, l0 ≤ j → j < b → bef (h1 j) (h1 m) = false) := i5
              clear i5
              by_cases hbl : b < lim
              · have hdb : decide (b < lim) = true := decide_eq_true hbl
                obtain ⟨ob, hob⟩ := hwf'.out (h1 b).seq
                obtain ⟨om, hom⟩ := hwf'.out (h1 m).seq
                have hbk : b ≠ k := by have := hl0k.out; omega
                have hmk : m ≠ k := by have := hl0k.out; omega
                have hbr := hb1.below hbx hb1.lt
                have cb0 : wr.cell? ⟨g, b * 3, none⟩ = some (.int .i64 (h1 b).t) := by rw [hbr.cell]; exact hcells1'.out b 0 (by omega) (by omega) hbk
                have cb1 : wr.cell? ⟨g, b * 3 + 1, none⟩ = some (.int .u64 (h1 b).seq) := by rw [hbr.cell]; exact hcells1'.out b 1 (by omega) (by omega) hbk
                have cb2 : wr.cell? ⟨g, b * 3 + 2, none⟩ = some (.iface 46 (.pointer (some ⟨ob, 0, none⟩))) := by rw [hbr.cell, ← hob]; exact hcells1'.out b 2 (by omega) (by omega) hbk
                have cm0 : wr.cell? ⟨g, m * 3, none⟩ = some (.int .i64 (h1 m).t) := by rw [hbr.cell]; exact hcells1'.out m 0 (by omega) (by omega) hmk
                have cm1 : wr.cell? ⟨g, m * 3 + 1, none⟩ = some (.int .u64 (h1 m).seq) := by rw [hbr.cell]; exact hcells1'.out m 1 (by omega) (by omega) hmk
                have cm2 : wr.cell? ⟨g, m * 3 + 2, none⟩ = some (.iface 46 (.pointer (some ⟨om, 0, none⟩))) := by rw [hbr.cell, ← hom]; exact hcells1'.out m 2 (by omega) (by omega) hmk
                clear hob hom hbr
                have hmn : m < n := by omega
                have hbn : b < n := by omega
                have hbf := before_calls (h1 b) (h1 m) (.iface 46 (.pointer (some ⟨ob, 0, none⟩))) (.iface 46 (.pointer (some ⟨om, 0, none⟩)))
                obtain ⟨bf, hbfv⟩ : ∃ x, x = bef (h1 b) (h1 m) := ⟨_, rfl⟩
                rw [← hbfv] at hbf
                have hbfv' : Hid (bf = bef (h1 b) (h1 m)) := hbfv
                clear hbfv
                go_upto_region 15 with fail
                go_cut [61] from 44 to 62 (fun v wx => v = .bool bf ∧ Below wO.heap.size wO wx)
                case first =>
                  go_region_with (go_at_call 30; refine (hbf _).mono ?_; rintro ex w3 ⟨rfl, hb3⟩; have hb3' : Below wr.heap.size wr w3 := (by refine Below.trans ?_ hb3; exact ⟨rfl, rfl, rfl, Nat.le_refl _, fun _ _ => rfl⟩))
                  all_goals
                    go_wp2
                    go_meet
                    case rel => exact ⟨by first | rfl | simp, hbx.trans (hb3'.mono hbx.size)⟩
                case rest =>
                  obtain ⟨rfl, hby⟩ := hcut
                  clear cb0 cb1 cb2 cm0 cm1 cm2 hbf
                  cases bf with
                  | true =>
                    have hnew : ∀ j, l0 ≤ j → j < b + 1 → bef (h1 j) (h1 b) = false := fun j a1 a2 => by
                      by_cases e1 : j = b
                      · subst e1; exact le_refl' _
                      · exact le_trans' (le_of_bef hbfv'.out.symm) (i5'.out j a1 (by omega))
                    have hnew' : Hid (∀ j, l0 ≤ j → j < b + 1 → bef (h1 j) (h1 b) = false) := hnew
                    clear hnew
                    go_wp2
                    first
                      | exact ⟨⟨b, b + 1, rfl, by first | rfl | trivial | simp, ⟨by omega, by omega, by omega, by omega, hnew'.out⟩, hby⟩, by simp [intOf]; omega⟩
                      | (go_roundw
                         case rel => ((repeat apply Exists.intro); refine ⟨?rr, rfl⟩; exact ⟨b, b + 1, rfl, by first | rfl | trivial | simp, ⟨by omega, by omega, by omega, by omega, hnew'.out⟩, hby⟩)
                         case measure => simp [intOf]; omega)
                  | false =>
                    have hnew : ∀ j, l0 ≤ j → j < b + 1 → bef (h1 j) (h1 m) = false := fun j a1 a2 => by
                      by_cases e1 : j = b
                      · subst e1; exact hbfv'.out.symm
                      · exact i5'.out j a1 (by omega)
                    have hnew' : Hid (∀ j, l0 ≤ j → j < b + 1 → bef (h1 j) (h1 m) = false) := hnew
                    clear hnew
                    go_wp2
                    first
                      | exact ⟨⟨m, b + 1, rfl, by first | rfl | trivial | simp, ⟨by omega, by omega, by omega, by omega, hnew'.out⟩, hby⟩, by simp [intOf]; omega⟩
                      | (go_roundw
                         case rel => ((repeat apply Exists.intro); refine ⟨?rr, rfl⟩; exact ⟨m, b + 1, rfl, by first | rfl | trivial | simp, ⟨by omega, by omega, by omega, by omega, hnew'.out⟩, hby⟩)
                         case measure => simp [intOf]; omega)
              · have hdb : decide (b < lim) = false := decide_eq_false hbl
                go_wp2
                go_meet
                case rel =>
                  refine ⟨m, rfl, ⟨by have := hl0k.out; have := hk5k.out; omega, by omega, by omega, fun j a1 a2 a3 => i5'.out j (by have := hl0k.out; omega) (by have := hl0k.out; have := hk5k.out; have := hlim'.out; omega)⟩, hbx⟩
          case rest =>
            obtain ⟨m, rfl, hleast, hbx⟩ := hcut
            have hmn : m < n := hleast.2.2.1
            have hkm : k < m := by have h1 := hleast.1; have h2 := hleast.2.1; omega
            have hleast' : Hid (LeastOf h1 k n m) := hleast
            clear hleast
            have hb2 := hb1.below hbx hb1.lt
            have hc2 := hc1.below hbx hc1.lt
            have hR2 := hR1.below hbx hR1.lt
            have hF2 := hF1.below hbx hF1.lt
            have hL2 := hL1.below hbx hL1.lt
            have hfr2 : Fr c (some g) R w wc := hfr1.trans (Fr.of_below (hbx.mono (by have := hfr1.size; have := hRv'.out; omega)))
            clear hb1 hc1 hR1 hF1 hL1 hfr1 hbx
            obtain ⟨wP, hwP⟩ : ∃ x, x = wc := ⟨_, rfl⟩
            rw [← hwP] at hb2 hc2 hR2 hF2 hL2 hfr2 ⊢
            clear hwP
            obtain ⟨om, hom⟩ := hwf'.out (h1 m).seq
            have cm0 : wP.cell? ⟨g, m * 3, none⟩ = some (.int .i64 (h1 m).t) := by rw [hb2.cell]; exact hcells1'.out m 0 (by omega) (by omega) (by omega)
            have cm1 : wP.cell? ⟨g, m * 3 + 1, none⟩ = some (.int .u64 (h1 m).seq) := by rw [hb2.cell]; exact hcells1'.out m 1 (by omega) (by omega) (by omega)
            have cm2 : wP.cell? ⟨g, m * 3 + 2, none⟩ = some (.iface 46 (.pointer (some ⟨om, 0, none⟩))) := by rw [hb2.cell, ← hom]; exact hcells1'.out m 2 (by omega) (by omega) (by omega)
            have hom' : Hid (wf (h1 m).seq = .iface 46 (.pointer (some ⟨om, 0, none⟩))) := hom
            clear hom
            have z0 := hL2.cell 0
            have z1 := hL2.cell 1
            have z2 := hL2.cell 2
            simp at z0 z1 z2
            have hbf := before_calls (h1 m) e (.iface 46 (.pointer (some ⟨om, 0, none⟩))) (.iface 46 (.pointer (some ⟨on, 0, none⟩)))
            obtain ⟨bf, hbfv⟩ : ∃ x, x = bef (h1 m) e := ⟨_, rfl⟩
            rw [← hbfv] at hbf
            have hbfv' : Hid (bf = bef (h1 m) e) := hbfv
            clear hbfv
            go_upto_region 17 with fail
            go_cut [69] from 36 to 77 (fun v wx => v = .bool (!bf) ∧ Below wP.heap.size wP wx)
            case first =>
              go_region_with (go_at_call 30; refine (hbf _).mono ?_; rintro ex w3 ⟨rfl, hb3⟩; have hb3' : Below wP.heap.size wP w3 := (by refine Below.trans ?_ hb3; exact ⟨rfl, rfl, rfl, Nat.le_refl _, fun _ _ => rfl⟩))
              all_goals
                go_wp2
                go_meet
                case rel => exact ⟨by first | rfl | simp, hb3'⟩
            case rest =>
              obtain ⟨rfl, hby⟩ := hcut
              have hb3 := hb2.below hby hb2.lt
              have hc3 := hc2.below hby hc2.lt
              have hR3 := hR2.below hby hR2.lt
              have hF3 := hF2.below hby hF2.lt
              have hL3 := hL2.below hby hL2.lt
              have hfr3 : Fr c (some g) R w wc := hfr2.trans (Fr.of_below (hby.mono (by have := hfr2.size; have := hRv'.out; omega)))
              have dm0 : wc.cell? ⟨g, m * 3, none⟩ = some (.int .i64 (h1 m).t) := by rw [hby.cell (by exact hb2.lt)]; exact cm0
              have dm1 : wc.cell? ⟨g, m * 3 + 1, none⟩ = some (.int .u64 (h1 m).seq) := by rw [hby.cell (by exact hb2.lt)]; exact cm1
              have dm2 : wc.cell? ⟨g, m * 3 + 2, none⟩ = some (.iface 46 (.pointer (some ⟨om, 0, none⟩))) := by rw [hby.cell (by exact hb2.lt)]; exact cm2
              clear hb2 hc2 hR2 hF2 hL2 hfr2 cm0 cm1 cm2 z0 z1 z2 hbf hby
              cases bf with
              | false =>
                go_wp2
                go_meet
                case rel => exact ⟨k, h1, cs1, rfl, hb3, hsz1, hcells1'.out, hdn'.out, Or.inr ⟨m, hleast'.out, hbfv'.out.symm⟩, hc3, hR3, hF3, hL3, hfr3⟩
              | true =>
                have hset := set3 (h := h1) (wf := wf) (n := n) (k := k) (h1 m) hsz1 (by omega) (fun j r a1 a2 a3 => hcells1'.out j r a1 a2 a3)
                rw [hom'.out] at hset
                have hset' : Hid (∀ j r, j < n → r < 3 → (((cs1.setIfInBounds (k * 3) (.int .i64 (h1 m).t)).setIfInBounds (k * 3 + 1) (.int .u64 (h1 m).seq)).setIfInBounds (k * 3 + 2) (.iface 46 (.pointer (some ⟨om, 0, none⟩))))[j * 3 + r]? = some (evC wf (upd h1 k (h1 m) j) r)) := hset
                have hnext : Hid (DownInv h (upd h1 k (h1 m)) m n e) := hdn'.out.step hleast'.out hbfv'.out.symm
                clear hset
                obtain ⟨y0, hy0⟩ : ∃ y, wc.cell? ⟨g, k * 3, none⟩ = some y := ⟨_, by rw [hb3.cell]; exact Array.getElem?_eq_getElem (by omega)⟩
                have f0 := hb3.frozen (k * 3)
                have hb4 := hb3.set (k * 3) (.int .i64 (h1 m).t)
                obtain ⟨y1, hy1⟩ : ∃ y, (wc.setCell ⟨g, k * 3, none⟩ (.int .i64 (h1 m).t)).cell? ⟨g, k * 3 + 1, none⟩ = some y := ⟨_, by rw [hb4.cell]; exact Array.getElem?_eq_getElem (by simp; omega)⟩
                have f1 := hb4.frozen (k * 3 + 1)
                have hb5 := hb4.set (k * 3 + 1) (.int .u64 (h1 m).seq)
                obtain ⟨y2, hy2⟩ : ∃ y, ((wc.setCell ⟨g, k * 3, none⟩ (.int .i64 (h1 m).t)).setCell ⟨g, k * 3 + 1, none⟩ (.int .u64 (h1 m).seq)).cell? ⟨g, k * 3 + 2, none⟩ = some y := ⟨_, by rw [hb5.cell]; exact Array.getElem?_eq_getElem (by simp; omega)⟩
                have f2 := hb5.frozen (k * 3 + 2)
                have hb6 := hb5.set (k * 3 + 2) (.iface 46 (.pointer (some ⟨om, 0, none⟩)))
                have hoth : ∀ {q : Nat} {T : TypeId} {ds : Array Value}, Blk wc q T ds → q ≠ g → Blk (((wc.setCell ⟨g, k * 3, none⟩ (.int .i64 (h1 m).t)).setCell ⟨g, k * 3 + 1, none⟩ (.int .u64 (h1 m).seq)).setCell ⟨g, k * 3 + 2, none⟩ (.iface 46 (.pointer (some ⟨om, 0, none⟩)))) q T ds := fun hq hne =>
                  ((hq.setOther ⟨g, k * 3, none⟩ _ hne).setOther ⟨g, k * 3 + 1, none⟩ _ hne).setOther ⟨g, k * 3 + 2, none⟩ _ hne
                have hc6 := hoth hc3 (Ne.symm hgc)
                have hR6 := hoth hR3 (Ne.symm hgR)
                have hF6 := hoth hF3 (Ne.symm hgF)
                have hL6 := hoth hL3 (Ne.symm hgL)
                have hfr6 := ((hfr3.setCell g (k * 3) (.int .i64 (h1 m).t) (Or.inr (Or.inl rfl))).setCell g (k * 3 + 1) (.int .u64 (h1 m).seq) (Or.inr (Or.inl rfl))).setCell g (k * 3 + 2) (.iface 46 (.pointer (some ⟨om, 0, none⟩))) (Or.inr (Or.inl rfl))
                have hszN : (((cs1.setIfInBounds (k * 3) (.int .i64 (h1 m).t)).setIfInBounds (k * 3 + 1) (.int .u64 (h1 m).seq)).setIfInBounds (k * 3 + 2) (.iface 46 (.pointer (some ⟨om, 0, none⟩)))).size = cap * 3 := by simpa using hsz1
                clear hoth hc3 hR3 hF3 hL3 hfr3
                go_wp2
                first
                  | exact ⟨⟨m, _, _, rfl, hb6, hszN, fun j r a1 a2 _ => hset'.out j r a1 a2, hnext.out, hc6, hR6, hF6, hL6, hfr6⟩, by simp [intOf]; omega⟩
                  | (go_roundw
                     case rel => ((repeat apply Exists.intro); refine ⟨?rr, rfl⟩; exact ⟨m, _, _, rfl, hb6, hszN, fun j r a1 a2 _ => hset'.out j r a1 a2, hnext.out, hc6, hR6, hF6, hL6, hfr6⟩)
                     case measure => simp [intOf]; omega)
        · have hd1 : decide (n ≤ l0) = true := decide_eq_true (by omega)
          go_wp2
          go_meet
          case rel => exact ⟨k, h1, cs1, rfl, hb1, hsz1, hcells1'.out, hdn'.out, Or.inl (by have := hl0k.out; omega), hc1, hR1, hF1, hL1, hfr1⟩
    case rest =>
      obtain ⟨k, h1, cs1, rfl, hb1, hsz1, hcells1, hdn, hexit, hc1, hR1, hF1, hL1, hfr1⟩ := hcut
      have hkn : k < n := hdn.lt
      have hfin : Hid (Heap (upd h1 k e) n ∧ ∀ p, cnt p (upd h1 k e) n + (if p (h 0) then 1 else 0) = cnt p h (n + 1)) := hdn.done hexit
      have hset := set3 (h := h1) (wf := wf) (n := n) (k := k) e hsz1 (by omega) (fun j r a1 a2 a3 => hcells1 j r a1 a2 a3)
      rw [hon'.out] at hset
      have hset' : Hid (∀ j r, j < n → r < 3 → (((cs1.setIfInBounds (k * 3) (.int .i64 e.t)).setIfInBounds (k * 3 + 1) (.int .u64 e.seq)).setIfInBounds (k * 3 + 2) (.iface 46 (.pointer (some ⟨on, 0, none⟩))))[j * 3 + r]? = some (evC wf (upd h1 k e j) r)) := hset
      clear hset hcells1 hdn hexit hcells0 hdown0 hcells6 hb7 hc7 hR7 hF7 hL7 hfr7
      have z0 := hL1.cell 0
      have z1 := hL1.cell 1
      have z2 := hL1.cell 2
      simp at z0 z1 z2
      obtain ⟨y0, hy0⟩ : ∃ y, wc.cell? ⟨g, k * 3, none⟩ = some y := ⟨_, by rw [hb1.cell]; exact Array.getElem?_eq_getElem (by omega)⟩
      have f0 := hb1.frozen (k * 3)
      have hb2 := hb1.set (k * 3) (.int .i64 e.t)
      obtain ⟨y1, hy1⟩ : ∃ y, (wc.setCell ⟨g, k * 3, none⟩ (.int .i64 e.t)).cell? ⟨g, k * 3 + 1, none⟩ = some y := ⟨_, by rw [hb2.cell]; exact Array.getElem?_eq_getElem (by simp; omega)⟩
      have f1 := hb2.frozen (k * 3 + 1)
      have hb3 := hb2.set (k * 3 + 1) (.int .u64 e.seq)
      obtain ⟨y2, hy2⟩ : ∃ y, ((wc.setCell ⟨g, k * 3, none⟩ (.int .i64 e.t)).setCell ⟨g, k * 3 + 1, none⟩ (.int .u64 e.seq)).cell? ⟨g, k * 3 + 2, none⟩ = some y := ⟨_, by rw [hb3.cell]; exact Array.getElem?_eq_getElem (by simp; omega)⟩
      have f2 := hb3.frozen (k * 3 + 2)
      have hb4 := hb3.set (k * 3 + 2) (.iface 46 (.pointer (some ⟨on, 0, none⟩)))
      have hoth : ∀ {q : Nat} {T : TypeId} {ds : Array Value}, Blk wc q T ds → q ≠ g → Blk (((wc.setCell ⟨g, k * 3, none⟩ (.int .i64 e.t)).setCell ⟨g, k * 3 + 1, none⟩ (.int .u64 e.seq)).setCell ⟨g, k * 3 + 2, none⟩ (.iface 46 (.pointer (some ⟨on, 0, none⟩)))) q T ds := fun hq hne =>
        ((hq.setOther ⟨g, k * 3, none⟩ _ hne).setOther ⟨g, k * 3 + 1, none⟩ _ hne).setOther ⟨g, k * 3 + 2, none⟩ _ hne
      have hc4 := hoth hc1 (Ne.symm hgc)
      have hR4 := hoth hR1 (Ne.symm hgR)
      have hF4 := hoth hF1 (Ne.symm hgF)
      have hfr4 := ((hfr1.setCell g (k * 3) (.int .i64 e.t) (Or.inr (Or.inl rfl))).setCell g (k * 3 + 1) (.int .u64 e.seq) (Or.inr (Or.inl rfl))).setCell g (k * 3 + 2) (.iface 46 (.pointer (some ⟨on, 0, none⟩))) (Or.inr (Or.inl rfl))
      have hsz4 : (((cs1.setIfInBounds (k * 3) (.int .i64 e.t)).setIfInBounds (k * 3 + 1) (.int .u64 e.seq)).setIfInBounds (k * 3 + 2) (.iface 46 (.pointer (some ⟨on, 0, none⟩)))).size = cap * 3 := by simpa using hsz1
      clear hoth
      obtain ⟨⟨r1, r2, r3, r4, r5⟩, ⟨r6, r7⟩, ⟨r8, r9⟩, hR8⟩ := hret2.out _ hR4 hF4
      have e0 := hR8.cell 0
      have e1 := hR8.cell 1
      have e2 := hR8.cell 2
      simp at e0 e1 e2
      have hc8 := ((hc4.setOther ⟨R, 0, none⟩ (.int .i64 f.t) (by show c ≠ R; omega)).setOther ⟨R, 1, none⟩ (.int .u64 f.seq) (by show c ≠ R; omega)).setOther ⟨R, 2, none⟩ (.iface 46 (.pointer (some ⟨o, 0, none⟩))) (by show c ≠ R; omega)
      have hb8 := ((hb4.setOther ⟨R, 0, none⟩ (.int .i64 f.t) hgR).setOther ⟨R, 1, none⟩ (.int .u64 f.seq) hgR).setOther ⟨R, 2, none⟩ (.iface 46 (.pointer (some ⟨o, 0, none⟩))) hgR
      have hfr8 := ((hfr4.setCell R 0 (.int .i64 f.t) (Or.inr (Or.inr (Nat.le_refl _)))).setCell R 1 (.int .u64 f.seq) (Or.inr (Or.inr (Nat.le_refl _)))).setCell R 2 (.iface 46 (.pointer (some ⟨o, 0, none⟩))) (Or.inr (Or.inr (Nat.le_refl _)))
      go_wp2
      (try simp only [Exit.inBlock, Exit.then])
      refine bodyPost_ret (by simp [results, Yba.results33, go_sem, e0, e1, e2]; try rfl) rfl ?_
      refine ⟨by rw [hf'.out], _, upd h1 k e, hc8, Or.inr ⟨g, cap, _, rfl, hg, hb8, by omega, hcap, hsz4, hset'.out⟩, hfin.out.1, ?_, ?_, rfl⟩
      · exact hfin.out.2
      · rw [← hRv'.out]; exact hfr8
end Go.Proofs.Ybulkeeeq
