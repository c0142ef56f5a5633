import Derived.Test.YbulkeeeqRowE
import Derived.Test.YbulkeeeqApp
namespace Go.Proofs.Ybulkeeeq
open Go.RowKit
set_option linter.unusedVariables false

/-- Below B all but block c and the row is as it was. -/
structure Fr (c : Nat) (row : Option Nat) (B : Nat) (w w' : World) : Prop where
  os : w'.os = w.os
  tape : w'.tape = w.tape
  output : w'.output = w.output
  size : w.heap.size ≤ w'.heap.size
  block : ∀ k, k < B → k ≠ c → some k ≠ row → w'.heap[k]? = w.heap[k]?
theorem Fr.trans {c : Nat} {row : Option Nat} {B : Nat} {x y z : World} (h : Fr c row B x y) (k : Fr c row B y z) : Fr c row B x z :=
  ⟨k.os.trans h.os, k.tape.trans h.tape, k.output.trans h.output, Nat.le_trans h.size k.size, fun i hi h1 h2 => (k.block i hi h1 h2).trans (h.block i hi h1 h2)⟩
theorem Fr.of_below {c : Nat} {row : Option Nat} {B : Nat} {w w' : World} (h : Below B w w') : Fr c row B w w' := ⟨h.os, h.tape, h.output, h.size, fun k hk _ _ => h.block k hk⟩
theorem Fr.of_grown {c : Nat} {row : Option Nat} {B : Nat} {w w' : World} (h : w.grownBy w' row) (hB : B ≤ w.heap.size) : Fr c row B w w' := ⟨h.os, h.tape, h.output, h.size, fun k hk _ h2 => h.block k (by omega) h2⟩
theorem Fr.setCell {c : Nat} {row : Option Nat} {B : Nat} {x w : World} (h : Fr c row B x w) (g j : Nat) (v : Value) (hg : g = c ∨ some g = row ∨ B ≤ g) : Fr c row B x (w.setCell ⟨g, j, none⟩ v) :=
  h.trans ⟨rfl, rfl, rfl, by simp [World.setCell], fun k hk h1 h2 => Below.heap_setCell _ _ _ _ (by
    show k ≠ g
    rcases hg with e | e | e
    · omega
    · intro e'; subst e'; exact h2 e
    · omega)⟩
theorem Fr.drewN {c : Nat} {row : Option Nat} {B : Nat} {x w : World} (h : Fr c row B x w) (n : Nat) : Fr c row B x (w.drewN n) := h.trans ⟨rfl, rfl, rfl, Nat.le_refl _, fun _ _ _ _ => rfl⟩

theorem Blk.grown {w w' : World} {row : Option Nat} {c : Nat} {T : TypeId} {cs : Array Value} (h : Blk w c T cs) (hg : w.grownBy w' row) (hne : some c ≠ row) : Blk w' c T cs := by
  have := h.lt; unfold Blk at h ⊢; rw [hg.block c this hne]; exact h
theorem owns_form {w : World} {base : Nat} {e : TypeId} {size : Nat} {v : Value} {n : Nat} {xs : List Value} (h : w.ownsRow base e size v n xs) (hv : v ≠ .slice none 0 0) : ∃ g cap, v = .slice (some ⟨g, 0, none⟩) n cap ∧ base ≤ g ∧ g < w.heap.size := by
  rcases h.2 with ⟨h1, _⟩ | ⟨g, cap, cur, rfl, hg, hh, _⟩
  · exact absurd h1 hv
  · exact ⟨g, cap, rfl, hg, Blk.lt (T := e) (cs := cur) hh⟩
theorem EvRow.own_ge {w : World} {base : Nat} {wf : Nat → Value} {v : Value} {n : Nat} {h : Nat → Ev} (hr : EvRow w base wf v n h) {c : Nat} (hc : c < base) : some c ≠ v.ownBlock := by
  rcases hr with ⟨rfl, _⟩ | ⟨g, cap, cs, rfl, h1, _⟩
  · simp [Value.ownBlock]
  · simp [Value.ownBlock]; omega
theorem EvRow.own_lt {w : World} {base : Nat} {wf : Nat → Value} {v : Value} {n : Nat} {h : Nat → Ev} (hr : EvRow w base wf v n h) {c : Nat} (hc : w.heap.size ≤ c) : some c ≠ v.ownBlock := by
  rcases hr with ⟨rfl, _⟩ | ⟨g, cap, cs, rfl, h1, h2, _⟩
  · simp [Value.ownBlock]
  · have := h2.lt
    simp [Value.ownBlock]; omega
theorem Fresh.mono {w w' : World} {v v' : Value} (h : Fresh w' v v') (hs : w.heap.size ≤ w'.heap.size) : Fresh w v v' := by
  rcases h with h | ⟨g, h1, h2⟩
  · exact Or.inl h
  · exact Or.inr ⟨g, h1, by omega⟩
theorem below_box2 (w : World) (o1 o2 : Obj) : Below w.heap.size w ((w.alloc o1).drew.alloc o2) :=
  (show Below w.heap.size w (w.alloc o1).drew from ⟨rfl, rfl, rfl, by simp, fun k hk => Below.heap_alloc _ _ _ hk⟩).alloc (by simp) o2
theorem evs_snoc (wf : Nat → Value) (h : Nat → Ev) (n : Nat) (e : Ev) : evs wf h n ++ [.int .i64 e.t, .int .u64 e.seq, wf e.seq] = evs wf (upd h n e) (n + 1) := by
  simp only [evs, upd_self]
  rw [evs_congr (h' := upd h n e) (fun j hj => (upd_ne h e (by omega)).symm)]
theorem news3 {w : World} {b : Nat} {x y z : Value} (h0 : w.cell? ⟨b, 0, none⟩ = some x) (h1 : w.cell? ⟨b, 1, none⟩ = some y) (h2 : w.cell? ⟨b, 2, none⟩ = some z) : ∀ j u, [x, y, z][j]? = some u → w.cell? ((⟨b, 0, none⟩ : Addr).add j) = some u := by
  intro j u hj
  rw [WideShapes.add_plain, Nat.zero_add]
  match j, hj with
  | 0, hj => simp at hj; subst hj; exact h0
  | 1, hj => simp at hj; subst hj; exact h1
  | 2, hj => simp at hj; subst hj; exact h2

set_option maxHeartbeats 4000000 in
set_option maxRecDepth 100000 in
theorem push_calls (c qi base n : Nat) (Tc : TypeId) (cl : Array Value) (wf : Nat → Value) (v : Value) (h : Nat → Ev) (e : Ev) (w : World)
    (hc : Blk w c Tc cl) (hv : cl[qi]? = some v) (hr : EvRow w base wf v n h) (hcb : c < base) (hbase : base ≤ w.heap.size) (hn : n ≤ 1000000) (hwf : ∀ s, ∃ o, wf s = .iface 46 (.pointer (some ⟨o, 0, none⟩))) (hh : Heap h n) :
    Calls Yba.prog 19 #[.pointer (some ⟨c, qi, none⟩), .agg #[.int .i64 e.t, .int .u64 e.seq, wf e.seq]] w fun ex w' => ex = .returned (.tuple #[]) ∧ ∃ v' h', Blk w' c Tc (cl.setIfInBounds qi v') ∧ EvRow w' base wf v' (n + 1) h' ∧ Heap h' (n + 1) ∧
      (∀ p, cnt p h' (n + 1) = cnt p h n + (if p e then 1 else 0)) ∧ Fr c v.ownBlock w.heap.size w w' ∧ Fresh w v v' := by
  obtain ⟨i0, hi, hz0, hz1, hz2⟩ := info_parts info54
  have hcl := hc.lt
  have hcq : w.cell? ⟨c, qi, none⟩ = some v := by rw [hc.cell]; exact hv
  have hfq := hc.frozen qi
  obtain ⟨o, ho⟩ := hwf e.seq
  have hwe' : Hid (Value.iface 46 (.pointer (some ⟨o, 0, none⟩)) = wf e.seq) := ho.symm
  rw [ho]
  have hwf' : Hid (∀ s, ∃ o, wf s = .iface 46 (.pointer (some ⟨o, 0, none⟩))) := hwf
  clear ho hwf
  go_enter Yba.func19, Yba.ntmps19
  go_upto_region 1 with fail
  go_cut [] from 7 to 14 (fun wc => ∃ v', Blk wc c Tc (cl.setIfInBounds qi v') ∧ EvRow wc base wf v' (n + 1) (upd h n e) ∧ v' ≠ .slice none 0 0 ∧ Blk wc w.heap.size 54 #[.int .i64 e.t, .int .u64 e.seq, .iface 46 (.pointer (some ⟨o, 0, none⟩))] ∧ Fr c v.ownBlock w.heap.size w wc ∧ Fresh w v v' ∧ some w.heap.size ≠ v'.ownBlock)
  case first =>
    have hownA := hr.owns
    have hcne := hr.own_ge hcb
    have hEne : some w.heap.size ≠ v.ownBlock := hr.own_lt (Nat.le_refl _)
    have h1c : ∀ u ∈ [Value.int .i64 e.t, .int .u64 e.seq, .iface 46 (.pointer (some ⟨o, 0, none⟩))], u.oneCell' = true := by
      intro u hu
      simp only [List.mem_cons, List.not_mem_nil, or_false] at hu
      rcases hu with rfl | rfl | rfl
      · rfl
      · rfl
      · rfl
    have h1c' : Hid (∀ u ∈ [Value.int .i64 e.t, .int .u64 e.seq, .iface 46 (.pointer (some ⟨o, 0, none⟩))], u.oneCell' = true) := h1c
    have hown' : Hid (w.ownsRow base 54 3 v n (evs wf h n)) := hownA
    clear hownA h1c
    go_region_law (refine step_append_fresh rfl (.tmp 10) (.tmp 12) 27 rfl base 54 i0 _ 3 32 Yba.underlying27 hi hz0 hz1 hz2 rfl (by decide) v n (evs wf h n) rfl (by exact ((hown'.out.alloc _).drew.alloc _)) ⟨w.heap.size + 1, 0, none⟩ 1 1 [.int .i64 e.t, .int .u64 e.seq, .iface 46 (.pointer (some ⟨o, 0, none⟩))] rfl rfl (news3 (by simp) (by simp) (by simp)) h1c'.out (by unfold maxLen; omega) (by omega) (by simp; omega) (by omega) ?_; intro v' w1 h1 h2 h3 h4; have hB1 : Blk w1 c Tc cl := Blk.grown (by exact ((hc.alloc _).drew.alloc _)) h2 hcne; have hE1 : Blk w1 w.heap.size 54 #[.int .i64 e.t, .int .u64 e.seq, .iface 46 (.pointer (some ⟨o, 0, none⟩))] := Blk.grown (by exact (((Blk.new w 54 #[.int .i64 e.t, .int .u64 e.seq, .iface 46 (.pointer (some ⟨o, 0, none⟩))]).drew).alloc _)) h2 hEne; obtain ⟨g, cap, hv', hgb, hgl⟩ := owns_form h1 h3; subst hv'; have hk1 : w1.cell? ⟨c, qi, none⟩ = some v := (hB1.cell qi).trans hv; have hk2 := hB1.frozen qi)
    all_goals
      have hrow1 : EvRow w1 base wf (.slice (some ⟨g, 0, none⟩) (n + 1) cap) (n + 1) (upd h n e) := EvRow.of_owns (by rw [← evs_snoc, ← hwe'.out]; exact h1)
      have hf4 : Fresh w v (.slice (some ⟨g, 0, none⟩) (n + 1) cap) := h4.mono (by simp; omega)
      have hE4 : some w.heap.size ≠ (Value.slice (some ⟨g, 0, none⟩) (n + 1) cap).ownBlock := by
        rcases h4 with h5 | ⟨g', h5, h6⟩
        · rw [h5]; exact hEne
        · rw [h5]; simp at h6; simp; omega
      have hfr : Fr c v.ownBlock w.heap.size w w1 := (Fr.of_below (below_box2 w _ _)).trans (Fr.of_grown h2 (by simp; omega))
      go_wp2
      go_meet
      case rel => exact ⟨_, hB1.set qi _, hrow1.of_block (fun k hk => Below.heap_setCell _ _ _ _ (by simp [Value.ownBlock] at hk; subst hk; show g ≠ c; omega)), by simp, hE1.setOther _ _ (by show w.heap.size ≠ c; omega), hfr.setCell c qi _ (Or.inl rfl), hf4, hE4⟩
  case rest =>
    obtain ⟨v', hBc, hrow, hnn, hE, hfr, hfresh, hEg⟩ := hcut
    rcases hrow with ⟨_, h0⟩ | ⟨g, cap, cs, rfl, hg, hb, hle, hcap, hsz, hcells⟩
    · omega
    have hqs : qi < cl.size := (Array.getElem?_eq_some_iff.1 hv).1
    have hcq2 : wc.cell? ⟨c, qi, none⟩ = some (.slice (some ⟨g, 0, none⟩) (n + 1) cap) := by rw [hBc.cell, Array.getElem?_setIfInBounds_self_of_lt hqs]
    have hgset : g = c ∨ some g = v.ownBlock ∨ w.heap.size ≤ g := by
      rcases hfresh with hf | ⟨g', h1, h2⟩
      · exact Or.inr (Or.inl hf)
      · simp [Value.ownBlock] at h1; subst h1; exact Or.inr (Or.inr h2)
    have hgE : g ≠ w.heap.size := by
      intro e1
      apply hEg
      rw [← e1]; rfl
    have hgc : g ≠ c := by omega
    have hEc : w.heap.size ≠ c := by omega
    have hgset' : Hid (g = c ∨ some g = v.ownBlock ∨ w.heap.size ≤ g) := hgset
    have hfresh' : Hid (Fresh w v (.slice (some ⟨g, 0, none⟩) (n + 1) cap)) := hfresh
    clear hgset hfresh hEg hnn
    have hup0 : Hid (UpInv h (upd h n e) n n e) := UpInv.start e hh _ (fun j hj => upd_ne h e (by omega))
    have hcells0 : Hid (∀ j r, j < n + 1 → r < 3 → j ≠ n → cs[j * 3 + r]? = some (evC wf (upd h n e j) r)) := fun j r h1 h2 _ => hcells j r h1 h2
    clear hcells hc hcq hfq hr hh hz0 hz1 hz2 hi
    go_upto_block 0 with fail
    go_cut [5, 6] from 21 to 40 (fun v5 _ wc => ∃ (k : Nat) (h1 : Nat → Ev) (cs : Array Value), v5 = .int .i64 k ∧ Blk wc g 54 cs ∧ cs.size = cap * 3 ∧ (∀ j r, j < n + 1 → r < 3 → j ≠ k → cs[j * 3 + r]? = some (evC wf (h1 j) r)) ∧ UpInv h h1 k n e ∧ (k = 0 ∨ bef e (h1 ((k - 1) / 4)) = false) ∧
      Blk wc c Tc (cl.setIfInBounds qi (.slice (some ⟨g, 0, none⟩) (n + 1) cap)) ∧ Blk wc w.heap.size 54 #[.int .i64 e.t, .int .u64 e.seq, .iface 46 (.pointer (some ⟨o, 0, none⟩))] ∧ Fr c v.ownBlock w.heap.size w wc)
    case first =>
      go_wp2
      go_loopw [5, 6] (fun v5 _ wr => ∃ (k : Nat) (h1 : Nat → Ev) (cs : Array Value), v5 = .int .i64 k ∧ Blk wr g 54 cs ∧ cs.size = cap * 3 ∧ (∀ j r, j < n + 1 → r < 3 → j ≠ k → cs[j * 3 + r]? = some (evC wf (h1 j) r)) ∧ UpInv h h1 k n e ∧
          Blk wr c Tc (cl.setIfInBounds qi (.slice (some ⟨g, 0, none⟩) (n + 1) cap)) ∧ Blk wr w.heap.size 54 #[.int .i64 e.t, .int .u64 e.seq, .iface 46 (.pointer (some ⟨o, 0, none⟩))] ∧ Fr c v.ownBlock w.heap.size w wr)
        (fun v5 _ _ => (intOf v5).toNat)
      case atStart => exact ⟨n, upd h n e, cs, by first | rfl | simp, hb, hsz, hcells0.out, hup0.out, hBc, hE, hfr⟩
      case round =>
        obtain ⟨k, h1, cs1, rfl, hb1, hsz1, hcells1, hup, hBc1, hE1, hfr1⟩ := hrel
        have hkn : k ≤ n := hup.le
        have hcells1' : Hid (∀ j r, j < n + 1 → r < 3 → j ≠ k → cs1[j * 3 + r]? = some (evC wf (h1 j) r)) := hcells1
        have hup' : Hid (UpInv h h1 k n e) := hup
        clear hcells1 hup hb hcells0 hup0 hBc hE hfr hcq2
        by_cases hk : 0 < k
        · have hdk : decide (0 < k) = true := decide_eq_true hk
          obtain ⟨k1, hk1⟩ : ∃ x, x = k - 1 := ⟨_, rfl⟩
          have ek1 : (k : Int) - 1 = (k1 : Int) := by omega
          obtain ⟨up, hupv⟩ : ∃ x, x = (k - 1) / 4 := ⟨_, rfl⟩
          have eup : (k1 : Int) / 4 = (up : Int) := by omega
          have eup2 : Int.tdiv (k1 : Int) 4 = (up : Int) := by rw [Int.tdiv_eq_ediv_of_nonneg (by omega)]; exact eup
          have hupk : up < k := by omega
          have hupv' : Hid (up = (k - 1) / 4) := hupv
          clear hk1 hupv
          obtain ⟨o2, ho2⟩ := hwf'.out (h1 up).seq
          have cu0 : wr.cell? ⟨g, up * 3, none⟩ = some (.int .i64 (h1 up).t) := by rw [hb1.cell]; exact hcells1'.out up 0 (by omega) (by omega) (by omega)
          have cu1 : wr.cell? ⟨g, up * 3 + 1, none⟩ = some (.int .u64 (h1 up).seq) := by rw [hb1.cell]; exact hcells1'.out up 1 (by omega) (by omega) (by omega)
          have cu2 : wr.cell? ⟨g, up * 3 + 2, none⟩ = some (.iface 46 (.pointer (some ⟨o2, 0, none⟩))) := by rw [hb1.cell, ← ho2]; exact hcells1'.out up 2 (by omega) (by omega) (by omega)
          have ho2' : Hid (wf (h1 up).seq = .iface 46 (.pointer (some ⟨o2, 0, none⟩))) := ho2
          clear ho2
          have z0 := hE1.cell 0
          have z1 := hE1.cell 1
          have z2 := hE1.cell 2
          simp at z0 z1 z2
          have hbf := before_calls e (h1 up) (.iface 46 (.pointer (some ⟨o, 0, none⟩))) (.iface 46 (.pointer (some ⟨o2, 0, none⟩)))
          obtain ⟨bf, hbfv⟩ : ∃ b, b = bef e (h1 up) := ⟨_, rfl⟩
          rw [← hbfv] at hbf
          have hbfv' : Hid (bf = bef e (h1 up)) := hbfv
          clear hbfv
          go_upto_region 6 with fail
          go_cut [32] from 21 to 40 (fun v wx => v = .bool (!bf) ∧ Below wr.heap.size wr wx)
          case first =>
            go_region_with (go_at_call 30; refine (hbf _).mono ?_; rintro ex w3 ⟨rfl, hb3⟩; have hb3' : Below wr.heap.size wr w3 := (by refine Below.trans ?_ hb3; exact ⟨rfl, rfl, rfl, Nat.le_refl _, fun _ _ => rfl⟩))
            all_goals
              go_wp2
              go_meet
              case rel => exact ⟨by first | rfl | simp, hb3'⟩
          case rest =>
            obtain ⟨rfl, hbx⟩ := hcut
            have hb2 := hb1.below hbx hb1.lt
            have hBc2 := hBc1.below hbx hBc1.lt
            have hE2 := hE1.below hbx hE1.lt
            have hfr2 : Fr c v.ownBlock w.heap.size w wc := hfr1.trans (Fr.of_below (hbx.mono hfr1.size))
            have du0 : wc.cell? ⟨g, up * 3, none⟩ = some (.int .i64 (h1 up).t) := by rw [hbx.cell (by exact hb1.lt)]; exact cu0
            have du1 : wc.cell? ⟨g, up * 3 + 1, none⟩ = some (.int .u64 (h1 up).seq) := by rw [hbx.cell (by exact hb1.lt)]; exact cu1
            have du2 : wc.cell? ⟨g, up * 3 + 2, none⟩ = some (.iface 46 (.pointer (some ⟨o2, 0, none⟩))) := by rw [hbx.cell (by exact hb1.lt)]; exact cu2
            clear hb1 hBc1 hE1 hfr1 cu0 cu1 cu2 z0 z1 z2 hbf hbx
            cases bf with
            | false =>
              go_wp2
              go_meet
              case rel => exact ⟨k, h1, cs1, rfl, hb2, hsz1, hcells1'.out, hup'.out, Or.inr (by rw [← hupv'.out]; exact hbfv'.out.symm), hBc2, hE2, hfr2⟩
            | true =>
              have hset := set3 (h := h1) (wf := wf) (n := n + 1) (k := k) (h1 up) hsz1 (by omega) (fun j r a1 a2 a3 => hcells1'.out j r a1 a2 a3)
              rw [ho2'.out] at hset
              have hset' : Hid (∀ j r, j < n + 1 → r < 3 → (((cs1.setIfInBounds (k * 3) (.int .i64 (h1 up).t)).setIfInBounds (k * 3 + 1) (.int .u64 (h1 up).seq)).setIfInBounds (k * 3 + 2) (.iface 46 (.pointer (some ⟨o2, 0, none⟩))))[j * 3 + r]? = some (evC wf (upd h1 k (h1 up) j) r)) := hset
              have hnext : Hid (UpInv h (upd h1 k (h1 up)) up n e) := by
                have := hup'.out.step hk (by rw [← hupv'.out]; exact hbfv'.out.symm)
                rw [← hupv'.out] at this
                exact this
              clear hset
              obtain ⟨y0, hy0⟩ : ∃ y, wc.cell? ⟨g, k * 3, none⟩ = some y := ⟨_, by rw [hb2.cell]; exact Array.getElem?_eq_getElem (by omega)⟩
              have f0 := hb2.frozen (k * 3)
              have hb3 := hb2.set (k * 3) (.int .i64 (h1 up).t)
              obtain ⟨y1, hy1⟩ : ∃ y, (wc.setCell ⟨g, k * 3, none⟩ (.int .i64 (h1 up).t)).cell? ⟨g, k * 3 + 1, none⟩ = some y := ⟨_, by rw [hb3.cell]; exact Array.getElem?_eq_getElem (by simp; omega)⟩
              have f1 := hb3.frozen (k * 3 + 1)
              have hb4 := hb3.set (k * 3 + 1) (.int .u64 (h1 up).seq)
              obtain ⟨y2, hy2⟩ : ∃ y, ((wc.setCell ⟨g, k * 3, none⟩ (.int .i64 (h1 up).t)).setCell ⟨g, k * 3 + 1, none⟩ (.int .u64 (h1 up).seq)).cell? ⟨g, k * 3 + 2, none⟩ = some y := ⟨_, by rw [hb4.cell]; exact Array.getElem?_eq_getElem (by simp; omega)⟩
              have f2 := hb4.frozen (k * 3 + 2)
              have hb5 := hb4.set (k * 3 + 2) (.iface 46 (.pointer (some ⟨o2, 0, none⟩)))
              have hBc5 := ((hBc2.setOther ⟨g, k * 3, none⟩ (.int .i64 (h1 up).t) (Ne.symm hgc)).setOther ⟨g, k * 3 + 1, none⟩ (.int .u64 (h1 up).seq) (Ne.symm hgc)).setOther ⟨g, k * 3 + 2, none⟩ (.iface 46 (.pointer (some ⟨o2, 0, none⟩))) (Ne.symm hgc)
              have hE5 := ((hE2.setOther ⟨g, k * 3, none⟩ (.int .i64 (h1 up).t) (Ne.symm hgE)).setOther ⟨g, k * 3 + 1, none⟩ (.int .u64 (h1 up).seq) (Ne.symm hgE)).setOther ⟨g, k * 3 + 2, none⟩ (.iface 46 (.pointer (some ⟨o2, 0, none⟩))) (Ne.symm hgE)
              have hfr5 := ((hfr2.setCell g (k * 3) (.int .i64 (h1 up).t) hgset'.out).setCell g (k * 3 + 1) (.int .u64 (h1 up).seq) hgset'.out).setCell g (k * 3 + 2) (.iface 46 (.pointer (some ⟨o2, 0, none⟩))) hgset'.out
              go_wp2
              have hsz5 : (((cs1.setIfInBounds (k * 3) (.int .i64 (h1 up).t)).setIfInBounds (k * 3 + 1) (.int .u64 (h1 up).seq)).setIfInBounds (k * 3 + 2) (.iface 46 (.pointer (some ⟨o2, 0, none⟩)))).size = cap * 3 := by simpa using hsz1
              first
                | exact ⟨⟨up, _, _, rfl, hb5, hsz5, fun j r a1 a2 _ => hset'.out j r a1 a2, hnext.out, hBc5, hE5, hfr5⟩, by simp [intOf]; omega⟩
                | (go_roundw
                   case rel => ((repeat apply Exists.intro); refine ⟨?rr, rfl⟩; exact ⟨up, _, _, rfl, hb5, hsz5, fun j r a1 a2 _ => hset'.out j r a1 a2, hnext.out, hBc5, hE5, hfr5⟩)
                   case measure => simp [intOf]; omega)
        · have hdk : decide (0 < k) = false := decide_eq_false hk
          go_wp2
          go_meet
          case rel => exact ⟨k, h1, cs1, rfl, hb1, hsz1, hcells1'.out, hup'.out, Or.inl (by omega), hBc1, hE1, hfr1⟩
    case rest =>
      obtain ⟨k, h1, cs1, rfl, hb1, hsz1, hcells1, hup, hexit, hBc1, hE1, hfr1⟩ := hcut
      have hkn : k ≤ n := hup.le
      have hfin : Hid (Heap (upd h1 k e) (n + 1) ∧ ∀ p, cnt p (upd h1 k e) (n + 1) = cnt p h n + (if p e then 1 else 0)) := hup.done hexit
      have hset := set3 (h := h1) (wf := wf) (n := n + 1) (k := k) e hsz1 (by omega) (fun j r a1 a2 a3 => hcells1 j r a1 a2 a3)
      have hset' : Hid (∀ j r, j < n + 1 → r < 3 → (((cs1.setIfInBounds (k * 3) (.int .i64 e.t)).setIfInBounds (k * 3 + 1) (.int .u64 e.seq)).setIfInBounds (k * 3 + 2) (wf e.seq))[j * 3 + r]? = some (evC wf (upd h1 k e j) r)) := hset
      clear hset hcells1 hup hexit hcells0 hup0
      have z0 := hE1.cell 0
      have z1 := hE1.cell 1
      have z2 := hE1.cell 2
      simp at z0 z1 z2
      obtain ⟨y0, hy0⟩ : ∃ y, wc.cell? ⟨g, k * 3, none⟩ = some y := ⟨_, by rw [hb1.cell]; exact Array.getElem?_eq_getElem (by omega)⟩
      have f0 := hb1.frozen (k * 3)
      have hb2 := hb1.set (k * 3) (.int .i64 e.t)
      obtain ⟨y1, hy1⟩ : ∃ y, (wc.setCell ⟨g, k * 3, none⟩ (.int .i64 e.t)).cell? ⟨g, k * 3 + 1, none⟩ = some y := ⟨_, by rw [hb2.cell]; exact Array.getElem?_eq_getElem (by simp; omega)⟩
      have f1 := hb2.frozen (k * 3 + 1)
      have hb3 := hb2.set (k * 3 + 1) (.int .u64 e.seq)
      obtain ⟨y2, hy2⟩ : ∃ y, ((wc.setCell ⟨g, k * 3, none⟩ (.int .i64 e.t)).setCell ⟨g, k * 3 + 1, none⟩ (.int .u64 e.seq)).cell? ⟨g, k * 3 + 2, none⟩ = some y := ⟨_, by rw [hb3.cell]; exact Array.getElem?_eq_getElem (by simp; omega)⟩
      have f2 := hb3.frozen (k * 3 + 2)
      have hb4 := hb3.set (k * 3 + 2) (.iface 46 (.pointer (some ⟨o, 0, none⟩)))
      have hBc4 := ((hBc1.setOther ⟨g, k * 3, none⟩ (.int .i64 e.t) (Ne.symm hgc)).setOther ⟨g, k * 3 + 1, none⟩ (.int .u64 e.seq) (Ne.symm hgc)).setOther ⟨g, k * 3 + 2, none⟩ (.iface 46 (.pointer (some ⟨o, 0, none⟩))) (Ne.symm hgc)
      have hfr4 := ((hfr1.setCell g (k * 3) (.int .i64 e.t) hgset'.out).setCell g (k * 3 + 1) (.int .u64 e.seq) hgset'.out).setCell g (k * 3 + 2) (.iface 46 (.pointer (some ⟨o, 0, none⟩))) hgset'.out
      go_wp2
      go_end0
      refine ⟨rfl, _, upd h1 k e, hBc4, Or.inr ⟨g, cap, _, rfl, hg, hb4, hle, hcap, by simpa using hsz1, ?_⟩, hfin.out.1, hfin.out.2, hfr4, hfresh'.out⟩
      rw [hwe'.out]
      exact hset'.out
end Go.Proofs.Ybulkeeeq
