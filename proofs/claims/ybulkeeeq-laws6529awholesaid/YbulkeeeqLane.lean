import Derived.Test.YbulkeeeqSched
namespace Go.Proofs.Ybulkeeeq
open Go.RowKit
set_option linter.unusedVariables false

set_option maxHeartbeats 2000000 in
set_option maxRecDepth 100000 in
theorem lpush_calls (l base n : Nat) (dly : Int) (wf : Nat → Value) (v : Value) (h : Nat → Ev) (e : Ev) (w : World)
    (hl : Blk w l 42 #[.int .i64 dly, v, .int .i64 0]) (hr : EvRow w base wf v n h) (hlb : l < base) (hbase : base ≤ w.heap.size) (hn : n ≤ 1000000) (hv0 : n = 0 → v = .slice none 0 0) (hwf : ∀ s, ∃ o, wf s = .iface 46 (.pointer (some ⟨o, 0, none⟩))) :
    Calls Yba.prog 7 #[.pointer (some ⟨l, 0, none⟩), .agg #[.int .i64 e.t, .int .u64 e.seq, wf e.seq]] w fun ex w' => ex = .returned (.tuple #[]) ∧ ∃ v', Blk w' l 42 #[.int .i64 dly, v', .int .i64 0] ∧ EvRow w' base wf v' (n + 1) (upd h n e) ∧ v' ≠ .slice none 0 0 ∧ Fr l v.ownBlock w.heap.size w w' ∧ Fresh w v v' := by
  obtain ⟨i0, hi, hz0, hz1, hz2⟩ := info_parts info54
  have hll := hl.lt
  obtain ⟨o, ho⟩ := hwf e.seq
  have hwe' : Hid (Value.iface 46 (.pointer (some ⟨o, 0, none⟩)) = wf e.seq) := ho.symm
  rw [ho]
  clear ho hwf
  have hlne := hr.own_ge hlb
  have hEne : some w.heap.size ≠ v.ownBlock := hr.own_lt (Nat.le_refl _)
  have h1c : Hid (∀ u ∈ [Value.int .i64 e.t, .int .u64 e.seq, .iface 46 (.pointer (some ⟨o, 0, none⟩))], u.oneCell' = true) := by
    intro u hu
    simp only [List.mem_cons, List.not_mem_nil, or_false] at hu
    rcases hu with rfl | rfl | rfl <;> rfl
  have hE0 := Blk.new w 54 #[.int .i64 e.t, .int .u64 e.seq, .iface 46 (.pointer (some ⟨o, 0, none⟩))]
  have hl0 : Blk (w.alloc (.cells #[.int .i64 e.t, .int .u64 e.seq, .iface 46 (.pointer (some ⟨o, 0, none⟩))] 54)) l 42 #[.int .i64 dly, v, .int .i64 0] := hl.alloc _
  have hr0 : EvRow (w.alloc (.cells #[.int .i64 e.t, .int .u64 e.seq, .iface 46 (.pointer (some ⟨o, 0, none⟩))] 54)) base wf v n h := hr.of_block (fun k hk => Below.heap_alloc _ _ _ (by
    rcases hr with ⟨rfl, _⟩ | ⟨g, cap, cs, rfl, q1, q2, _⟩
    · simp [Value.ownBlock] at hk
    · simp [Value.ownBlock] at hk; subst hk; exact q2.lt))
  have hb0 : Below w.heap.size w (w.alloc (.cells #[.int .i64 e.t, .int .u64 e.seq, .iface 46 (.pointer (some ⟨o, 0, none⟩))] 54)) := (Below.refl _ w).alloc (Nat.le_refl _) _
  have hs0 : (w.alloc (.cells #[.int .i64 e.t, .int .u64 e.seq, .iface 46 (.pointer (some ⟨o, 0, none⟩))] 54)).heap.size = w.heap.size + 1 := by simp
  go_enter Yba.func7, Yba.ntmps7
  go_upto_region 1 with fail
  obtain ⟨w1, hw1⟩ : ∃ x, x = w.alloc (.cells #[.int .i64 e.t, .int .u64 e.seq, .iface 46 (.pointer (some ⟨o, 0, none⟩))] 54) := ⟨_, rfl⟩
  rw [← hw1] at hE0 hl0 hr0 hb0 hs0 ⊢
  clear hw1
  have c1 := hl0.cell 1
  have c2 := hl0.cell 2
  simp at c1 c2
  go_cut [13] from 4 to 13 (fun v13 wc => v13 = .bool (decide (n = 0)) ∧ ∃ nq, wc = w1.drewN nq)
  case first =>
    by_cases h0 : n = 0
    · have hvn := hv0 h0
      subst hvn
      subst h0
      go_quiet (fail)
      go_wp2
      go_meet
      case rel => exact ⟨by first | rfl | simp, _, rfl⟩
    · rcases hr0 with ⟨_, h1⟩ | ⟨g, cap, cs, rfl, q1, q2, _⟩
      · omega
      have hd : ((0 : Int) == (n : Int)) = false := by simp; omega
      go_quiet (fail)
      go_wp2
      go_meet
      case rel => exact ⟨by first | rfl | simp [h0], _, rfl⟩
  case rest =>
    obtain ⟨rfl, nq, rfl⟩ := hcut
    have hl1 : Blk (w1.drewN nq) l 42 #[.int .i64 dly, v, .int .i64 0] := hl0
    have hE1 : Blk (w1.drewN nq) w.heap.size 54 #[.int .i64 e.t, .int .u64 e.seq, .iface 46 (.pointer (some ⟨o, 0, none⟩))] := hE0
    have hr1 : EvRow (w1.drewN nq) base wf v n h := hr0
    have hfr1 : Fr l v.ownBlock w.heap.size w (w1.drewN nq) := (Fr.of_below hb0).drewN nq
    have hs1 : (w1.drewN nq).heap.size = w.heap.size + 1 := hs0
    obtain ⟨w2, hw2⟩ : ∃ x, x = w1.drewN nq := ⟨_, rfl⟩
    rw [← hw2] at hl1 hE1 hr1 hfr1 hs1 ⊢
    clear hw2 hl0 hE0 hr0 hb0 hs0 c1 c2 hl hr
    have c1 := hl1.cell 1
    have c2 := hl1.cell 2
    simp at c1 c2
    go_upto_if 13 with fail
    go_cut [] from 13 to 24 (fun wc => Blk wc l 42 #[.int .i64 dly, v, .int .i64 0] ∧ Blk wc w.heap.size 54 #[.int .i64 e.t, .int .u64 e.seq, .iface 46 (.pointer (some ⟨o, 0, none⟩))] ∧ EvRow wc base wf v n h ∧ Fr l v.ownBlock w.heap.size w wc ∧ wc.heap.size = w.heap.size + 1)
    case first =>
      by_cases h0 : n = 0
      · have hvn := hv0 h0
        subst hvn
        subst h0
        have g1 := hl1.frozen 1
        have hl2 := hl1.set 1 (.slice none 0 0)
        have g2 := hl2.frozen 2
        have k2 := hl2.cell 2
        simp at k2
        have hl3 := hl2.set 2 (.int .i64 0)
        go_wp2
        go_meet
        case rel => exact ⟨hl3, (hE1.setOther _ _ (by show w.heap.size ≠ l; omega)).setOther _ _ (by show w.heap.size ≠ l; omega), Or.inl ⟨rfl, rfl⟩, (hfr1.setCell l 1 _ (Or.inl rfl)).setCell l 2 _ (Or.inl rfl), by simpa [World.setCell] using hs1⟩
      · have hd : decide (n = 0) = false := decide_eq_false h0
        go_wp2
        go_meet
        case rel => exact ⟨hl1, hE1, hr1, hfr1, hs1⟩
    case rest =>
      obtain ⟨hl3, hE3, hr3, hfr3, hs3⟩ := hcut
      clear hl1 hE1 hr1 hfr1 hs1 c1 c2
      have c1 := hl3.cell 1
      have f1 := hl3.frozen 1
      have z0 := hE3.cell 0
      have z1 := hE3.cell 1
      have z2 := hE3.cell 2
      simp at c1 z0 z1 z2
      have hown' : Hid (wc.ownsRow base 54 3 v n (evs wf h n)) := hr3.owns
      clear hr3
      go_upto_region 3 with fail
      go_region_law (refine step_append_fresh rfl (.tmp 29) (.tmp 31) 26 rfl base 54 i0 _ 3 32 Yba.underlying26 hi hz0 hz1 hz2 rfl (by decide) v n (evs wf h n) rfl (by exact (hown'.out.drew.alloc _)) ⟨w.heap.size + 1, 0, none⟩ 1 1 [.int .i64 e.t, .int .u64 e.seq, .iface 46 (.pointer (some ⟨o, 0, none⟩))] (by simp [Act.eval]) rfl (news3 (by simp [← hs3]) (by simp [← hs3]) (by simp [← hs3])) h1c.out (by unfold maxLen; omega) (by omega) (by simp; omega) (by omega) ?_; intro v' w4 h1 h2 h3 h4; have hB1 : Blk w4 l 42 #[.int .i64 dly, v, .int .i64 0] := Blk.grown (by exact (hl3.drew.alloc _)) h2 hlne; obtain ⟨g, cap, hv', hgb, hgl⟩ := owns_form h1 h3; subst hv'; have hk1 : w4.cell? ⟨l, 1, none⟩ = some v := (hB1.cell 1); have hk2 := hB1.frozen 1)
      all_goals
        have hrow1 : EvRow w4 base wf (.slice (some ⟨g, 0, none⟩) (n + 1) cap) (n + 1) (upd h n e) := EvRow.of_owns (by rw [← evs_snoc, ← hwe'.out]; exact h1)
        have hf4 : Fresh w v (.slice (some ⟨g, 0, none⟩) (n + 1) cap) := h4.mono (by simp; omega)
        have hbW : Below w.heap.size wc (wc.alloc (.cells #[.int .i64 e.t, .int .u64 e.seq, .iface 46 (.pointer (some ⟨o, 0, none⟩))] 54)).drew := ⟨rfl, rfl, rfl, by simp, fun k hk => Below.heap_alloc _ _ _ (by omega)⟩
        have hfr : Fr l v.ownBlock w.heap.size w w4 := (hfr3.trans (Fr.of_below hbW)).trans (Fr.of_grown h2 (by simp; omega))
        have hBset := hB1.set 1 (.slice (some ⟨g, 0, none⟩) (n + 1) cap)
        clear hbW
        go_wp2
        go_end0
        exact ⟨rfl, _, hBset, hrow1.of_block (fun k hk => Below.heap_setCell _ _ _ _ (by simp [Value.ownBlock] at hk; subst hk; show g ≠ l; omega)), by simp, hfr.setCell l 1 _ (Or.inl rfl), hf4⟩
end Go.Proofs.Ybulkeeeq
