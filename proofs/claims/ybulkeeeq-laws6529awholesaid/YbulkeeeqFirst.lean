import Derived.Test.YbulkeeeqLane
namespace Go.Proofs.Ybulkeeeq
open Go.RowKit
set_option linter.unusedVariables false

/-- A lane: its events' slice v, of which hd are taken: what lies from hd on is told. -/
def EvFrom (w : World) (base : Nat) (wf : Nat → Value) (v : Value) (hd n : Nat) (h : Nat → Ev) : Prop :=
  (v = .slice none 0 0 ∧ n = 0) ∨ ∃ g cap cs, v = .slice (some ⟨g, 0, none⟩) n cap ∧ base ≤ g ∧ Blk w g 54 cs ∧ n ≤ cap ∧ cap ≤ maxLen ∧ cs.size = cap * 3 ∧ ∀ j r, hd ≤ j → j < n → r < 3 → cs[j * 3 + r]? = some (evC wf (h j) r)
theorem EvRow.from0 {w : World} {base : Nat} {wf : Nat → Value} {v : Value} {n : Nat} {h : Nat → Ev} (hr : EvRow w base wf v n h) : EvFrom w base wf v 0 n h := by
  rcases hr with hr | ⟨g, cap, cs, h0, h1, h2, h3, h4, h5, h6⟩
  · exact Or.inl hr
  · exact Or.inr ⟨g, cap, cs, h0, h1, h2, h3, h4, h5, fun j r _ hj hr => h6 j r hj hr⟩
theorem EvFrom.of_block {w w' : World} {base : Nat} {wf : Nat → Value} {v : Value} {hd n : Nat} {h : Nat → Ev} (hr : EvFrom w base wf v hd n h) (hb : ∀ g, v.ownBlock = some g → w'.heap[g]? = w.heap[g]?) : EvFrom w' base wf v hd n h := by
  rcases hr with hr | ⟨g, cap, cs, h0, h1, h2, h3⟩
  · exact Or.inl hr
  · refine Or.inr ⟨g, cap, cs, h0, h1, ?_, h3⟩
    subst h0
    unfold Blk at h2 ⊢
    rw [hb g rfl]; exact h2

theorem len_of {w : World} {base : Nat} {wf : Nat → Value} {v : Value} {n : Nat} {h : Nat → Ev} (hr : EvRow w base wf v n h) : ∃ a c, v = .slice a n c := by
  rcases hr with ⟨rfl, rfl⟩ | ⟨g, cap, cs, rfl, _⟩
  · exact ⟨none, 0, rfl⟩
  · exact ⟨_, _, rfl⟩

set_option maxHeartbeats 1000000 in
set_option maxRecDepth 100000 in
theorem lfirst_none (l n : Nat) (dly : Int) (a : Option Addr) (cp : Nat) (w : World) (hl : Blk w l 42 #[.int .i64 dly, .slice a n cp, .int .i64 n]) :
    Calls Yba.prog 31 #[.pointer (some ⟨l, 0, none⟩)] w fun ex w' => ex = .returned (.tuple #[.agg #[.int .i64 0, .int .u64 0, .nilIface], .bool false]) ∧ Below w.heap.size w w' := by
  have hll := hl.lt
  have c1 := hl.cell 1
  have c2 := hl.cell 2
  simp at c1 c2
  go_enter Yba.func31, Yba.ntmps31
  go_upto_region 1 with fail
  go_quiet (fail)
  go_wp2
  (try simp only [Exit.inBlock, Exit.then])
  refine bodyPost_ret (by simp [results, Yba.results31, go_sem]; try rfl) rfl ?_
  exact ⟨rfl, (((below_drewN ((Below.refl _ w).alloc (Nat.le_refl _) _) nq).setCell (by exact Nat.le_refl _) _).setCell (by exact Nat.le_refl _) _).setCell (by exact Nat.le_refl _) _⟩

set_option maxHeartbeats 1000000 in
set_option maxRecDepth 100000 in
theorem lfirst_some (l n hd base : Nat) (dly : Int) (wf : Nat → Value) (v : Value) (h : Nat → Ev) (w : World) (hl : Blk w l 42 #[.int .i64 dly, v, .int .i64 hd]) (hr : EvFrom w base wf v hd n h) (hlt : hd < n) (hn : n ≤ 1000000) (hwf : ∀ s, ∃ o, wf s = .iface 46 (.pointer (some ⟨o, 0, none⟩))) :
    Calls Yba.prog 31 #[.pointer (some ⟨l, 0, none⟩)] w fun ex w' => ex = .returned (.tuple #[.agg #[.int .i64 (h hd).t, .int .u64 (h hd).seq, wf (h hd).seq], .bool true]) ∧ Below w.heap.size w w' := by
  have hll := hl.lt
  rcases hr with ⟨_, h0⟩ | ⟨g, cap, cs, rfl, hg, hb, hle, hcap, hsz, hcells⟩
  · omega
  have hgl := hb.lt
  obtain ⟨o, ho⟩ := hwf (h hd).seq
  have cf0 : w.cell? ⟨g, hd * 3, none⟩ = some (.int .i64 (h hd).t) := by rw [hb.cell]; exact hcells hd 0 (Nat.le_refl _) hlt (by omega)
  have cf1 : w.cell? ⟨g, hd * 3 + 1, none⟩ = some (.int .u64 (h hd).seq) := by rw [hb.cell]; exact hcells hd 1 (Nat.le_refl _) hlt (by omega)
  have cf2 : w.cell? ⟨g, hd * 3 + 2, none⟩ = some (.iface 46 (.pointer (some ⟨o, 0, none⟩))) := by rw [hb.cell, ← ho]; exact hcells hd 2 (Nat.le_refl _) hlt (by omega)
  rw [ho]
  have c1 := hl.cell 1
  have c2 := hl.cell 2
  simp at c1 c2
  have hd1 : ((hd : Int) == (n : Int)) = false := by simp; omega
  clear hcells ho hwf hsz hcap
  go_enter Yba.func31, Yba.ntmps31
  go_upto_region 1 with fail
  go_quiet (fail)
  go_upto_region 3 with fail
  go_region
  all_goals
    go_wp2
    (try simp only [Exit.inBlock, Exit.then])
    refine bodyPost_ret (by simp [results, Yba.results31, go_sem]; try rfl) rfl ?_
    exact ⟨rfl, (((below_drewN ((Below.refl _ w).alloc (Nat.le_refl _) _) _).setCell (by exact Nat.le_refl _) _).setCell (by exact Nat.le_refl _) _).setCell (by exact Nat.le_refl _) _⟩
end Go.Proofs.Ybulkeeeq
