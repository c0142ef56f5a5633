import Derived.Test.YbulkeeawFmtSlots
namespace Go.Proofs.YbulkeeawFmt
open Go.RowKit
set_option linter.unusedVariables false

/-- A session's cells. -/
def sessV (T : Nat) (off C cs : Nat) (lbA : Option Addr) (nL cL : Nat) (st buf : Nat) : Array Value :=
  #[.pointer (some ⟨T, 0, none⟩), .int .i64 off, .int .i64 C, .int .i64 cs, .slice lbA nL cL, .int .i64 st, .int .i64 buf, .string ByteArray.empty]

set_option maxHeartbeats 400000 in
theorem checkSlot_calls (off j : Nat) (hj : 1 ≤ j) (w : World) : Calls Ybaf.prog 21 #[.int .i64 off, .int .i64 j] w fun e w' => e = .returned (.tuple #[]) ∧ w' = w := by
  have h1 : decide ((off : Int) < 0) = false := decide_eq_false (by omega)
  have h2 : decide ((j : Int) < 1) = false := decide_eq_false (by omega)
  go_enter Ybaf.func21, Ybaf.ntmps21
  go_wp2
  go_end0
  exact ⟨rfl, rfl⟩

set_option maxHeartbeats 400000 in
theorem slotBits_calls (T sp : Nat) (kb : Nat → Nat) (m off j : Nat) (w : World) (h : Tr w T sp kb m) (hoff : off ≤ 64) (hj : 1 ≤ j) (hj1 : j ≤ 64) :
    Calls Ybaf.prog 18 #[.pointer (some ⟨T, 0, none⟩), .int .i64 off, .int .i64 j] w fun e w' => e = .returned (.int .i64 (W kb m (off + j - 1) 1 : Nat)) ∧ Below w.heap.size w w' := by
  have hs := tslots_calls T sp kb m off j 1 w h hoff hj hj1 (by omega)
  have hck := checkSlot_calls off j hj
  generalize W kb m (off + j - 1) 1 = y at *
  go_enter Ybaf.func18, Ybaf.ntmps18
  go_wp2_with (first
    | (go_at_call 21; refine (hck _).mono ?_; rintro e w1 ⟨rfl, hw1⟩; obtain rfl := hw1.symm; clear hw1)
    | (go_at_call 20; refine hs.mono ?_; rintro e w2 ⟨rfl, hb⟩))
  go_ret
  exact ⟨rfl, hb⟩

set_option maxHeartbeats 400000 in
theorem sslots_calls (T sp : Nat) (kb : Nat → Nat) (m off C cs : Nat) (lbA : Option Addr) (nL cL st buf : Nat) (f t n : Nat) (w : World) (h : Tr w T sp kb m) (hoff : off ≤ 64) (hf : 1 ≤ f) (hf1 : f ≤ 64) (hn : n ≤ 64) (ht : t + 1 = f + n) :
    Calls Ybaf.prog 16 #[.agg (sessV T off C cs lbA nL cL st buf), .int .i64 f, .int .i64 t] w fun e w' => e = .returned (.int .i64 (W kb m (off + f - 1) n : Nat)) ∧ Below w.heap.size w w' := by
  have hs := fun w' (hb : Below w.heap.size w w') => tslots_calls T sp kb m off f n w' (h.grown hb) hoff hf hf1 hn
  generalize W kb m (off + f - 1) n = y at *
  have hT := h.blk.lt
  have hn' : (t : Int) - (f : Int) + 1 = (n : Int) := by omega
  have hn2 : wrap64 ((t : Int) - (f : Int)) = (n : Int) - 1 := by unfold wrap64; omega
  have ht1 : t ≤ 128 := by omega
  clear h
  unfold sessV
  go_enter Ybaf.func16, Ybaf.ntmps16
  go_wp2_with (go_at_call 20; refine (hs _ ((Below.refl _ w).alloc (Nat.le_refl _) _)).mono ?_; rintro e w2 ⟨rfl, hb⟩)
  go_ret
  exact ⟨rfl, ((Below.refl _ w).alloc (Nat.le_refl _) _).trans (hb.mono (by simp))⟩

set_option maxHeartbeats 400000 in
theorem chunkSec_calls (cs : Nat) (lbA : Option Addr) (nL cL : Nat) (w : World) : Calls Ybaf.prog 19 #[.agg #[.int .i64 cs, .slice lbA nL cL]] w fun e w' => e = .returned (.int .i64 cs) ∧ Below w.heap.size w w' := by
  go_enter Ybaf.func19, Ybaf.ntmps19
  go_wp2
  go_ret
  exact ⟨rfl, (Below.refl _ w).alloc (Nat.le_refl _) _⟩

set_option maxHeartbeats 400000 in
theorem layers_calls (cs : Nat) (lbA : Option Addr) (nL cL : Nat) (w : World) : Calls Ybaf.prog 10 #[.agg #[.int .i64 cs, .slice lbA nL cL]] w fun e w' => e = .returned (.int .i64 nL) ∧ Below w.heap.size w w' := by
  go_enter Ybaf.func10, Ybaf.ntmps10
  go_wp2
  go_ret
  exact ⟨rfl, (Below.refl _ w).alloc (Nat.le_refl _) _⟩

set_option maxHeartbeats 400000 in
theorem layerBits_calls (cs : Nat) (g : Nat) (nL cL k : Nat) (v : Int) (w : World) (hk : k < nL) (hc : w.cell? ⟨g, k, none⟩ = some (.int .i64 v)) : Calls Ybaf.prog 12 #[.agg #[.int .i64 cs, .slice (some ⟨g, 0, none⟩) nL cL], .int .i64 k] w fun e w' => e = .returned (.int .i64 v) ∧ Below w.heap.size w w' := by
  have hg : g < w.heap.size := lt_of_cell hc
  go_enter Ybaf.func12, Ybaf.ntmps12
  go_wp2
  go_ret
  exact ⟨rfl, (Below.refl _ w).alloc (Nat.le_refl _) _⟩

/-- Deadline(i + 1) -/
def dl (cs st i : Nat) : Nat := i * cs + st

set_option maxHeartbeats 1000000 in
theorem deadline_calls (T off C cs : Nat) (lbA : Option Addr) (nL cL st buf : Nat) (i : Nat) (w : World) (hi : i ≤ 64) (hcs : cs ≤ 64) (hst : st ≤ 64) :
    Calls Ybaf.prog 14 #[.agg (sessV T off C cs lbA nL cL st buf), .int .i64 (i + 1 : Nat)] w fun e w' => e = .returned (.int .i64 (dl cs st i : Nat)) ∧ Below w.heap.size w w' := by
  have hch := fun w => chunkSec_calls cs lbA nL cL w
  obtain ⟨j, hj⟩ : ∃ j, j = i + 1 := ⟨_, rfl⟩
  rw [← hj]
  have e1 : IntKind.i64.wrap ((j : Int) - 1) = (i : Int) := by rw [IntKind.wrap_i64]; omega
  obtain ⟨p, hp⟩ : ∃ p, p = i * cs := ⟨_, rfl⟩
  have hp1 : p ≤ 64 * 64 := by rw [hp]; exact Nat.mul_le_mul hi hcs
  have e2 : IntKind.i64.wrap ((i : Int) * (cs : Int)) = (p : Int) := by rw [hp, IntKind.wrap_i64, ← Int.natCast_mul, ← hp]; omega
  have e3 : IntKind.i64.wrap ((p : Int) + (st : Int)) = (dl cs st i : Int) := by rw [IntKind.wrap_i64]; unfold dl; rw [← hp]; omega
  generalize dl cs st i = r at *
  clear hp hj hp1 hi hcs hst
  unfold sessV
  go_enter Ybaf.func14, Ybaf.ntmps14
  go_wp2
  go_region_with (go_at_call 19; refine (hch _).mono ?_; rintro e w1 ⟨rfl, hb1⟩; have hbw : Below w.heap.size w w1 := (by refine Below.trans ?_ (hb1.mono (by simp)); exact ⟨rfl, rfl, rfl, by simp, fun k hk => by (exact Below.heap_alloc _ _ _ hk)⟩); have c5 : w1.cell? ⟨w.heap.size, 5, none⟩ = some (.int .i64 st) := (by rw [hb1.cell (by simp)]; simp))
  all_goals
    go_wp2
    go_ret
    exact ⟨by first | rfl | simp, hbw⟩

end Go.Proofs.YbulkeeawFmt
