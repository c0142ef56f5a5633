import Derived.Test.YbulkeeeqPop
namespace Go.Proofs.Ybulkeeeq
open Go.RowKit
set_option linter.unusedVariables false

set_option maxHeartbeats 1000000 in
theorem sched_calls (c base n sq : Nat) (cl : Array Value) (wf : Nat → Value) (v : Value) (h : Nat → Ev) (e : Ev) (o : Nat) (w : World)
    (hc : Blk w c 33 cl) (hv : cl[1]? = some v) (hs : cl[3]? = some (.int .u64 sq)) (hsz : cl.size = 6) (hr : EvRow w base wf v n h) (hcb : c < base) (hbase : base ≤ w.heap.size) (hn : n ≤ 1000000) (hsq : sq ≤ 1000000) (hes : e.seq = sq + 1) (hwe : wf (sq + 1) = .iface 46 (.pointer (some ⟨o, 0, none⟩)))
    (hwf : ∀ s, ∃ o, wf s = .iface 46 (.pointer (some ⟨o, 0, none⟩))) (hh : Heap h n) :
    Calls Yba.prog 6 #[.pointer (some ⟨c, 0, none⟩), .int .i64 e.t, .iface 46 (.pointer (some ⟨o, 0, none⟩))] w fun ex w' => ex = .returned (.tuple #[]) ∧ ∃ v' h', Blk w' c 33 ((cl.setIfInBounds 3 (.int .u64 (sq + 1 : Nat))).setIfInBounds 1 v') ∧ EvRow w' base wf v' (n + 1) h' ∧ Heap h' (n + 1) ∧
      (∀ p, cnt p h' (n + 1) = cnt p h n + (if p e then 1 else 0)) ∧ Fr c v.ownBlock w.heap.size w w' ∧ Fresh w v v' := by
  have hcl := hc.lt
  have c3 : w.cell? ⟨c, 3, none⟩ = some (.int .u64 sq) := by rw [hc.cell]; exact hs
  have f3 := hc.frozen 3
  have hc1 := hc.set 3 (.int .u64 ((sq : Int) + 1))
  have d3 : (w.setCell ⟨c, 3, none⟩ (.int .u64 ((sq : Int) + 1))).cell? ⟨c, 3, none⟩ = some (.int .u64 ((sq : Int) + 1)) := by rw [hc1.cell, Array.getElem?_setIfInBounds_self_of_lt (by omega)]
  have hr1 : EvRow (w.setCell ⟨c, 3, none⟩ (.int .u64 ((sq : Int) + 1))) base wf v n h := hr.of_block (fun k hk => Below.heap_setCell _ _ _ _ (by
    have := hr.own_ge hcb
    show k ≠ c
    intro e1; subst e1; exact this hk.symm))
  have hpu : ∀ w', Below w.heap.size (w.setCell ⟨c, 3, none⟩ (.int .u64 ((sq : Int) + 1))) w' → Calls Yba.prog 19 #[.pointer (some ⟨c, 1, none⟩), .agg #[.int .i64 e.t, .int .u64 ((sq : Int) + 1), .iface 46 (.pointer (some ⟨o, 0, none⟩))]] w' fun ex w2 => ex = .returned (.tuple #[]) ∧ ∃ v' h', Blk w2 c 33 ((cl.setIfInBounds 3 (.int .u64 (sq + 1 : Nat))).setIfInBounds 1 v') ∧ EvRow w2 base wf v' (n + 1) h' ∧ Heap h' (n + 1) ∧
      (∀ p, cnt p h' (n + 1) = cnt p h n + (if p e then 1 else 0)) ∧ Fr c v.ownBlock w.heap.size w w2 ∧ Fresh w v v' := by
    intro w' hb
    have hsz' : w.heap.size ≤ w'.heap.size := by have := hb.size; simp [World.setCell] at this; exact this
    have hp := push_calls c 1 base n 33 (cl.setIfInBounds 3 (.int .u64 (sq + 1 : Nat))) wf v h e w' (hc1.below hb hcl) (by rw [Array.getElem?_setIfInBounds_ne (by omega)]; exact hv)
      (hr1.of_block (fun k hk => hb.block k (by
        rcases hr with ⟨rfl, _⟩ | ⟨g, cap, cs, rfl, q1, q2, _⟩
        · simp [Value.ownBlock] at hk
        · simp [Value.ownBlock] at hk; subst hk; exact q2.lt))) hcb (by omega) hn hwf hh
    rw [hes, hwe] at hp
    refine hp.mono ?_
    rintro ex w2 ⟨rfl, v', h', q1, q2, q3, q4, q5, q6⟩
    have hfr0 : Fr c v.ownBlock w.heap.size w (w.setCell ⟨c, 3, none⟩ (.int .u64 ((sq : Int) + 1))) := (Fr.of_below (Below.refl _ w)).setCell c 3 _ (Or.inl rfl)
    exact ⟨rfl, v', h', q1, q2, q3, q4, (hfr0.trans (Fr.of_below hb)).trans ⟨q5.os, q5.tape, q5.output, q5.size, fun k hk => q5.block k (by omega)⟩, q6.mono hsz'⟩
  have hpu' : Hid (∀ w', Below w.heap.size (w.setCell ⟨c, 3, none⟩ (.int .u64 ((sq : Int) + 1))) w' → Calls Yba.prog 19 #[.pointer (some ⟨c, 1, none⟩), .agg #[.int .i64 e.t, .int .u64 ((sq : Int) + 1), .iface 46 (.pointer (some ⟨o, 0, none⟩))]] w' fun ex w2 => ex = .returned (.tuple #[]) ∧ ∃ v' h', Blk w2 c 33 ((cl.setIfInBounds 3 (.int .u64 (sq + 1 : Nat))).setIfInBounds 1 v') ∧ EvRow w2 base wf v' (n + 1) h' ∧ Heap h' (n + 1) ∧
      (∀ p, cnt p h' (n + 1) = cnt p h n + (if p e then 1 else 0)) ∧ Fr c v.ownBlock w.heap.size w w2 ∧ Fresh w v v') := hpu
  clear hpu hr hr1 hh hwf hwe hes
  go_enter Yba.func6, Yba.ntmps6
  go_upto_region 1 with fail
  go_region_with (go_at_call 19; refine (hpu'.out _ (by exact ⟨rfl, rfl, rfl, Nat.le_refl _, fun _ _ => rfl⟩)).mono ?_; rintro ex w2 ⟨rfl, hpost⟩)
  all_goals
    go_wp2
    go_end0
    exact ⟨rfl, hpost⟩
end Go.Proofs.Ybulkeeeq
