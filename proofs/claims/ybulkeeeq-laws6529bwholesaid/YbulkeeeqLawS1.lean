import Derived.Test.YbulkeeeqLawT
namespace Go.Proofs.Ybulkeeeq
open Go.RowKit
set_option linter.unusedVariables false

set_option maxHeartbeats 20000000 in
set_option maxRecDepth 1000000 in
theorem sec1 : trunkB.owed.g1 := by
  intro N cap a en vb sh sl eh el sp st s w hN b1 b2 b3 b4 b5 b6 i3 hi3 hz3 hs3 hb3 B hvals' hvn' hkz' hby' hread' hgt b8 m8 _ w1 hbase1 hB' hs1' w2 _ _ hir hbase2 hs2' _ _ _ _
  go_wp2
  go_loopw [18, 66] (fun _ v66 wr => ∃ (i : Nat) (f : Nat → Nat), v66 = .int .i64 i ∧ i ≤ N ∧ IRow wr (B + 1) N f ∧ (∀ j, j < i → f j = j) ∧ Base N cap a w wr B ∧ wr.heap.size = B + 1 + 1) (fun _ v66 _ => N - (intOf v66).toNat)
  case atStart => exact ⟨0, _, rfl, Nat.zero_le _, hir.out, fun j hj => by omega, hbase2.out, hs2'.out⟩
  case round =>
    obtain ⟨i, f, rfl, hiN, hrow, hff, hbs, hsz⟩ := hrel
    have hrow' : Hid (IRow wr (B + 1) N f) := hrow
    have hff' : Hid (∀ j, j < i → f j = j) := hff
    have hbs' : Hid (Base N cap a w wr B) := hbs
    have hsz' : Hid (wr.heap.size = B + 1 + 1) := hsz
    by_cases hlt : i < N
    · have hd : decide (i < N) = true := decide_eq_true hlt
      have cc := hrow.cell hlt
      obtain ⟨cs, q1, q2, q3⟩ := hrow
      have ff := q1.frozen i
      have hl := q1.lt
      obtain ⟨i1, hi1⟩ : ∃ x, x = i + 1 := ⟨_, rfl⟩
      have ei1 : (i : Int) + 1 = (i1 : Int) := by omega
      have hi1' : Hid (i1 = i + 1) := hi1
      have hnx : Hid (IRow (wr.setCell ⟨B + 1, i, none⟩ (.int .i64 (i : Nat))) (B + 1) N (updN f i i)) := ⟨_, q1.set i _, by simpa using q2, fun j hj => by
        by_cases e : j = i
        · subst e; rw [Array.getElem?_setIfInBounds_self_of_lt (by omega), updN_self]
        · rw [Array.getElem?_setIfInBounds_ne (Ne.symm e), updN_ne f _ e]; exact q3.out j hj⟩
      have hbn : Hid (Base N cap a w (wr.setCell ⟨B + 1, i, none⟩ (.int .i64 (i : Nat))) B) := hbs.step ((Below.refl (B + 1) wr).setCell (p := ⟨B + 1, i, none⟩) (Nat.le_refl _) _) (by omega)
      have hsn : Hid ((wr.setCell ⟨B + 1, i, none⟩ (.int .i64 (i : Nat))).heap.size = B + 1 + 1) := by simp [World.setCell]; exact hsz
      clear q1 q2 q3 hff hbs hsz hi1
      go_wp2
      exact ⟨⟨i + 1, _, by rw [hi1'.out], hlt, hnx.out, fun j hj => by
        by_cases e : j = i
        · rw [e, updN_self]
        · rw [updN_ne f _ e]; exact hff'.out j (by omega), hbn.out, hsn.out⟩, by have := hi1'.out; simp [intOf]; omega⟩
    · have hd : decide (i < N) = false := decide_eq_false hlt
      obtain rfl : i = N := by omega
      clear hrow hff hbs hsz
      go_wp2
      go_meet
      case rel => exact ⟨hrow'.out.congr (fun j hj => hff'.out j hj), hbs'.out, hsz'.out⟩
end Go.Proofs.Ybulkeeeq
