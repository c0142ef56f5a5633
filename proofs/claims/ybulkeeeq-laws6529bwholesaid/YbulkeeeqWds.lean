import Derived.Test.YbulkeeeqGapTo
import Derived.Deep.RegionHeld3
namespace Go.Proofs.Ybulkeeeq
open Go.RowKit
set_option linter.unusedVariables false

/-- While the words are read: the identifier, the box for what is handed back. -/
structure Wd (w : World) (g R hi lo : Nat) (x : World) : Prop where
  idb : Blk x g 76 (idA hi lo)
  bx : Blk x R 165 #[.int .u64 0, .int .u64 0, .int .u32 0]
  bel : Below w.heap.size w x
theorem Wd.next {w : World} {g R hi lo : Nat} {x y : World} (h : Wd w g R hi lo x) (hb : Below x.heap.size x y) : Wd w g R hi lo y :=
  ⟨h.idb.below hb h.idb.lt, h.bx.below hb h.bx.lt, h.bel.trans (hb.mono h.bel.size)⟩
theorem Wd.cells {w : World} {g R hi lo : Nat} {x : World} (h : Wd w g R hi lo x) : x.cell? ⟨R, 0, none⟩ = some (.int .u64 0) ∧ x.cell? ⟨R, 1, none⟩ = some (.int .u64 0) ∧ x.cell? ⟨R, 2, none⟩ = some (.int .u32 0) ∧ x.frozen? ⟨R, 0, none⟩ = false ∧ x.frozen? ⟨R, 1, none⟩ = false ∧ x.frozen? ⟨R, 2, none⟩ = false :=
  ⟨h.bx.cell 0, h.bx.cell 1, h.bx.cell 2, h.bx.frozen 0, h.bx.frozen 1, h.bx.frozen 2⟩

set_option maxHeartbeats 4000000 in
set_option maxRecDepth 100000 in
theorem words_calls (g hi lo H : Nat) (w : World) (hb : Blk w g 76 (idA hi lo)) (b1 : hi ≤ 255) (b2 : lo ≤ 255) (hH : H = hi * 72057594037927936) :
    Calls Yba.prog 55 #[.pointer (some ⟨g, 0, none⟩)] w fun ex w' => ex = .returned (.agg #[.int .u64 (H : Nat), .int .u64 (0 : Nat), .int .u32 (lo : Nat)]) ∧ Below w.heap.size w w' := by
  have hgl := hb.lt
  have hcast : ((hi : Int) * 72057594037927936) = (H : Int) := by omega
  obtain ⟨R, hR⟩ : ∃ x, x = w.heap.size := ⟨_, rfl⟩
  have hgR : g ≠ R := by omega
  have hW0 : Wd w g R hi lo (w.alloc (.cells #[.int .u64 0, .int .u64 0, .int .u32 0] 165)) := ⟨hb.alloc _, by rw [hR]; exact Blk.new w _ _, (Below.refl _ w).alloc (Nat.le_refl _) _⟩
  have k1 : Hid (∀ x, Wd w g R hi lo x → Calls Yba.prog 66 #[.agg #[], .slice (some ⟨g, 0, none⟩) 8 20] x fun ex y => ex = .returned (.int .u64 (H : Nat)) ∧ Wd w g R hi lo y) := fun x hx => by
    have := u64_hi g 0 hi 20 x b1 (by rw [hx.idb.cell]; exact idA_get hi lo 0 (by omega)) (by rw [hx.idb.cell]; exact idA_get hi lo 1 (by omega)) (by rw [hx.idb.cell]; exact idA_get hi lo 2 (by omega)) (by rw [hx.idb.cell]; exact idA_get hi lo 3 (by omega)) (by rw [hx.idb.cell]; exact idA_get hi lo 4 (by omega)) (by rw [hx.idb.cell]; exact idA_get hi lo 5 (by omega)) (by rw [hx.idb.cell]; exact idA_get hi lo 6 (by omega)) (by rw [hx.idb.cell]; exact idA_get hi lo 7 (by omega))
    rw [hcast] at this
    exact this.mono fun _ _ h => ⟨h.1, hx.next h.2⟩
  have k2 : Hid (∀ x, Wd w g R hi lo x → Calls Yba.prog 66 #[.agg #[], .slice (some ⟨g, 8, none⟩) 8 12] x fun ex y => ex = .returned (.int .u64 0) ∧ Wd w g R hi lo y) := fun x hx => by
    have := u64_hi g 8 0 12 x (by omega) (by rw [hx.idb.cell]; exact idA_get hi lo 8 (by omega)) (by rw [hx.idb.cell]; exact idA_get hi lo 9 (by omega)) (by rw [hx.idb.cell]; exact idA_get hi lo 10 (by omega)) (by rw [hx.idb.cell]; exact idA_get hi lo 11 (by omega)) (by rw [hx.idb.cell]; exact idA_get hi lo 12 (by omega)) (by rw [hx.idb.cell]; exact idA_get hi lo 13 (by omega)) (by rw [hx.idb.cell]; exact idA_get hi lo 14 (by omega)) (by rw [hx.idb.cell]; exact idA_get hi lo 15 (by omega))
    exact this.mono fun _ _ h => ⟨by rw [h.1]; rfl, hx.next h.2⟩
  have k3 : Hid (∀ x, Wd w g R hi lo x → Calls Yba.prog 67 #[.agg #[], .slice (some ⟨g, 16, none⟩) 4 4] x fun ex y => ex = .returned (.int .u32 (lo : Nat)) ∧ Wd w g R hi lo y) := fun x hx => by
    have := u32_lo g lo 4 (.agg #[]) x b2 (by rw [hx.idb.cell]; exact idA_get hi lo 16 (by omega)) (by rw [hx.idb.cell]; exact idA_get hi lo 17 (by omega)) (by rw [hx.idb.cell]; exact idA_get hi lo 18 (by omega)) (by rw [hx.idb.cell]; exact idA_get hi lo 19 (by omega)) rfl
    exact this.mono fun _ _ h => ⟨h.1, hx.next h.2⟩
  clear hb hcast hH
  go_enter Yba.func55, Yba.ntmps55
  go_upto_region 1 with fail
  obtain ⟨w1, hw1⟩ : ∃ x, x = w.alloc (.cells #[.int .u64 0, .int .u64 0, .int .u32 0] 165) := ⟨_, rfl⟩
  rw [← hw1] at hW0 ⊢
  rw [← hR]
  have hWd : Hid (Wd w g R hi lo w1.drew) := (⟨hW0.idb, hW0.bx, hW0.bel.drew⟩ : Wd w g R hi lo w1.drew)
  have hR' : Hid (R = w.heap.size) := hR
  clear hw1 hW0 hR
  go_region_held3 (fun _ => True) (trivial)
    (first
      | (go_at_call 67; refine (k3.out _ hW3.out).mono ?_; rintro ex w4 ⟨rfl, hq⟩; have hW4 : Hid (Wd w g R hi lo w4) := hq; obtain ⟨z0, z1, z2, z3, z4, z5⟩ := hq.cells; clear hq)
      | (go_at_call 66; refine (k2.out _ hW2.out).mono ?_; rintro ex w3 ⟨rfl, hq⟩; have hW3 : Hid (Wd w g R hi lo w3) := hq; clear hq)
      | (go_at_call 66; refine (k1.out _ hWd.out).mono ?_; rintro ex w2 ⟨rfl, hq⟩; have hW2 : Hid (Wd w g R hi lo w2) := hq; clear hq))
  go_wp2
  have q := ((hW4.out.bx.set 0 (.int .u64 H)).set 1 (.int .u64 0)).set 2 (.int .u32 lo)
  have c0 := q.cell 0
  have c1 := q.cell 1
  have c2 := q.cell 2
  simp only [List.setIfInBounds_toArray, List.set_cons_zero, List.set_cons_succ] at c0 c1 c2
  obtain ⟨w5, hw5⟩ : ∃ x, x = ((w4.setCell ⟨R, 0, none⟩ (.int .u64 H)).setCell ⟨R, 1, none⟩ (.int .u64 0)).setCell ⟨R, 2, none⟩ (.int .u32 lo) := ⟨_, rfl⟩
  rw [← hw5] at c0 c1 c2 ⊢
  have d0 : w5.cell? ⟨R, 0, none⟩ = some (.int .u64 H) := c0
  have d1 : w5.cell? ⟨R, 1, none⟩ = some (.int .u64 0) := c1
  have d2 : w5.cell? ⟨R, 2, none⟩ = some (.int .u32 lo) := c2
  clear q c0 c1 c2 z0 z1 z2 z3 z4 z5
  have hw5' : Hid (w5 = ((w4.setCell ⟨R, 0, none⟩ (.int .u64 H)).setCell ⟨R, 1, none⟩ (.int .u64 0)).setCell ⟨R, 2, none⟩ (.int .u32 lo)) := hw5
  clear hw5
  refine bodyPost_ret (v := .agg #[.int .u64 H, .int .u64 0, .int .u32 lo]) (by simp [results, Yba.results55, go_sem, d0, d1, d2]) rfl ?_
  rw [hw5'.out]
  refine ⟨by rfl, ?_⟩
  have hg := hW4.out.bel
  exact hg.trans ((((Below.refl _ w4).setCell (by show w.heap.size ≤ R; rw [hR'.out]; exact Nat.le_refl _) _).setCell (by show w.heap.size ≤ R; rw [hR'.out]; exact Nat.le_refl _) _).setCell (by show w.heap.size ≤ R; rw [hR'.out]; exact Nat.le_refl _) _)
end Go.Proofs.Ybulkeeeq
