import Derived.Test.YbulkeeeqPush
namespace Go.Proofs.Ybulkeeeq
open Go.RowKit
set_option linter.unusedVariables false

/-- The cells of an identifier. -/
def idA (hi lo : Nat) : Array Value := #[.int .u8 hi, .int .u8 0, .int .u8 0, .int .u8 0, .int .u8 0, .int .u8 0, .int .u8 0, .int .u8 0, .int .u8 0, .int .u8 0, .int .u8 0, .int .u8 0, .int .u8 0, .int .u8 0, .int .u8 0, .int .u8 0, .int .u8 0, .int .u8 0, .int .u8 0, .int .u8 lo]
def idC (hi lo j : Nat) : Nat := if j = 0 then hi else if j = 19 then lo else 0
theorem idA_get (hi lo j : Nat) (hj : j < 20) : (idA hi lo)[j]? = some (.int .u8 (idC hi lo j)) := by
  match j, hj with
  | 0, _ => rfl
  | 1, _ => rfl
  | 2, _ => rfl
  | 3, _ => rfl
  | 4, _ => rfl
  | 5, _ => rfl
  | 6, _ => rfl
  | 7, _ => rfl
  | 8, _ => rfl
  | 9, _ => rfl
  | 10, _ => rfl
  | 11, _ => rfl
  | 12, _ => rfl
  | 13, _ => rfl
  | 14, _ => rfl
  | 15, _ => rfl
  | 16, _ => rfl
  | 17, _ => rfl
  | 18, _ => rfl
  | 19, _ => rfl
  | n + 20, h => omega

/-- How two identifiers lie. -/
def bcmp (h1 l1 h2 l2 : Nat) : Int := if h1 < h2 then -1 else if h2 < h1 then 1 else if l1 < l2 then -1 else if l2 < l1 then 1 else 0

set_option maxHeartbeats 2000000 in
set_option maxRecDepth 100000 in
theorem bcmp_calls (h1 l1 h2 l2 : Nat) (w : World) (b1 : h1 ≤ 255) (b2 : l1 ≤ 255) (b3 : h2 ≤ 255) (b4 : l2 ≤ 255) : Calls Yba.prog 29 #[.agg (idA h1 l1), .agg (idA h2 l2)] w fun ex w' => ex = .returned (.int .i64 (bcmp h1 l1 h2 l2)) ∧ Below w.heap.size w w' := by
  have hA : Blk ((w.alloc (.cells (idA h1 l1) 76)).alloc (.cells (idA h2 l2) 76)) w.heap.size 76 (idA h1 l1) := (Blk.new w _ _).alloc _
  have hB : Blk ((w.alloc (.cells (idA h1 l1) 76)).alloc (.cells (idA h2 l2) 76)) (w.heap.size + 1) 76 (idA h2 l2) := by
    have := Blk.new (w.alloc (.cells (idA h1 l1) 76)) 76 (idA h2 l2)
    simp at this; exact this
  have hW : Below w.heap.size w ((w.alloc (.cells (idA h1 l1) 76)).alloc (.cells (idA h2 l2) 76)) := ((Below.refl _ w).alloc (Nat.le_refl _) _).alloc (by simp) _
  go_enter Yba.func29, Yba.ntmps29
  go_upto_block 0 with fail
  obtain ⟨w1, hw1⟩ : ∃ x, x = (w.alloc (.cells (idA h1 l1) 76)).alloc (.cells (idA h2 l2) 76) := ⟨_, rfl⟩
  obtain ⟨R, hR⟩ : ∃ x, x = w.heap.size := ⟨_, rfl⟩
  rw [← hw1] at hA hB hW ⊢
  rw [← hR] at hA hB ⊢
  have hA' : Hid (Blk w1 R 76 (idA h1 l1)) := hA
  have hB' : Hid (Blk w1 (R + 1) 76 (idA h2 l2)) := hB
  have hW' : Hid (Below w.heap.size w w1) := hW
  clear hw1 hR hA hB hW
  go_wp2
  go_loopw [5] (fun v5 wr => ∃ j : Nat, v5 = .int .i64 j ∧ j ≤ 20 ∧ (∀ i, i < j → idC h1 l1 i = idC h2 l2 i) ∧ Draws w1 wr) (fun v5 _ => 20 - (intOf v5).toNat)
  case atStart => exact ⟨0, rfl, by omega, fun i hi => by omega, Draws.refl _⟩
  case round =>
    obtain ⟨j, rfl, hj, heq, hdr⟩ := hrel
    have heq' : Hid (∀ i, i < j → idC h1 l1 i = idC h2 l2 i) := heq
    have hdr' : Hid (Draws w1 wr) := hdr
    clear heq hdr
    by_cases hlt : j < 20
    · have hd : decide ((j : Int) < 20) = true := decide_eq_true (by omega)
      obtain ⟨x, hx⟩ : ∃ x, x = idC h1 l1 j := ⟨_, rfl⟩
      obtain ⟨y, hy⟩ : ∃ x, x = idC h2 l2 j := ⟨_, rfl⟩
      have cx : wr.cell? ⟨R, j, none⟩ = some (.int .u8 x) := by rw [(hdr'.out.blk hA'.out).cell, hx]; exact idA_get h1 l1 j hlt
      have cy : wr.cell? ⟨R + 1, j, none⟩ = some (.int .u8 y) := by rw [(hdr'.out.blk hB'.out).cell, hy]; exact idA_get h2 l2 j hlt
      obtain ⟨j1, hj1⟩ : ∃ x, x = j + 1 := ⟨_, rfl⟩
      have ej1 : (j : Int) + 1 = (j1 : Int) := by omega
      have hj1' : Hid (j1 = j + 1) := hj1
      have hx' : Hid (x = idC h1 l1 j) := hx
      have hy' : Hid (y = idC h2 l2 j) := hy
      have hxb : x ≤ 255 := by rw [hx]; unfold idC; split <;> (try split) <;> omega
      have hyb : y ≤ 255 := by rw [hy]; unfold idC; split <;> (try split) <;> omega
      clear hj1 hx hy
      by_cases c1 : x < y
      · have d1 : decide (x < y) = true := decide_eq_true c1
        have hres : Hid (bcmp h1 l1 h2 l2 = -1) := by
          have e0 := heq'.out 0
          have e1 := hx'.out
          have e2 := hy'.out
          unfold Hid bcmp
          unfold idC at e0 e1 e2
          by_cases q0 : j = 0
          · subst q0; simp at e1 e2; rw [if_pos (by omega)]
          · have := e0 (by omega); simp at this
            by_cases q1 : j = 19
            · subst q1; simp at e1 e2; rw [if_neg (by omega), if_neg (by omega), if_pos (by omega)]
            · simp [q0, q1] at e1 e2; omega
        go_upto_region 4 with fail
        go_quiet (fail)
        go_wp2
        (try simp only [Exit.inBlock, Exit.then])
        go_ret
        exact ⟨by rw [hres.out]; first | rfl | simp, (hdr'.out.drewN _).below hW'.out⟩
      · have d1 : decide (x < y) = false := decide_eq_false c1
        by_cases c2 : y < x
        · have d2 : decide (y < x) = true := decide_eq_true c2
          have hres : Hid (bcmp h1 l1 h2 l2 = 1) := by
            have e0 := heq'.out 0
            have e1 := hx'.out
            have e2 := hy'.out
            unfold Hid bcmp
            unfold idC at e0 e1 e2
            by_cases q0 : j = 0
            · subst q0; simp at e1 e2; rw [if_neg (by omega), if_pos (by omega)]
            · have := e0 (by omega); simp at this
              by_cases q1 : j = 19
              · subst q1; simp at e1 e2; rw [if_neg (by omega), if_neg (by omega), if_neg (by omega), if_pos (by omega)]
              · simp [q0, q1] at e1 e2; omega
          go_upto_region 4 with fail
          go_quiet (fail)
          go_upto_region 6 with fail
          go_quiet (fail)
          go_wp2
          (try simp only [Exit.inBlock, Exit.then])
          go_ret
          exact ⟨by rw [hres.out]; first | rfl | simp, ((hdr'.out.drewN _).drewN _).below hW'.out⟩
        · have d2 : decide (y < x) = false := decide_eq_false c2
          have hnx : Hid (∀ i, i < j + 1 → idC h1 l1 i = idC h2 l2 i) := fun i hi => by
            by_cases q : i = j
            · subst q; rw [← hx'.out, ← hy'.out]; omega
            · exact heq'.out i (by omega)
          go_upto_region 4 with fail
          go_quiet (fail)
          go_upto_region 6 with fail
          go_quiet (fail)
          go_wp2
          exact ⟨⟨j + 1, by rw [hj1'.out], hlt, hnx.out, by first | exact (hdr'.out.drewN _).drewN _ | exact hdr'.out.drewN _⟩, by have := hj1'.out; simp [intOf]; omega⟩
    · have hd : decide ((j : Int) < 20) = false := decide_eq_false (by omega)
      have hres : Hid (bcmp h1 l1 h2 l2 = 0) := by
        have e0 := heq'.out 0 (by omega)
        have e1 := heq'.out 19 (by omega)
        simp [idC] at e0 e1
        unfold Hid bcmp
        rw [if_neg (by omega), if_neg (by omega), if_neg (by omega), if_neg (by omega)]
      go_wp2
      (try simp only [Exit.inBlock, Exit.then])
      go_ret
      exact ⟨by rw [hres.out]; first | rfl | simp, hdr'.out.below hW'.out⟩
end Go.Proofs.Ybulkeeeq
