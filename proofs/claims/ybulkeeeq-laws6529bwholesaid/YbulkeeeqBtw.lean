import Derived.Test.YbulkeeeqWds
namespace Go.Proofs.Ybulkeeeq
open Go.RowKit
set_option linter.unusedVariables false

/-- The three boxes of words. -/
structure Bz (w : World) (S X lx A la B lb : Nat) (x : World) : Prop where
  cX : Blk x S 165 #[.int .u64 (X : Nat), .int .u64 0, .int .u32 (lx : Nat)]
  cA : Blk x (S + 1) 165 #[.int .u64 (A : Nat), .int .u64 0, .int .u32 (la : Nat)]
  cB : Blk x (S + 1 + 1) 165 #[.int .u64 (B : Nat), .int .u64 0, .int .u32 (lb : Nat)]
  bel : Below w.heap.size w x
theorem Bz.next {w : World} {S X lx A la B lb : Nat} {x y : World} (h : Bz w S X lx A la B lb x) (hb : Below x.heap.size x y) : Bz w S X lx A la B lb y :=
  ⟨h.cX.below hb h.cX.lt, h.cA.below hb h.cA.lt, h.cB.below hb h.cB.lt, h.bel.trans (hb.mono h.bel.size)⟩
theorem Bz.cells {w : World} {S X lx A la B lb : Nat} {x : World} (h : Bz w S X lx A la B lb x) :
    x.cell? ⟨S, 0, none⟩ = some (.int .u64 (X : Nat)) ∧ x.cell? ⟨S, 1, none⟩ = some (.int .u64 0) ∧ x.cell? ⟨S, 2, none⟩ = some (.int .u32 (lx : Nat)) ∧
    x.cell? ⟨S + 1, 0, none⟩ = some (.int .u64 (A : Nat)) ∧ x.cell? ⟨S + 1, 1, none⟩ = some (.int .u64 0) ∧ x.cell? ⟨S + 1, 2, none⟩ = some (.int .u32 (la : Nat)) ∧
    x.cell? ⟨S + 1 + 1, 0, none⟩ = some (.int .u64 (B : Nat)) ∧ x.cell? ⟨S + 1 + 1, 1, none⟩ = some (.int .u64 0) ∧ x.cell? ⟨S + 1 + 1, 2, none⟩ = some (.int .u32 (lb : Nat)) :=
  ⟨h.cX.cell 0, h.cX.cell 1, h.cX.cell 2, h.cA.cell 0, h.cA.cell 1, h.cA.cell 2, h.cB.cell 0, h.cB.cell 1, h.cB.cell 2⟩

set_option maxHeartbeats 4000000 in
set_option maxRecDepth 100000 in
theorem between_calls (hx lx ha la hb lb : Nat) (w : World) (b1 : hx ≤ 255) (b2 : lx ≤ 255) (b3 : ha ≤ 255) (b4 : la ≤ 255) (b5 : hb ≤ 255) (b6 : lb ≤ 255) :
    Calls Yba.prog 43 #[.agg (idA hx lx), .agg (idA ha la), .agg (idA hb lb)] w fun ex w' => ex = .returned (.bool (btw hx lx ha la hb lb)) ∧ Below w.heap.size w w' := by
  have hX : Blk (((w.alloc (.cells (idA hx lx) 76)).alloc (.cells (idA ha la) 76)).alloc (.cells (idA hb lb) 76)) w.heap.size 76 (idA hx lx) := ((Blk.new w _ _).alloc _).alloc _
  have hA : Blk (((w.alloc (.cells (idA hx lx) 76)).alloc (.cells (idA ha la) 76)).alloc (.cells (idA hb lb) 76)) (w.heap.size + 1) 76 (idA ha la) := by
    have := (Blk.new (w.alloc (.cells (idA hx lx) 76)) 76 (idA ha la)).alloc (.cells (idA hb lb) 76)
    simp at this; exact this
  have hB : Blk (((w.alloc (.cells (idA hx lx) 76)).alloc (.cells (idA ha la) 76)).alloc (.cells (idA hb lb) 76)) (w.heap.size + 1 + 1) 76 (idA hb lb) := by
    have := Blk.new ((w.alloc (.cells (idA hx lx) 76)).alloc (.cells (idA ha la) 76)) 76 (idA hb lb)
    simp at this; exact this
  have hW : Below w.heap.size w (((w.alloc (.cells (idA hx lx) 76)).alloc (.cells (idA ha la) 76)).alloc (.cells (idA hb lb) 76)) := (((Below.refl _ w).alloc (Nat.le_refl _) _).alloc (by simp) _).alloc (by simp; omega) _
  go_enter Yba.func43, Yba.ntmps43
  go_upto_region 1 with fail
  obtain ⟨w1, hw1⟩ : ∃ x, x = (((w.alloc (.cells (idA hx lx) 76)).alloc (.cells (idA ha la) 76)).alloc (.cells (idA hb lb) 76)) := ⟨_, rfl⟩
  obtain ⟨R, hR⟩ : ∃ x, x = w.heap.size := ⟨_, rfl⟩
  rw [← hw1] at hX hA hB hW ⊢
  rw [← hR] at hX hA hB ⊢
  have hW' : Hid (Below w.heap.size w w1) := hW
  obtain ⟨X, hXe⟩ : ∃ x, x = hx * 72057594037927936 := ⟨_, rfl⟩
  obtain ⟨A, hAe⟩ : ∃ x, x = ha * 72057594037927936 := ⟨_, rfl⟩
  obtain ⟨B, hBe⟩ : ∃ x, x = hb * 72057594037927936 := ⟨_, rfl⟩
  have lX : X < 18446744073709551616 := by omega
  have lA : A < 18446744073709551616 := by omega
  have lB : B < 18446744073709551616 := by omega
  have k1 : Hid (∀ x, Below w1.heap.size w1 x → Calls Yba.prog 55 #[.pointer (some ⟨R, 0, none⟩)] x fun ex y => ex = .returned (.agg #[.int .u64 (X : Nat), .int .u64 (0 : Nat), .int .u32 (lx : Nat)]) ∧ Below w1.heap.size w1 y) := fun x q =>
    (words_calls R hx lx X x (hX.below q hX.lt) b1 b2 hXe).mono fun _ _ h => ⟨h.1, q.trans (h.2.mono q.size)⟩
  have k2 : Hid (∀ x, Below w1.heap.size w1 x → Calls Yba.prog 55 #[.pointer (some ⟨R + 1, 0, none⟩)] x fun ex y => ex = .returned (.agg #[.int .u64 (A : Nat), .int .u64 (0 : Nat), .int .u32 (la : Nat)]) ∧ Below w1.heap.size w1 y) := fun x q =>
    (words_calls (R + 1) ha la A x (hA.below q hA.lt) b3 b4 hAe).mono fun _ _ h => ⟨h.1, q.trans (h.2.mono q.size)⟩
  have k3 : Hid (∀ x, Below w1.heap.size w1 x → Calls Yba.prog 55 #[.pointer (some ⟨R + 1 + 1, 0, none⟩)] x fun ex y => ex = .returned (.agg #[.int .u64 (B : Nat), .int .u64 (0 : Nat), .int .u32 (lb : Nat)]) ∧ Below w1.heap.size w1 y) := fun x q =>
    (words_calls (R + 1 + 1) hb lb B x (hB.below q hB.lt) b5 b6 hBe).mono fun _ _ h => ⟨h.1, q.trans (h.2.mono q.size)⟩
  have hres : Hid (btw hx lx ha la hb lb = if A = B ∧ la = lb then !decide (X = A ∧ lx = la) else decide (lessN (gapH X lx B lb) (gapM lx lb) (gl lx lb) (gapH A la B lb) (gapM la lb) (gl la lb) ≠ 0)) := by
    unfold Hid btw; rw [← hXe, ← hAe, ← hBe]
  have hR2 : Hid (R = w.heap.size) := hR
  clear hw1 hX hA hB hW hXe hAe hBe hR
  have hb0 : Hid (Below w1.heap.size w1 w1) := Below.refl _ _
  go_upto_region 2 with (first
    | (go_at_call 55; refine (k3.out _ hb2.out).mono ?_; rintro ex w4 ⟨rfl, hq⟩; have hb3 : Hid (Below w1.heap.size w1 w4) := hq; clear hq)
    | (go_at_call 55; refine (k2.out _ hb1.out).mono ?_; rintro ex w3 ⟨rfl, hq⟩; have hb2 : Hid (Below w1.heap.size w1 w3) := hq; clear hq)
    | (go_at_call 55; refine (k1.out _ hb0.out).mono ?_; rintro ex w2 ⟨rfl, hq⟩; have hb1 : Hid (Below w1.heap.size w1 w2) := hq; clear hq))
  obtain ⟨S, hS⟩ : ∃ x, x = w4.heap.size := ⟨_, rfl⟩
  obtain ⟨w5, hw5⟩ : ∃ x, x = (((w4.alloc (.cells #[.int .u64 (X : Nat), .int .u64 0, .int .u32 (lx : Nat)] 165)).alloc (.cells #[.int .u64 (A : Nat), .int .u64 0, .int .u32 (la : Nat)] 165)).alloc (.cells #[.int .u64 (B : Nat), .int .u64 0, .int .u32 (lb : Nat)] 165)) := ⟨_, rfl⟩
  have cX : Blk w5 S 165 #[.int .u64 (X : Nat), .int .u64 0, .int .u32 (lx : Nat)] := by rw [hw5, hS]; exact ((Blk.new w4 _ _).alloc _).alloc _
  have cA : Blk w5 (S + 1) 165 #[.int .u64 (A : Nat), .int .u64 0, .int .u32 (la : Nat)] := by
    rw [hw5, hS]
    have := (Blk.new (w4.alloc (.cells #[.int .u64 (X : Nat), .int .u64 0, .int .u32 (lx : Nat)] 165)) 165 #[.int .u64 (A : Nat), .int .u64 0, .int .u32 (la : Nat)]).alloc (.cells #[.int .u64 (B : Nat), .int .u64 0, .int .u32 (lb : Nat)] 165)
    simp at this; exact this
  have cB : Blk w5 (S + 1 + 1) 165 #[.int .u64 (B : Nat), .int .u64 0, .int .u32 (lb : Nat)] := by
    rw [hw5, hS]
    have := Blk.new ((w4.alloc (.cells #[.int .u64 (X : Nat), .int .u64 0, .int .u32 (lx : Nat)] 165)).alloc (.cells #[.int .u64 (A : Nat), .int .u64 0, .int .u32 (la : Nat)] 165)) 165 #[.int .u64 (B : Nat), .int .u64 0, .int .u32 (lb : Nat)]
    simp at this; exact this
  have hB5 : Hid (Below w.heap.size w w5) := by
    have h4 : Below w4.heap.size w4 w5 := by rw [hw5]; exact (((Below.refl _ w4).alloc (Nat.le_refl _) _).alloc (by simp) _).alloc (by simp; omega) _
    have h3 : Below w.heap.size w w4 := hW'.out.trans (hb3.out.mono hW'.out.size)
    exact h3.trans (h4.mono h3.size)
  rw [← hw5, ← hS]
  have hz : Bz w S X lx A la B lb w5 := ⟨cX, cA, cB, hB5.out⟩
  obtain ⟨x0, x1, x2, a0, a1, a2, f0, f1, f2⟩ := hz.cells
  clear hw5 hS cX cA cB k1 k2 k3 hb0 hb1 hb2 hb3 hB5 hW' hR2
  by_cases hAB : A = B ∧ la = lb
  · have hz' : Hid (Bz w S X lx A la B lb w5) := hz
    clear hz
    obtain ⟨rfl, rfl⟩ := hAB
    have hres2 : Hid (btw hx lx ha la hb la = !decide (X = A ∧ lx = la)) := by unfold Hid; rw [hres.out, if_pos ⟨rfl, rfl⟩]
    clear hres
    by_cases h1 : X = A
    · subst h1
      by_cases h2 : lx = la
      · subst h2
        go_wp2
        go_returns
        exact ⟨by rw [hres2.out]; simp, hz'.out.bel⟩
      · go_wp2
        go_returns
        exact ⟨by rw [hres2.out]; simp [h2], hz'.out.bel⟩
    · go_wp2
      go_returns
      exact ⟨by rw [hres2.out]; simp [h1], hz'.out.bel⟩
  · have hres2 : Hid (btw hx lx ha la hb lb = decide (lessN (gapH X lx B lb) (gapM lx lb) (gl lx lb) (gapH A la B lb) (gapM la lb) (gl la lb) ≠ 0)) := by unfold Hid; rw [hres.out, if_neg hAB]
    clear hres
    obtain ⟨p3, e3⟩ : ∃ x, x = gapH X lx B lb := ⟨_, rfl⟩
    obtain ⟨p2, e2⟩ : ∃ x, x = gapM lx lb := ⟨_, rfl⟩
    obtain ⟨p1, e1⟩ : ∃ x, x = gl lx lb := ⟨_, rfl⟩
    obtain ⟨q3, i3⟩ : ∃ x, x = gapH A la B lb := ⟨_, rfl⟩
    obtain ⟨q2, i2⟩ : ∃ x, x = gapM la lb := ⟨_, rfl⟩
    obtain ⟨q1, i1⟩ : ∃ x, x = gl la lb := ⟨_, rfl⟩
    have g1 : Hid (∀ x, Bz w S X lx A la B lb x → Calls Yba.prog 56 #[.agg #[.int .u64 (X : Nat), .int .u64 0, .int .u32 (lx : Nat)], .agg #[.int .u64 (B : Nat), .int .u64 0, .int .u32 (lb : Nat)]] x fun ex y => ex = .returned (.agg #[.int .u64 (p3 : Nat), .int .u64 (p2 : Nat), .int .u32 (p1 : Nat)]) ∧ Bz w S X lx A la B lb y) := fun x hx => by
      rw [e3, e2, e1]
      exact (gapTo_calls X 0 lx B 0 lb x lX (by omega) (by omega) lB (by omega) (by omega)).mono fun _ _ h => ⟨h.1, hx.next h.2⟩
    have g2 : Hid (∀ x, Bz w S X lx A la B lb x → Calls Yba.prog 56 #[.agg #[.int .u64 (A : Nat), .int .u64 0, .int .u32 (la : Nat)], .agg #[.int .u64 (B : Nat), .int .u64 0, .int .u32 (lb : Nat)]] x fun ex y => ex = .returned (.agg #[.int .u64 (q3 : Nat), .int .u64 (q2 : Nat), .int .u32 (q1 : Nat)]) ∧ Bz w S X lx A la B lb y) := fun x hx => by
      rw [i3, i2, i1]
      exact (gapTo_calls A 0 la B 0 lb x lA (by omega) (by omega) lB (by omega) (by omega)).mono fun _ _ h => ⟨h.1, hx.next h.2⟩
    have g3 : Hid (∀ x, Bz w S X lx A la B lb x → Calls Yba.prog 57 #[.agg #[.int .u64 (p3 : Nat), .int .u64 (p2 : Nat), .int .u32 (p1 : Nat)], .agg #[.int .u64 (q3 : Nat), .int .u64 (q2 : Nat), .int .u32 (q1 : Nat)]] x fun ex y => ex = .returned (.bool (btw hx lx ha la hb lb)) ∧ Bz w S X lx A la B lb y) := fun x hx => by
      rw [hres2.out, ← e3, ← e2, ← e1, ← i3, ← i2, ← i1]
      exact (wless_calls p3 p2 p1 q3 q2 q1 x (by rw [e3]; exact gm_lt _ _ _) (by rw [e2]; exact gm_lt _ _ _) (by rw [e1]; exact gl_lt _ _) (by rw [i3]; exact gm_lt _ _ _) (by rw [i2]; exact gm_lt _ _ _) (by rw [i1]; exact gl_lt _ _)).mono fun _ _ h => ⟨h.1, hx.next h.2⟩
    have hz' : Hid (Bz w S X lx A la B lb w5.drew) := (⟨hz.cX, hz.cA, hz.cB, hz.bel.drew⟩ : Bz w S X lx A la B lb w5.drew)
    clear e3 e2 e1 i3 i2 i1 hres2 hz lX lA lB
    obtain ⟨res, hres3⟩ : ∃ x, x = btw hx lx ha la hb lb := ⟨_, rfl⟩
    rw [← hres3] at g3
    have hres4 : Hid (res = btw hx lx ha la hb lb) := hres3
    clear hres3
    have hcase : A ≠ B ∨ (A = B ∧ la ≠ lb) := by
      by_cases h : A = B
      · exact Or.inr ⟨h, fun h' => hAB ⟨h, h'⟩⟩
      · exact Or.inl h
    clear hAB
    rcases hcase with h1 | ⟨rfl, h2⟩
    · go_upto_region 4 with fail
      go_region_held3 (fun x => x.cell? ⟨S, 0, none⟩ = some (.int .u64 (X : Nat)) ∧ x.cell? ⟨S, 1, none⟩ = some (.int .u64 0) ∧ x.cell? ⟨S, 2, none⟩ = some (.int .u32 (lx : Nat)) ∧
          x.cell? ⟨S + 1, 0, none⟩ = some (.int .u64 (A : Nat)) ∧ x.cell? ⟨S + 1, 1, none⟩ = some (.int .u64 0) ∧ x.cell? ⟨S + 1, 2, none⟩ = some (.int .u32 (la : Nat)) ∧
          x.cell? ⟨S + 1 + 1, 0, none⟩ = some (.int .u64 (B : Nat)) ∧ x.cell? ⟨S + 1 + 1, 1, none⟩ = some (.int .u64 0) ∧ x.cell? ⟨S + 1 + 1, 2, none⟩ = some (.int .u32 (lb : Nat)))
        (first | exact hw8.out.cells | exact hw7.out.cells | exact hw6.out.cells | exact hz'.out.cells)
        (first
          | (go_at_call 57; refine (g3.out _ hw7.out).mono ?_; rintro ex w8 ⟨rfl, hq⟩; have hw8 : Hid (Bz w S X lx A la B lb w8) := hq; clear hq)
          | (go_at_call 56; refine (g2.out _ hw6.out).mono ?_; rintro ex w7 ⟨rfl, hq⟩; have hw7 : Hid (Bz w S X lx A la B lb w7) := hq; clear hq)
          | (go_at_call 56; refine (g1.out _ hz'.out).mono ?_; rintro ex w6 ⟨rfl, hq⟩; have hw6 : Hid (Bz w S X lx A la B lb w6) := hq; clear hq))
      go_wp2
      go_returns
      exact ⟨by rw [hres4.out]; rfl, hw8.out.bel⟩
    · go_upto_region 4 with fail
      go_region_held3 (fun x => x.cell? ⟨S, 0, none⟩ = some (.int .u64 (X : Nat)) ∧ x.cell? ⟨S, 1, none⟩ = some (.int .u64 0) ∧ x.cell? ⟨S, 2, none⟩ = some (.int .u32 (lx : Nat)) ∧
          x.cell? ⟨S + 1, 0, none⟩ = some (.int .u64 (A : Nat)) ∧ x.cell? ⟨S + 1, 1, none⟩ = some (.int .u64 0) ∧ x.cell? ⟨S + 1, 2, none⟩ = some (.int .u32 (la : Nat)) ∧
          x.cell? ⟨S + 1 + 1, 0, none⟩ = some (.int .u64 (A : Nat)) ∧ x.cell? ⟨S + 1 + 1, 1, none⟩ = some (.int .u64 0) ∧ x.cell? ⟨S + 1 + 1, 2, none⟩ = some (.int .u32 (lb : Nat)))
        (first | exact hw8.out.cells | exact hw7.out.cells | exact hw6.out.cells | exact hz'.out.cells)
        (first
          | (go_at_call 57; refine (g3.out _ hw7.out).mono ?_; rintro ex w8 ⟨rfl, hq⟩; have hw8 : Hid (Bz w S X lx A la A lb w8) := hq; clear hq)
          | (go_at_call 56; refine (g2.out _ hw6.out).mono ?_; rintro ex w7 ⟨rfl, hq⟩; have hw7 : Hid (Bz w S X lx A la A lb w7) := hq; clear hq)
          | (go_at_call 56; refine (g1.out _ hz'.out).mono ?_; rintro ex w6 ⟨rfl, hq⟩; have hw6 : Hid (Bz w S X lx A la A lb w6) := hq; clear hq))
      go_wp2
      go_returns
      exact ⟨by rw [hres4.out]; rfl, hw8.out.bel⟩
end Go.Proofs.Ybulkeeeq
