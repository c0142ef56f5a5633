import Derived.Test.YbulkeeeqId
namespace Go.Proofs.Ybulkeeeq
open Go.RowKit
set_option linter.unusedVariables false

theorem run_load76 {w : World} {g hi lo : Nat} (hb : Blk w g 76 (idA hi lo)) : (loadVar 76 ⟨g, 0, none⟩).run Yba.prog w = .ok (.agg (idA hi lo)) w := by
  have hl : (idA hi lo).toList.length = 20 := rfl
  have h := run_loadCells_list (P := Yba.prog) w ⟨g, 0, none⟩ (idA hi lo).toList (fun j v hj => by rw [WideShapes.add_plain, Nat.zero_add, hb.cell]; simpa using hj)
  rw [hl] at h
  simp [loadVar, h]

/-- An identifier is loaded whole. -/
theorem wpList_load76 (w : World) {ops : Array Oper} {rest : List Oper} {o : Oper} {a : Act} {Q : Exit → Act → World → Prop}
    (hg : o.guard = none) (p : Operand) (hop : o.op = Op.load 76 p) (g hi lo : Nat) (hp : a.eval p = .pointer (some ⟨g, 0, none⟩)) (hb : Blk w g 76 (idA hi lo)) (hK : wpList Yba.prog ops Q rest (a.put o.dst (.agg (idA hi lo))) w) :
    wpList Yba.prog ops Q (o :: rest) a w := by
  refine wpList_plain hg fun K hK' => ?_
  have hrun : (Instr.loadAt 76 (.pointer (some ⟨g, 0, none⟩))).run Yba.prog w = .ok (.agg (idA hi lo)) w := by
    have h1 : (Instr.sureAddr (.pointer (some ⟨g, 0, none⟩))).run Yba.prog w = .ok ⟨g, 0, none⟩ w := rfl
    simp only [Instr.loadAt, Sem.run_bind, h1, Result.andThen]
    exact run_load76 hb
  unfold Oper.wp
  simp [execOp, hop, hp, hrun, Result.andThen]
  exact hK' _ _ hK

def bin (hx lx ha la hb lb : Nat) : Bool :=
  if bcmp ha la hb lb = 0 then true else if bcmp ha la hb lb < 0 then decide (0 < bcmp hx lx ha la) && decide (bcmp hx lx hb lb ≤ 0) else decide (0 < bcmp hx lx ha la) || decide (bcmp hx lx hb lb ≤ 0)

set_option maxHeartbeats 1000000 in
set_option maxRecDepth 100000 in
theorem bin_calls (hx lx ha la hb lb : Nat) (w : World) (b1 : hx ≤ 255) (b2 : lx ≤ 255) (b3 : ha ≤ 255) (b4 : la ≤ 255) (b5 : hb ≤ 255) (b6 : lb ≤ 255) : Calls Yba.prog 17 #[.agg (idA hx lx), .agg (idA ha la), .agg (idA hb lb)] w fun ex w' => ex = .returned (.bool (bin hx lx ha la hb lb)) ∧ Below w.heap.size w w' := by
  have hX : Blk (((w.alloc (.cells (idA hx lx) 76)).alloc (.cells (idA ha la) 76)).alloc (.cells (idA hb lb) 76)) w.heap.size 76 (idA hx lx) := ((Blk.new w _ _).alloc _).alloc _
  have hA : Blk (((w.alloc (.cells (idA hx lx) 76)).alloc (.cells (idA ha la) 76)).alloc (.cells (idA hb lb) 76)) (w.heap.size + 1) 76 (idA ha la) := by
    have := (Blk.new (w.alloc (.cells (idA hx lx) 76)) 76 (idA ha la)).alloc (.cells (idA hb lb) 76)
    simp at this; exact this
  have hB : Blk (((w.alloc (.cells (idA hx lx) 76)).alloc (.cells (idA ha la) 76)).alloc (.cells (idA hb lb) 76)) (w.heap.size + 1 + 1) 76 (idA hb lb) := by
    have := Blk.new ((w.alloc (.cells (idA hx lx) 76)).alloc (.cells (idA ha la) 76)) 76 (idA hb lb)
    simp at this; exact this
  have hW : Below w.heap.size w (((w.alloc (.cells (idA hx lx) 76)).alloc (.cells (idA ha la) 76)).alloc (.cells (idA hb lb) 76)) := (((Below.refl _ w).alloc (Nat.le_refl _) _).alloc (by simp) _).alloc (by simp; omega) _
  go_enter Yba.func17, Yba.ntmps17
  go_upto_region 1 with fail
  obtain ⟨w1, hw1⟩ : ∃ x, x = (((w.alloc (.cells (idA hx lx) 76)).alloc (.cells (idA ha la) 76)).alloc (.cells (idA hb lb) 76)) := ⟨_, rfl⟩
  obtain ⟨R, hR⟩ : ∃ x, x = w.heap.size := ⟨_, rfl⟩
  rw [← hw1] at hX hA hB hW ⊢
  rw [← hR] at hX hA hB ⊢
  have hW' : Hid (Below w.heap.size w w1) := hW
  have hX' : Hid (Blk w1 R 76 (idA hx lx)) := hX
  have hA' : Hid (Blk w1 (R + 1) 76 (idA ha la)) := hA
  have hB' : Hid (Blk w1 (R + 1 + 1) 76 (idA hb lb)) := hB
  clear hw1 hR hX hA hB hW
  obtain ⟨ca, hca⟩ : ∃ x, x = bcmp ha la hb lb := ⟨_, rfl⟩
  obtain ⟨xa, hxa⟩ : ∃ x, x = bcmp hx lx ha la := ⟨_, rfl⟩
  obtain ⟨xb, hxb⟩ : ∃ x, x = bcmp hx lx hb lb := ⟨_, rfl⟩
  have hres : Hid (bin hx lx ha la hb lb = if ca = 0 then true else if ca < 0 then decide (0 < xa) && decide (xb ≤ 0) else decide (0 < xa) || decide (xb ≤ 0)) := by unfold Hid bin; rw [← hca, ← hxa, ← hxb]
  have k1 := fun w => bcmp_calls ha la hb lb w b3 b4 b5 b6
  have k2 := fun w => bcmp_calls hx lx ha la w b1 b2 b3 b4
  have k3 := fun w => bcmp_calls hx lx hb lb w b1 b2 b5 b6
  rw [← hca] at k1
  rw [← hxa] at k2
  rw [← hxb] at k3
  have k1' : Hid (∀ w, Calls Yba.prog 29 #[.agg (idA ha la), .agg (idA hb lb)] w fun ex w' => ex = .returned (.int .i64 ca) ∧ Below w.heap.size w w') := k1
  have k2' : Hid (∀ w, Calls Yba.prog 29 #[.agg (idA hx lx), .agg (idA ha la)] w fun ex w' => ex = .returned (.int .i64 xa) ∧ Below w.heap.size w w') := k2
  have k3' : Hid (∀ w, Calls Yba.prog 29 #[.agg (idA hx lx), .agg (idA hb lb)] w fun ex w' => ex = .returned (.int .i64 xb) ∧ Below w.heap.size w w') := k3
  clear hca hxa hxb k1 k2 k3
  go_upto_region 2 with (first
    | (refine wpList_load76 _ (o := ⟨some 10, _, _, _, _, _⟩) rfl _ rfl (R + 1) ha la rfl hA'.out ?_)
    | (refine wpList_load76 _ (o := ⟨some 11, _, _, _, _, _⟩) rfl _ rfl (R + 1 + 1) hb lb rfl hB'.out ?_)
    | (go_at_call 29; refine (k1'.out _).mono ?_; rintro ex w2 ⟨rfl, hb2⟩))
  have hX2 : Hid (Blk w2 R 76 (idA hx lx)) := hX'.out.below hb2 hX'.out.lt
  have hA2 : Hid (Blk w2 (R + 1) 76 (idA ha la)) := hA'.out.below hb2 hA'.out.lt
  have hB2 : Hid (Blk w2 (R + 1 + 1) 76 (idA hb lb)) := hB'.out.below hb2 hB'.out.lt
  have hW2 : Hid (Below w.heap.size w w2) := hW'.out.trans (hb2.mono hW'.out.size)
  clear hb2
  by_cases c0 : ca = 0
  · have d0 : (ca == 0) = true := by simp [c0]
    clear c0
    go_wp2
    go_ret
    exact ⟨by rw [hres.out]; simp at d0; simp [d0], hW2.out⟩
  · have d0 : (ca == 0) = false := by simp [c0]
    go_upto_region 5 with (first
      | (refine wpList_load76 _ (o := ⟨some 15, _, _, _, _, _⟩) rfl _ rfl R hx lx rfl hX2.out ?_)
      | (refine wpList_load76 _ (o := ⟨some 16, _, _, _, _, _⟩) rfl _ rfl (R + 1) ha la rfl hA2.out ?_)
      | (go_at_call 29; refine (k2'.out _).mono ?_; rintro ex w3 ⟨rfl, hb3⟩))
    have hX3 : Hid (Blk w3 R 76 (idA hx lx)) := hX2.out.below hb3 hX2.out.lt
    have hB3 : Hid (Blk w3 (R + 1 + 1) 76 (idA hb lb)) := hB2.out.below hb3 hB2.out.lt
    have hW3 : Hid (Below w.heap.size w w3) := hW2.out.trans (hb3.mono hW2.out.size)
    clear hb3
    go_upto_region 6 with (first
      | (refine wpList_load76 _ (o := ⟨some 18, _, _, _, _, _⟩) rfl _ rfl R hx lx rfl hX3.out ?_)
      | (refine wpList_load76 _ (o := ⟨some 19, _, _, _, _, _⟩) rfl _ rfl (R + 1 + 1) hb lb rfl hB3.out ?_)
      | (go_at_call 29; refine (k3'.out _).mono ?_; rintro ex w4 ⟨rfl, hb4⟩))
    have hW4 : Hid (Below w.heap.size w w4) := hW3.out.trans (hb4.mono hW3.out.size)
    clear hb4
    by_cases c1 : ca < 0
    · have d1 : decide (ca < 0) = true := decide_eq_true c1
      by_cases c2 : 0 < xa
      · have d2 : decide (0 < xa) = true := decide_eq_true c2
        have hres2 : Hid (bin hx lx ha la hb lb = decide (xb ≤ 0)) := by unfold Hid; rw [hres.out, if_neg c0, if_pos c1, d2, Bool.true_and]
        clear c0 c1 c2
        go_wp2
        go_ret
        exact ⟨by rw [hres2.out]; first | rfl | simp, hW4.out⟩
      · have d2 : decide (0 < xa) = false := decide_eq_false c2
        have hres2 : Hid (bin hx lx ha la hb lb = false) := by unfold Hid; rw [hres.out, if_neg c0, if_pos c1, d2, Bool.false_and]
        clear c0 c1 c2
        go_wp2
        go_ret
        exact ⟨by rw [hres2.out]; first | rfl | simp, hW4.out⟩
    · have d1 : decide (ca < 0) = false := decide_eq_false c1
      by_cases c2 : 0 < xa
      · have d2 : decide (0 < xa) = true := decide_eq_true c2
        have hres2 : Hid (bin hx lx ha la hb lb = true) := by unfold Hid; rw [hres.out, if_neg c0, if_neg c1, d2, Bool.true_or]
        clear c0 c1 c2
        go_wp2
        go_ret
        exact ⟨by rw [hres2.out]; first | rfl | simp, hW4.out⟩
      · have d2 : decide (0 < xa) = false := decide_eq_false c2
        have hres2 : Hid (bin hx lx ha la hb lb = decide (xb ≤ 0)) := by unfold Hid; rw [hres.out, if_neg c0, if_neg c1, d2, Bool.false_or]
        clear c0 c1 c2
        go_wp2
        go_ret
        exact ⟨by rw [hres2.out]; first | rfl | simp, hW4.out⟩
end Go.Proofs.Ybulkeeeq
