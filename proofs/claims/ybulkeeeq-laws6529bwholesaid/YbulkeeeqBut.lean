import Derived.Test.YbulkeeeqBtw
import Derived.Test.YbulkeeeqBid
import Derived.Stop.BytesEq
namespace Go.Proofs.Ybulkeeeq
open Go.RowKit
set_option linter.unusedVariables false

def idL (hi lo : Nat) : List UInt8 := [UInt8.ofNat hi, 0, 0, 0, 0, 0, 0, 0, 0, 0, 0, 0, 0, 0, 0, 0, 0, 0, 0, UInt8.ofNat lo]
theorem idA_bytes (hi lo : Nat) (h1 : hi ≤ 255) (h2 : lo ≤ 255) : idA hi lo = ((idL hi lo).map Extern.Stop.cell).toArray := by
  have e1 : (UInt8.ofNat hi).toNat = hi := by simp [UInt8.toNat_ofNat']; omega
  have e2 : (UInt8.ofNat lo).toNat = lo := by simp [UInt8.toNat_ofNat']; omega
  simp [idL, idA, Extern.Stop.cell, e1, e2]
theorem size5 (w : World) : (sizeOf 5).run Yba.prog w = .ok 1 w := Yba.sizeOf5 w
theorem run_eql76 (hx lx hb lb : Nat) (w : World) (b1 : hx ≤ 255) (b2 : lx ≤ 255) (b3 : hb ≤ 255) (b4 : lb ≤ 255) : (binOp .eql 76 (.agg (idA hx lx)) (.agg (idA hb lb))).run Yba.prog w = .ok (.bool (decide (hx = hb ∧ lx = lb))) w := by
  rw [idA_bytes hx lx b1 b2, idA_bytes hb lb b3 b4, run_eql_bytes w 76 5 20 Yba.underlying76 Yba.underlying5 size5 _ _ rfl rfl]
  have h : (idL hx lx == idL hb lb) = decide (hx = hb ∧ lx = lb) := by
    rw [Bool.eq_iff_iff]
    simp only [beq_iff_eq, decide_eq_true_eq, idL, List.cons.injEq, true_and, and_true]
    have : ∀ a b : Nat, a ≤ 255 → b ≤ 255 → (UInt8.ofNat a = UInt8.ofNat b ↔ a = b) := fun a b ha hb => by
      rw [← UInt8.toNat_inj]; simp [UInt8.toNat_ofNat']; omega
    rw [this _ _ b1 b3, this _ _ b2 b4]
  rw [h]

theorem load76_eq {w : World} {g hi lo : Nat} (hb : Blk w g 76 (idA hi lo)) : (Instr.loadAt 76 (.pointer (some ⟨g, 0, none⟩))).run Yba.prog w = .ok (.agg (idA hi lo)) w := by
  have h1 : (Instr.sureAddr (.pointer (some ⟨g, 0, none⟩))).run Yba.prog w = .ok ⟨g, 0, none⟩ w := rfl
  simp only [Instr.loadAt, Sem.run_bind, h1, Result.andThen]
  exact run_load76 hb
/-- A guarded load of an identifier. -/
theorem wpList_load76g (w : World) {ops : Array Oper} {rest : List Oper} {o : Oper} {a : Act} {Q : Exit → Act → World → Prop}
    (hg : Region.wanted o (yielded ops a.tmps) = true) (p : Operand) (hop : o.op = Op.load 76 p) (g hi lo : Nat) (hp : a.eval p = .pointer (some ⟨g, 0, none⟩)) (hb : Blk w g 76 (idA hi lo)) (hK : wpList Yba.prog ops Q rest (a.put o.dst (.agg (idA hi lo))) w) :
    wpList Yba.prog ops Q (o :: rest) a w := by
  refine wpList_step fun K hK' => ?_
  rw [if_pos hg]
  have hrun : (Instr.loadAt 76 (.pointer (some ⟨g, 0, none⟩))).run Yba.prog w = .ok (.agg (idA hi lo)) w := by
    have h1 : (Instr.sureAddr (.pointer (some ⟨g, 0, none⟩))).run Yba.prog w = .ok ⟨g, 0, none⟩ w := rfl
    simp only [Instr.loadAt, Sem.run_bind, h1, Result.andThen]
    exact run_load76 hb
  unfold Oper.wp
  simp [execOp, hop, hp, hrun, Result.andThen]
  exact hK' _ _ hK

set_option maxHeartbeats 1000000 in
set_option maxRecDepth 100000 in
theorem betweenUpTo_calls (hx lx ha la hb lb : Nat) (w : World) (b1 : hx ≤ 255) (b2 : lx ≤ 255) (b3 : ha ≤ 255) (b4 : la ≤ 255) (b5 : hb ≤ 255) (b6 : lb ≤ 255) :
    Calls Yba.prog 26 #[.agg (idA hx lx), .agg (idA ha la), .agg (idA hb lb)] w fun ex w' => ex = .returned (.bool (bin hx lx ha la hb lb)) ∧ Below w.heap.size w w' := by
  have hX : Blk (((w.alloc (.cells (idA hx lx) 76)).alloc (.cells (idA ha la) 76)).alloc (.cells (idA hb lb) 76)) w.heap.size 76 (idA hx lx) := ((Blk.new w _ _).alloc _).alloc _
  have hA : Blk (((w.alloc (.cells (idA hx lx) 76)).alloc (.cells (idA ha la) 76)).alloc (.cells (idA hb lb) 76)) (w.heap.size + 1) 76 (idA ha la) := by
    have := (Blk.new (w.alloc (.cells (idA hx lx) 76)) 76 (idA ha la)).alloc (.cells (idA hb lb) 76)
    simp at this; exact this
  have hB : Blk (((w.alloc (.cells (idA hx lx) 76)).alloc (.cells (idA ha la) 76)).alloc (.cells (idA hb lb) 76)) (w.heap.size + 1 + 1) 76 (idA hb lb) := by
    have := Blk.new ((w.alloc (.cells (idA hx lx) 76)).alloc (.cells (idA ha la) 76)) 76 (idA hb lb)
    simp at this; exact this
  have hW : Below w.heap.size w (((w.alloc (.cells (idA hx lx) 76)).alloc (.cells (idA ha la) 76)).alloc (.cells (idA hb lb) 76)) := (((Below.refl _ w).alloc (Nat.le_refl _) _).alloc (by simp) _).alloc (by simp; omega) _
  have heq := fun w => run_eql76 hx lx hb lb w b1 b2 b5 b6
  go_enter Yba.func26, Yba.ntmps26
  go_upto_region 1 with fail
  obtain ⟨w1, hw1⟩ : ∃ x, x = (((w.alloc (.cells (idA hx lx) 76)).alloc (.cells (idA ha la) 76)).alloc (.cells (idA hb lb) 76)) := ⟨_, rfl⟩
  obtain ⟨R, hR⟩ : ∃ x, x = w.heap.size := ⟨_, rfl⟩
  rw [← hw1] at hX hA hB hW ⊢
  rw [← hR] at hX hA hB ⊢
  have hW' : Hid (Below w.heap.size w w1) := hW
  have hX' : Hid (Blk w1 R 76 (idA hx lx)) := hX
  have hA' : Hid (Blk w1 (R + 1) 76 (idA ha la)) := hA
  have hB' : Hid (Blk w1 (R + 1 + 1) 76 (idA hb lb)) := hB
  clear hw1 hR hX hA hB hW
  by_cases hc : hx = hb ∧ lx = lb
  · have hres : Hid (bin hx lx ha la hb lb = true) := by unfold Hid; rw [hc.1, hc.2]; exact bin_end _ _ _ _
    have hd : decide (hx = hb ∧ lx = lb) = true := decide_eq_true hc
    rw [hd] at heq
    clear hc
    go_wp2_with (first
      | (refine wpList_load76 _ (o := ⟨some 7, _, _, _, _, _⟩) rfl _ rfl R hx lx rfl hX'.out ?_)
      | (refine wpList_load76 _ (o := ⟨some 8, _, _, _, _, _⟩) rfl _ rfl (R + 1 + 1) hb lb rfl hB'.out ?_))
    go_returns
    exact ⟨by rw [hres.out]; rfl, hW'.out⟩
  · have k1 : Hid (∀ x, Calls Yba.prog 43 #[.agg (idA hx lx), .agg (idA ha la), .agg (idA hb lb)] x fun ex y => ex = .returned (.bool (bin hx lx ha la hb lb)) ∧ Below x.heap.size x y) := fun x => by
      rw [← btw_bin hx lx ha la hb lb b1 b2 b3 b4 b5 b6 hc]
      exact between_calls hx lx ha la hb lb x b1 b2 b3 b4 b5 b6
    have hd : decide (hx = hb ∧ lx = lb) = false := decide_eq_false hc
    rw [hd] at heq
    clear hc
    go_wp2_with (first
      | ((with_reducible refine wpList_load76 _ (o := ⟨some 7, _, _, _, _, _⟩) ?_ (.tmp 3) ?_ (R) hx lx ?_ hX'.out ?_); (· rfl); (· rfl); (· rfl))
      | ((with_reducible refine wpList_load76 _ (o := ⟨some 8, _, _, _, _, _⟩) ?_ (.tmp 5) ?_ (R + 1 + 1) hb lb ?_ hB'.out ?_); (· rfl); (· rfl); (· rfl))
      | ((with_reducible refine wpList_load76g _ (o := ⟨some 11, _, _, _, _, _⟩) ?_ (.tmp 3) ?_ (R) hx lx ?_ hX'.out ?_); (· rfl); (· rfl); (· rfl))
      | ((with_reducible refine wpList_load76g _ (o := ⟨some 12, _, _, _, _, _⟩) ?_ (.tmp 4) ?_ (R + 1) ha la ?_ hA'.out ?_); (· rfl); (· rfl); (· rfl))
      | ((with_reducible refine wpList_load76g _ (o := ⟨some 13, _, _, _, _, _⟩) ?_ (.tmp 5) ?_ (R + 1 + 1) hb lb ?_ hB'.out ?_); (· rfl); (· rfl); (· rfl))
      | (go_at_call 43; refine (k1.out _).mono ?_; rintro ex w2 ⟨rfl, hq⟩; have hq' : Hid (Below w1.heap.size w1 w2) := hq; clear hq))
    go_returns
    exact ⟨by rfl, hW'.out.trans (hq'.out.mono hW'.out.size)⟩
end Go.Proofs.Ybulkeeeq
