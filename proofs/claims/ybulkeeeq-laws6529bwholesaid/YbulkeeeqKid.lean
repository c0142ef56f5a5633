import Derived.Test.YbulkeeeqTake
import Derived.Test.YbulkeeeqCmp
import Derived.Deep.MidRow
namespace Go.Proofs.Ybulkeeeq
open Go.RowKit
set_option linter.unusedVariables false

/-- The cells of a key with its identifier. -/
def kidA (k : ByteArray) (hi lo : Nat) : Array Value := #[.string k, .int .u8 hi, .int .u8 0, .int .u8 0, .int .u8 0, .int .u8 0, .int .u8 0, .int .u8 0, .int .u8 0, .int .u8 0, .int .u8 0, .int .u8 0, .int .u8 0, .int .u8 0, .int .u8 0, .int .u8 0, .int .u8 0, .int .u8 0, .int .u8 0, .int .u8 0, .int .u8 lo]
theorem info79 : (Yba.prog.info? 79).map (·.size) = some 21 := by kernel_rfl
/-- n keys lie in block b. -/
def KRow (w : World) (b n : Nat) (ks : Nat → Ent) : Prop := ∀ e, e < n → w.rangeAt b (e * 21) (kidA (ks e).key (ks e).hi (ks e).lo).toList
theorem KRow.below {w w' : World} {B b n : Nat} {ks : Nat → Ent} (h : KRow w b n ks) (hb : Below B w w') (hB : b < B) : KRow w' b n ks := by
  intro e he j v hv
  rw [hb.cell (by exact hB)]; exact h e he j v hv
theorem run_load79 {w : World} {b o hi lo : Nat} {k : ByteArray} (h : w.rangeAt b o (kidA k hi lo).toList) : (Instr.loadAt 79 (.pointer (some ⟨b, o, none⟩))).run Yba.prog w = .ok (.agg (kidA k hi lo)) w := by
  have := run_loadAt_mid (P := Yba.prog) w b o 79 (kidA k hi lo).toList _ h Yba.underlying79 rfl (by rw [info79]; rfl)
  simpa using this
theorem wpList_load79 (w : World) {ops : Array Oper} {rest : List Oper} {o : Oper} {a : Act} {Q : Exit → Act → World → Prop}
    (hg : Region.wanted o (yielded ops a.tmps) = true) (p : Operand) (hop : o.op = Op.load 79 p) (b off hi lo : Nat) (k : ByteArray) (hp : a.eval p = .pointer (some ⟨b, off, none⟩)) (hb : w.rangeAt b off (kidA k hi lo).toList) (hK : wpList Yba.prog ops Q rest (a.put o.dst (.agg (kidA k hi lo))) w) :
    wpList Yba.prog ops Q (o :: rest) a w := by
  refine wpList_step fun K hK' => ?_
  rw [if_pos hg]
  have hrun := run_load79 hb
  unfold Oper.wp
  simp [execOp, hop, hp, hrun, Result.andThen]
  exact hK' _ _ hK

set_option maxHeartbeats 1000000 in
set_option maxRecDepth 100000 in
theorem compareKey_calls (k s : ByteArray) (hi lo : Nat) (w : World) : Calls Yba.prog 42 #[.agg (kidA k hi lo), .string s] w fun ex w' => ex = .returned (.int .i64 (Lib.compareBytes k.data.toList s.data.toList)) ∧ Below w.heap.size w w' := by
  have h0 : Blk (w.alloc (.cells (kidA k hi lo) 79)) w.heap.size 79 (kidA k hi lo) := Blk.new w _ _
  have c0 : (w.alloc (.cells (kidA k hi lo) 79)).cell? ⟨w.heap.size, 0, none⟩ = some (.string k) := by rw [h0.cell]; rfl
  have hW : Hid (Below w.heap.size w (w.alloc (.cells (kidA k hi lo) 79))) := (Below.refl _ w).alloc (Nat.le_refl _) _
  go_enter Yba.func42, Yba.ntmps42
  go_upto_region 1 with fail
  obtain ⟨w1, hw1⟩ : ∃ x, x = w.alloc (.cells (kidA k hi lo) 79) := ⟨_, rfl⟩
  obtain ⟨R, hR⟩ : ∃ x, x = w.heap.size := ⟨_, rfl⟩
  rw [← hw1] at c0 hW ⊢
  rw [← hR] at c0 ⊢
  clear hw1 hR h0
  go_wp2_with (go_at_call 12; refine (compare_calls _ _ _).mono ?_; rintro e w' ⟨rfl, rfl⟩)
  go_returns
  exact ⟨rfl, hW.out⟩

set_option maxHeartbeats 1000000 in
set_option maxRecDepth 100000 in
/-- The last key of a run, compared. -/
theorem lastKey_calls (b n cap : Nat) (ks : Nat → Ent) (s : ByteArray) (w : World) (hn : 0 < n) (hn2 : n ≤ 65536) (hk : KRow w b n ks) :
    Calls Yba.prog 54 #[.slice (some ⟨b, 0, none⟩) n cap, .string s] w fun ex w' => ex = .returned (.int .i64 (Lib.compareBytes (ks (n - 1)).key.data.toList s.data.toList)) ∧ Below w.heap.size w w' := by
  obtain ⟨m, hm⟩ : ∃ x, x = n - 1 := ⟨_, rfl⟩
  have em : (n : Int) - 1 = (m : Int) := by omega
  have hmn : m < n := by omega
  have hl : Hid (w.rangeAt b (m * 21) (kidA (ks m).key (ks m).hi (ks m).lo).toList) := hk m hmn
  have hcall : Hid (∀ w, Calls Yba.prog 42 #[.agg (kidA (ks m).key (ks m).hi (ks m).lo), .string s] w fun ex w' => ex = .returned (.int .i64 (Lib.compareBytes (ks m).key.data.toList s.data.toList)) ∧ Below w.heap.size w w') := fun w => compareKey_calls _ _ _ _ w
  rw [← hm]
  obtain ⟨km, hkm⟩ : ∃ x, x = (ks m).key := ⟨_, rfl⟩
  obtain ⟨hh, hhh⟩ : ∃ x, x = (ks m).hi := ⟨_, rfl⟩
  obtain ⟨hl2, hhl⟩ : ∃ x, x = (ks m).lo := ⟨_, rfl⟩
  rw [← hkm, ← hhh, ← hhl] at hl hcall
  rw [← hkm]
  clear hm hk hkm hhh hhl
  go_enter Yba.func54, Yba.ntmps54
  go_wp2_with (first
    | ((with_reducible refine wpList_load79 _ (o := ⟨some 10, _, _, _, _, _⟩) ?_ (.tmp 9) ?_ b (m * 21) hh hl2 km ?_ hl.out ?_); (· rfl); (· rfl); (· (first | rfl | simp [Act.eval])))
    | (go_at_call 42; refine (hcall.out _).mono ?_; rintro ex w2 ⟨rfl, hq⟩))
  go_returns
  exact ⟨rfl, hq⟩
end Go.Proofs.Ybulkeeeq
