import Derived.Test.YbulkeeeqBin
import Derived.Laws.CopyRow
namespace Go.Proofs.Ybulkeeeq
open Go.RowKit
set_option linter.unusedVariables false

theorem sizeOf76 (w : World) : (sizeOf 76).run Yba.prog w = .ok 20 w := by
  obtain ⟨i, hi, hs⟩ : ∃ i, Yba.prog.info? 76 = some i ∧ i.size = 20 := by
    have h76 : (Yba.prog.info? 76).map (fun i => i.size) = some 20 := by kernel_rfl
    cases h : Yba.prog.info? 76 with
    | none => rw [h] at h76; simp at h76
    | some i => rw [h] at h76; simp at h76; exact ⟨i, rfl, h76⟩
  simp [sizeOf, typeInfo, hi, hs]
theorem idA_one (hi lo : Nat) : ∀ v ∈ (idA hi lo).toList, v.oneCell' = true := by
  intro v hv
  obtain ⟨j, hj⟩ := List.getElem?_of_mem hv
  have hl : j < 20 := by have := (List.getElem?_eq_some_iff.1 hj).1; exact this
  have h2 := idA_get hi lo j hl
  rw [← Array.getElem?_toList, hj] at h2
  cases h2; rfl
theorem run_store76 {w : World} {g hi lo : Nat} {cur : Array Value} (hb : Blk w g 76 cur) (hs : cur.size = 20) : ∃ w', (storeVar 76 ⟨g, 0, none⟩ (.agg (idA hi lo))).run Yba.prog w = .ok () w' ∧ Blk w' g 76 (idA hi lo) ∧ Only g w w' := by
  have hl : (idA hi lo).toList.length = 20 := rfl
  have hst := run_storeCells_at Yba.prog g 0 76 (idA hi lo).toList 0 cur w hb (by rw [hl]; omega) (idA_one hi lo)
  have hc : (Value.agg (idA hi lo)).cells = idA hi lo := rfl
  have hsz : (idA hi lo).size = 20 := rfl
  refine ⟨w.setRow g (idA hi lo), ?_, setRow_heap w g _ _ 76 _ hb, ⟨rfl, rfl, rfl, by simp, fun k hk => setRow_other w g k _ hk⟩⟩
  have e : (cur.toList.take (0 + 0) ++ (idA hi lo).toList ++ cur.toList.drop (0 + 0 + (idA hi lo).toList.length)).toArray = idA hi lo := by
    have hd : cur.toList.drop (0 + 0 + (idA hi lo).toList.length) = [] := List.drop_eq_nil_of_le (by rw [hl]; simp [hs])
    rw [hd]; simp
  rw [e] at hst
  simp only [storeVar, Sem.run_bind, sizeOf76, Result.andThen, hc, hsz]
  simpa using hst

/-- An identifier is stored whole. -/
theorem wpList_store76 (w : World) {ops : Array Oper} {rest : List Oper} {o : Oper} {a : Act} {Q : Exit → Act → World → Prop}
    (hg : o.guard = none) (p v : Operand) (hop : o.op = Op.store 76 p v) (g hi lo : Nat) (cur : Array Value) (hp : a.eval p = .pointer (some ⟨g, 0, none⟩)) (hv : a.eval v = .agg (idA hi lo)) (hb : Blk w g 76 cur) (hs : cur.size = 20)
    (hK : ∀ w', Blk w' g 76 (idA hi lo) → Only g w w' → wpList Yba.prog ops Q rest (a.put o.dst undef) w') :
    wpList Yba.prog ops Q (o :: rest) a w := by
  refine wpList_plain hg fun K hK' => ?_
  obtain ⟨w', hrun0, r1, r2⟩ := run_store76 (hi := hi) (lo := lo) hb hs
  have hrun : (Instr.storeAt 76 (.pointer (some ⟨g, 0, none⟩)) (.agg (idA hi lo))).run Yba.prog w = .ok () w' := by
    have h1 : (Instr.sureAddr (.pointer (some ⟨g, 0, none⟩))).run Yba.prog w = .ok ⟨g, 0, none⟩ w := rfl
    simp only [Instr.storeAt, Sem.run_bind, h1, Result.andThen]
    exact hrun0
  unfold Oper.wp
  simp [execOp, hop, hp, hv, hrun, Result.andThen]
  exact hK' _ _ (hK w' r1 r2)

set_option maxHeartbeats 1000000 in
set_option maxRecDepth 100000 in
theorem bid_calls (hi lo : Nat) (w : World) : Calls Yba.prog 13 #[.int .u8 hi, .int .u8 lo] w fun ex w' => ex = .returned (.agg (idA hi lo)) ∧ Below w.heap.size w w' := by
  go_enter Yba.func13, Yba.ntmps13
  go_upto_region 4 with fail
  have h0 : Blk ((w.alloc (.cells (idA 0 0) 76)).alloc (.cells (idA hi lo) 76)) w.heap.size 76 (idA 0 0) := (Blk.new w _ _).alloc _
  have h1 : Blk ((w.alloc (.cells (idA 0 0) 76)).alloc (.cells (idA hi lo) 76)) (w.heap.size + 1) 76 (idA hi lo) := by
    have := Blk.new (w.alloc (.cells (idA 0 0) 76)) 76 (idA hi lo)
    simp at this; exact this
  have hW : Below w.heap.size w ((w.alloc (.cells (idA 0 0) 76)).alloc (.cells (idA hi lo) 76)) := ((Below.refl _ w).alloc (Nat.le_refl _) _).alloc (by simp) _
  obtain ⟨w1, hw1⟩ : ∃ x, x = (w.alloc (.cells (idA 0 0) 76)).alloc (.cells (idA hi lo) 76) := ⟨_, rfl⟩
  have hw2 : (w.alloc (.cells #[.int .u8 0, .int .u8 0, .int .u8 0, .int .u8 0, .int .u8 0, .int .u8 0, .int .u8 0, .int .u8 0, .int .u8 0, .int .u8 0, .int .u8 0, .int .u8 0, .int .u8 0, .int .u8 0, .int .u8 0, .int .u8 0, .int .u8 0, .int .u8 0, .int .u8 0, .int .u8 0] 76)).alloc (.cells #[.int .u8 hi, .int .u8 0, .int .u8 0, .int .u8 0, .int .u8 0, .int .u8 0, .int .u8 0, .int .u8 0, .int .u8 0, .int .u8 0, .int .u8 0, .int .u8 0, .int .u8 0, .int .u8 0, .int .u8 0, .int .u8 0, .int .u8 0, .int .u8 0, .int .u8 0, .int .u8 lo] 76) = w1 := by rw [hw1]; rfl
  rw [hw2]
  rw [← hw1] at h0 h1 hW
  obtain ⟨R, hR⟩ : ∃ x, x = w.heap.size := ⟨_, rfl⟩
  have hR' : Hid (R = w.heap.size) := hR
  rw [← hR] at h0 h1 ⊢
  have h0' : Hid (Blk w1 R 76 (idA 0 0)) := h0
  have h1' : Hid (Blk w1 (R + 1) 76 (idA hi lo)) := h1
  have hW' : Hid (Below w.heap.size w w1) := hW
  clear hw1 hw2 hR h0 h1 hW
  go_wp2_with (first
    | (refine wpList_load76 _ (o := ⟨some 10, _, _, _, _, _⟩) rfl _ rfl (R + 1) hi lo rfl h1'.out ?_)
    | (refine wpList_store76 _ (o := ⟨none, Op.store 76 _ _, _, _, _, _⟩) rfl _ _ rfl R hi lo (idA 0 0) rfl rfl h0'.out rfl ?_; intro w5 q1 q2))
  (try simp only [Exit.inBlock, Exit.then])
  refine bodyPost_ret (v := .agg (idA hi lo)) ?_ rfl ?_
  · have hl := run_load76 q1
    simp [results, Yba.results13]
    show ((asAddr (.pointer (some ⟨R, 0, none⟩))).run Yba.prog w5).andThen (fun a w' => (loadVar 76 a).run Yba.prog w') = _
    have h9 : (asAddr (.pointer (some ⟨R, 0, none⟩))).run Yba.prog w5 = .ok ⟨R, 0, none⟩ w5 := rfl
    rw [h9]
    exact hl
  · exact ⟨rfl, hW'.out.trans (q2.below (by rw [hR'.out]; exact Nat.le_refl _))⟩
end Go.Proofs.Ybulkeeeq
