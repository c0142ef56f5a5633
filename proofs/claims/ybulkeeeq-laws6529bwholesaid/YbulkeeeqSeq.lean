import Derived.RangeFuncNested
import Derived.RangeFuncBound
import Derived.RangeFuncCalls
import Derived.RangeFuncLeaves
import Derived.Shelf.Abstract
import Derived.Shelf.RegionOpen
import Derived.WalkKit
import Derived.OwnWalkIn
import Derived.TacticsInMore
import Derived.LoopNIn
import Derived.LoopIn
import Derived.Test.YbulkeeeqPos
import Derived.Deep.RegionHeld3
namespace Go.Proofs.Ybulkeeeq
open Go.RowKit Go.Shelf
attribute [local go_sem] Oper.semAt_some
set_option linter.unusedVariables false

theorem info76 : (Yba.prog.info? 76).map (·.size) = some 20 := by kernel_rfl
theorem run_load76m {w : World} {b o hi lo : Nat} (h : w.rangeAt b o (idA hi lo).toList) : (Instr.loadAt 76 (.pointer (some ⟨b, o, none⟩))).run Yba.prog w = .ok (.agg (idA hi lo)) w := by
  have := run_loadAt_mid (P := Yba.prog) w b o 76 (idA hi lo).toList _ h Yba.underlying76 rfl (by rw [info76]; rfl)
  simpa using this
/-- An identifier is loaded whole, inside a fence. -/
theorem wpListIn_load76m {F : Fence} {nF : Nat} (w : World) {ops : Array Oper} {rest : List Oper} {o : Oper} {a : Act} {Q : Exit → Act → World → Prop}
    (hg : o.guard = none) (p : Operand) (hop : o.op = Op.load 76 p) (b off hi lo : Nat) (hp : a.eval p = .pointer (some ⟨b, off, none⟩)) (hb : w.rangeAt b off (idA hi lo).toList) (hK : wpListIn F nF Yba.prog ops Q rest (a.put o.dst (.agg (idA hi lo))) w) :
    wpListIn F nF Yba.prog ops Q (o :: rest) a w := by
  refine wpListIn_plain hg fun K' hK' => ?_
  have hrun := run_load76m hb
  unfold Oper.wpIn
  refine ⟨by simp [Oper.about, hop], ?_⟩
  rw [Oper.semAt_plain F _ _ (by rw [hop]; intro c hc'; cases hc')]
  simp [execOp, hop, hp, hrun, Result.andThen]
  exact hK' _ _ hK
theorem Blk.range76 {w : World} {g hi lo : Nat} (hb : Blk w g 76 (idA hi lo)) : w.rangeAt g 0 (idA hi lo).toList := by
  intro j v hv
  rw [Nat.zero_add, hb.cell]; simpa using hv

/-! ### A key is stored whole -/
theorem sizeOf79 (w : World) : (sizeOf 79).run Yba.prog w = .ok 21 w := by
  obtain ⟨i, hi, hs⟩ : ∃ i, Yba.prog.info? 79 = some i ∧ i.size = 21 := by
    have h79 : (Yba.prog.info? 79).map (fun i => i.size) = some 21 := by kernel_rfl
    cases h : Yba.prog.info? 79 with
    | none => rw [h] at h79; simp at h79
    | some i => rw [h] at h79; simp at h79; exact ⟨i, rfl, h79⟩
  simp [sizeOf, typeInfo, hi, hs]
theorem kidA_one (k : ByteArray) (hi lo : Nat) : ∀ v ∈ (kidA k hi lo).toList, v.oneCell' = true := by
  intro v hv
  simp only [kidA, List.mem_cons, List.not_mem_nil, or_false] at hv
  rcases hv with rfl | rfl | rfl | rfl | rfl | rfl | rfl | rfl | rfl | rfl | rfl | rfl | rfl | rfl | rfl | rfl | rfl | rfl | rfl | rfl | rfl <;> rfl
theorem run_store79 {w : World} {g hi lo : Nat} {k : ByteArray} {cur : Array Value} (hb : Blk w g 79 cur) (hs : cur.size = 21) : ∃ w', (storeVar 79 ⟨g, 0, none⟩ (.agg (kidA k hi lo))).run Yba.prog w = .ok () w' ∧ Blk w' g 79 (kidA k hi lo) ∧ Only g w w' := by
  have hl : (kidA k hi lo).toList.length = 21 := rfl
  have hst := run_storeCells_at Yba.prog g 0 79 (kidA k hi lo).toList 0 cur w hb (by rw [hl]; omega) (kidA_one k hi lo)
  have hc : (Value.agg (kidA k hi lo)).cells = kidA k hi lo := rfl
  have hsz : (kidA k hi lo).size = 21 := rfl
  refine ⟨w.setRow g (kidA k hi lo), ?_, setRow_heap w g _ _ 79 _ hb, ⟨rfl, rfl, rfl, by simp, fun q hq => setRow_other w g q _ hq⟩⟩
  have e : (cur.toList.take (0 + 0) ++ (kidA k hi lo).toList ++ cur.toList.drop (0 + 0 + (kidA k hi lo).toList.length)).toArray = kidA k hi lo := by
    have hd : cur.toList.drop (0 + 0 + (kidA k hi lo).toList.length) = [] := List.drop_eq_nil_of_le (by rw [hl]; simp [hs])
    rw [hd]; simp
  rw [e] at hst
  simp only [storeVar, Sem.run_bind, sizeOf79, Result.andThen, hc, hsz]
  simpa using hst
theorem wpList_store79 (w : World) {ops : Array Oper} {rest : List Oper} {o : Oper} {a : Act} {Q : Exit → Act → World → Prop}
    (hg : o.guard = none) (p v : Operand) (hop : o.op = Op.store 79 p v) (g hi lo : Nat) (k : ByteArray) (cur : Array Value) (hp : a.eval p = .pointer (some ⟨g, 0, none⟩)) (hv : a.eval v = .agg (kidA k hi lo)) (hb : Blk w g 79 cur) (hs : cur.size = 21)
    (hK : ∀ w', Blk w' g 79 (kidA k hi lo) → Only g w w' → wpList Yba.prog ops Q rest (a.put o.dst undef) w') :
    wpList Yba.prog ops Q (o :: rest) a w := by
  refine wpList_plain hg fun K hK' => ?_
  obtain ⟨w', hrun0, r1, r2⟩ := run_store79 (k := k) (hi := hi) (lo := lo) hb hs
  have hrun : (Instr.storeAt 79 (.pointer (some ⟨g, 0, none⟩)) (.agg (kidA k hi lo))).run Yba.prog w = .ok () w' := by
    have h1 : (Instr.sureAddr (.pointer (some ⟨g, 0, none⟩))).run Yba.prog w = .ok ⟨g, 0, none⟩ w := rfl
    simp only [Instr.storeAt, Sem.run_bind, h1, Result.andThen]
    exact hrun0
  unfold Oper.wp
  simp [execOp, hop, hp, hv, hrun, Result.andThen]
  exact hK' _ _ (hK w' r1 r2)
theorem kid_id {w : World} {g hi lo : Nat} {k : ByteArray} (hb : Blk w g 79 (kidA k hi lo)) : w.rangeAt g 1 (idA hi lo).toList := by
  intro j v hv
  rw [hb.cell]
  have e : (kidA k hi lo).toList = .string k :: (idA hi lo).toList := rfl
  rw [← Array.getElem?_toList, e, Nat.add_comm, List.getElem?_cons_succ]; exact hv

/-- 'run[k:]' -/
theorem run_cut74 (w : World) (b n c k : Nat) (hk : k ≤ n) (hc : n ≤ c) : ∃ a', (Instr.slice 74 (.slice (some ⟨b, 0, none⟩) n c) (some (.int .i64 (k : Int))) none none).run Yba.prog w = .ok (.slice a' (n - k) (c - k)) w ∧ (k < n → a' = some ⟨b, k * 21, none⟩) := by
  refine ⟨if c = k then some ⟨b, 0, none⟩ else some ⟨b, k * 21, none⟩, ?_, fun h => by rw [if_neg (by omega)]⟩
  have eu : Yba.prog.underlying 74 = some (.slice (Yba.prog.elem 74)) := by
    have e : Yba.prog.elem 74 = 79 := by kernel_rfl
    rw [e]; exact Yba.underlying74
  rw [run_slice_l w 74 (some ⟨b, 0, none⟩) n c eu .i64 (k : Int) (by omega) (by omega)]
  have : (sizeOf (Yba.prog.elem 74)).run Yba.prog w = .ok 21 w := by
    have e : Yba.prog.elem 74 = 79 := by kernel_rfl
    rw [e]; exact sizeOf79 w
  rw [this]
  simp [Result.andThen, sliced, WideShapes.add_plain]
end Go.Proofs.Ybulkeeeq
