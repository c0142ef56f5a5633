import Derived.Test.YbulkeeeqId
namespace Go.Proofs.Ybulkeeeq
open Go.RowKit
set_option linter.unusedVariables false

theorem or_u32 (x : Nat) (h : x ≤ 255) : bits .or .u32 (x : Int) 0 = (x : Int) := by
  have : ∀ x : Fin 256, bits .or .u32 (x.val : Int) 0 = (x.val : Int) := by decide +kernel
  exact this ⟨x, by omega⟩
theorem or_u64 (x : Nat) (h : x ≤ 255) : bits .or .u64 0 ((x : Int) * 72057594037927936) = (x : Int) * 72057594037927936 := by
  have : ∀ x : Fin 256, bits .or .u64 0 ((x.val : Int) * 72057594037927936) = (x.val : Int) * 72057594037927936 := by decide +kernel
  exact this ⟨x, by omega⟩
theorem or_zero : bits .or .u64 0 0 = 0 := by decide +kernel

set_option maxHeartbeats 1000000 in
set_option maxRecDepth 100000 in
/-- The last four bytes of an identifier. -/
theorem u32_lo (g lo cp : Nat) (be : Value) (w : World) (hlo : lo ≤ 255) (c0 : w.cell? ⟨g, 16, none⟩ = some (.int .u8 0)) (c1 : w.cell? ⟨g, 17, none⟩ = some (.int .u8 0)) (c2 : w.cell? ⟨g, 18, none⟩ = some (.int .u8 0)) (c3 : w.cell? ⟨g, 19, none⟩ = some (.int .u8 lo)) (hbe : be = .agg #[]) :
    Calls Yba.prog 67 #[be, .slice (some ⟨g, 16, none⟩) 4 cp] w fun ex w' => ex = .returned (.int .u32 lo) ∧ Below w.heap.size w w' := by
  subst hbe
  have hgl := lt_of_cell c0
  simp at hgl
  have e1 := or_u32 lo hlo
  go_enter Yba.func67, Yba.ntmps67
  go_upto_region 2 with fail
  go_quiet (fail)
  go_wp2
  go_ret
  exact ⟨by first | rfl | simp, below_drewN ((Below.refl _ w).alloc (Nat.le_refl _) _) _⟩

set_option maxHeartbeats 1000000 in
set_option maxRecDepth 100000 in
/-- The first eight. -/
theorem u64_hi (g o hi cp : Nat) (w : World) (hhi : hi ≤ 255) (c0 : w.cell? ⟨g, o, none⟩ = some (.int .u8 hi)) (c1 : w.cell? ⟨g, o + 1, none⟩ = some (.int .u8 0)) (c2 : w.cell? ⟨g, o + 2, none⟩ = some (.int .u8 0)) (c3 : w.cell? ⟨g, o + 3, none⟩ = some (.int .u8 0)) (c4 : w.cell? ⟨g, o + 4, none⟩ = some (.int .u8 0)) (c5 : w.cell? ⟨g, o + 5, none⟩ = some (.int .u8 0)) (c6 : w.cell? ⟨g, o + 6, none⟩ = some (.int .u8 0)) (c7 : w.cell? ⟨g, o + 7, none⟩ = some (.int .u8 0)) :
    Calls Yba.prog 66 #[.agg #[], .slice (some ⟨g, o, none⟩) 8 cp] w fun ex w' => ex = .returned (.int .u64 ((hi : Int) * 72057594037927936)) ∧ Below w.heap.size w w' := by
  have hgl := lt_of_cell c0
  simp at hgl
  have e1 := or_u64 hi hhi
  have e2 := or_zero
  go_enter Yba.func66, Yba.ntmps66
  go_upto_region 2 with fail
  go_quiet (fail)
  go_wp2
  go_ret
  exact ⟨by first | rfl | simp, below_drewN ((Below.refl _ w).alloc (Nat.le_refl _) _) _⟩
end Go.Proofs.Ybulkeeeq
