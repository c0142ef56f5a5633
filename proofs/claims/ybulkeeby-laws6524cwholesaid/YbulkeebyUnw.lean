import Derived.Test.YbulkeebyChecked
import Derived.Test.YbulkeebyMem
namespace Go.Proofs.Ybulkeeby
open Go.RowKit

theorem info26 : (Yba.prog.info? 26).map (fun i => (i.zero, i.size, i.bytes)) = some (some (.agg #[.string ByteArray.empty, .int .i64 0]), 2, 24) := by kernel_rfl

/-- The first k nodes of the block are the first k names with weight 1. -/
def NodesTo (cs : Array Value) (ss : List ByteArray) (n k : Nat) : Prop :=
  cs.size = n * 2 ∧ ∀ j, j < k → cs[2 * j]? = some (.string (ss.getD j ByteArray.empty)) ∧ cs[2 * j + 1]? = some (.int .i64 1)

theorem NodesTo.step {cs : Array Value} {ss : List ByteArray} {n k : Nat} (h : NodesTo cs ss n k) (hk : k < n) :
    NodesTo ((cs.setIfInBounds (k * 2) (.string (ss[k]?.getD ByteArray.empty))).setIfInBounds (k * 2 + 1) (.int .i64 1)) ss n (k + 1) := by
  obtain ⟨h1, h2⟩ := h
  refine ⟨by simpa using h1, fun j hj => ?_⟩
  by_cases e : j = k
  · subst e
    have a1 : 2 * j = j * 2 := by omega
    simp [a1, Array.getElem?_setIfInBounds]
    omega
  · obtain ⟨g1, g2⟩ := h2 j (by omega)
    have a1 : k * 2 + 1 ≠ 2 * j := by omega
    have a2 : k * 2 ≠ 2 * j := by omega
    have a3 : k * 2 + 1 ≠ 2 * j + 1 := by omega
    have a4 : k * 2 ≠ 2 * j + 1 := by omega
    exact ⟨by rw [Array.getElem?_setIfInBounds_ne a1, Array.getElem?_setIfInBounds_ne a2]; exact g1, by rw [Array.getElem?_setIfInBounds_ne a3, Array.getElem?_setIfInBounds_ne a4]; exact g2⟩

set_option maxHeartbeats 400000 in
theorem unw_walk (ad : Option Addr) (n c : Nat) (ss : List ByteArray) (w : World) (hn : n ≤ 1048576)
    (hc : ∀ i, i < n → ∃ b off, ad = some ⟨b, off, none⟩ ∧ b < w.heap.size ∧ w.cell? ⟨b, off + i, none⟩ = some (.string (ss.getD i ByteArray.empty))) :
    Calls Yba.prog 5 #[.slice ad n c] w fun e w' => ∃ cs, e = .returned (.slice (some ⟨w.heap.size, 0, none⟩) n n) ∧ Blk w' w.heap.size 26 cs ∧ NodesTo cs ss n n ∧ Below w.heap.size w w' := by
  obtain ⟨i0, hi, hz0, hz1, hz2⟩ := info_parts info26
  go_enter Yba.func5, Yba.ntmps5
  go_wp2_with (at_make; refine wpList_make_blk _ rfl _ _ 23 rfl 26 i0 _ 2 Yba.underlying23 hi hz0 hz1 .i64 .i64 n n n n rfl rfl rfl rfl (Nat.le_refl _) (by rw [hz2]; omega) (by unfold maxLen; omega) ?_; intro w1 hb1 hs1 hbel1)
  go_loopw [11] (fun i wr => ∃ k : Nat, k ≤ n ∧ i = .int .i64 k ∧ ∃ cs, Blk wr w.heap.size 26 cs ∧ NodesTo cs ss n k ∧ Below w.heap.size w wr) (fun i _ => n - (intOf i).toNat)
  case atStart => exact ⟨0, Nat.zero_le _, rfl, _, hb1, ⟨by rw [size_madeCells], fun j hj => absurd hj (by omega)⟩, hbel1⟩
  case round =>
    obtain ⟨k, hk, rfl, cs, hblk, hto, hbel⟩ := hrel
    clear hb1 hs1 hbel1
    by_cases hlt : k < n
    · obtain ⟨b, off, rfl, hbw, hcell⟩ := hc k hlt
      have hcx := (hbel.cell (p := ⟨b, off + k, none⟩) hbw).trans hcell
      have hsz := hto.1
      have hf : ∀ j, wr.frozen? ⟨w.heap.size, j, none⟩ = false := hblk.frozen
      have hc0 := (hblk.cell (k * 2)).trans (Array.getElem?_eq_getElem (by omega))
      have hc1 := (hblk.cell (k * 2 + 1)).trans (Array.getElem?_eq_getElem (by omega))
      go_wp2
      go_roundw
      case rel => exact ⟨k + 1, by omega, by go_num, _, (hblk.set _ _).set _ _, hto.step hlt, (hbel.setCell (Nat.le_refl _) _).setCell (Nat.le_refl _) _⟩
      case measure => simp [intOf]; omega
    · go_wp2
      go_ret
      exact ⟨cs, rfl, hblk, by have : k = n := by omega
                               subst this; exact hto, hbel⟩

end Go.Proofs.Ybulkeeby
