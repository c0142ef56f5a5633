import Derived.Test.YbulkeebyRev
namespace Go.Proofs.Ybulkeeby
open Go.RowKit

theorem NodesTo.are {cs : Array Value} {ss : List ByteArray} {n : Nat} (h : NodesTo cs ss n n) : NodesAre cs n (fun j => ss.getD j ByteArray.empty) (fun _ => 1) := by
  refine ⟨h.1, fun j hj => ?_⟩
  have := h.2 j hj
  rwa [show 2 * j = j * 2 by omega] at this

/-- The weights behind k rounds. -/
def wTo (k : Nat) (wt : Nat → Int) (j : Nat) : Int := if j < k then wt j else 1

theorem wTo_step (k : Nat) (wt : Nat → Int) (j : Nat) : (if j = k then wt k else wTo k wt j) = wTo (k + 1) wt j := by
  unfold wTo
  by_cases e : j = k
  · subst e; rw [if_pos rfl, if_pos (by omega)]
  · by_cases e' : j < k
    · rw [if_neg e, if_pos e', if_pos (by omega)]
    · rw [if_neg e, if_neg e', if_neg (by omega)]

/-- Where the j-th node of the answer comes from. -/
def src (lay : Int) (n j : Nat) : Nat := if lay = 2 then n - 1 - j else j

set_option maxHeartbeats 800000 in
theorem nodes_walk (r : Nat) (an aw : Option Addr) (n cn m cm : Nat) (lay : Int) (ss : List ByteArray) (wt : Nat → Int) (w : World) (hn : n ≤ 1048576) (hm : m ≤ n)
    (hr0 : w.cell? ⟨r, 0, none⟩ = some (.slice an n cn)) (hr13 : w.cell? ⟨r, 13, none⟩ = some (.slice aw m cm)) (hr12 : w.cell? ⟨r, 12, none⟩ = some (.int .u8 lay)) (hrw : r < w.heap.size)
    (hc : ∀ i, i < n → ∃ b off, an = some ⟨b, off, none⟩ ∧ b < w.heap.size ∧ w.cell? ⟨b, off + i, none⟩ = some (.string (ss.getD i ByteArray.empty)))
    (hcw : ∀ i, i < m → ∃ b off, aw = some ⟨b, off, none⟩ ∧ b < w.heap.size ∧ w.cell? ⟨b, off + i, none⟩ = some (.int .i64 (wt i))) :
    Calls Yba.prog 6 #[.pointer (some ⟨r, 0, none⟩)] w fun e w' => ∃ cs, e = .returned (.slice (some ⟨w.heap.size, 0, none⟩) n n) ∧ Blk w' w.heap.size 26 cs ∧
      NodesAre cs n (fun j => ss.getD (src lay n j) ByteArray.empty) (fun j => wTo m wt (src lay n j)) ∧ Below w.heap.size w w' := by
  go_enter Yba.func6, Yba.ntmps6
  go_wp2_with fail
  refine (unw_walk an n cn ss w hn hc).mono ?_
  rintro e w1 ⟨cs, rfl, hb1, hto, hbel1⟩
  have hr13' := (hbel1.cell (p := ⟨r, 13, none⟩) hrw).trans hr13
  have hto' := hto.are
  clear hto
  go_wp2
  go_loopw [16] (fun i wr => ∃ k : Nat, k ≤ m ∧ i = .int .i64 k ∧ ∃ cs, Blk wr w.heap.size 26 cs ∧ NodesAre cs n (fun j => ss.getD j ByteArray.empty) (wTo k wt) ∧ Below w.heap.size w wr) (fun i _ => m - (intOf i).toNat)
  case atStart => exact ⟨0, Nat.zero_le _, rfl, cs, hb1, hto', hbel1⟩
  case round =>
    clear hto' hb1 hbel1 hr13'
    obtain ⟨k, hk, rfl, cs, hblk, hto, hbel⟩ := hrel
    by_cases hlt : k < m
    · obtain ⟨b, off, rfl, hbw, hcell⟩ := hcw k hlt
      have hcx := (hbel.cell (p := ⟨b, off + k, none⟩) hbw).trans hcell
      have hf : ∀ j, wr.frozen? ⟨w.heap.size, j, none⟩ = false := hblk.frozen
      have c1 := (hblk.cell (k * 2 + 1)).trans (hto.2 k (by omega)).2
      go_wp2
      go_roundw
      case rel => exact ⟨k + 1, by omega, by go_num, _, hblk.set _ _, (hto.setW (by omega) (wt k)).congr (fun _ _ => rfl) (fun j _ => wTo_step k wt j), hbel.setCell (Nat.le_refl _) _⟩
      case measure => simp [intOf]; omega
    · have hkm : k = m := by omega
      subst hkm
      have hr12' := (hbel.cell (p := ⟨r, 12, none⟩) hrw).trans hr12
      by_cases hlay : lay = 2
      · have hl2 : (lay == 2) = true := by simp [hlay]
        have HL : Hid (lay = 2) := hlay
        clear hlay
        go_wp2_with fail
        refine (rev_walk w.heap.size n cs _ _ wr hn hblk hto).mono ?_
        rintro e w3 ⟨cs3, rfl, hb3, hns3, hon3⟩
        go_wp2
        go_ret
        refine ⟨cs3, rfl, hb3, hns3.congr (fun j _ => ?_) (fun j _ => ?_), hbel.trans (hon3.below (Nat.le_refl _))⟩
        · simp [src, HL.out]
        · simp [src, HL.out]
      · have hl2 : (lay == 2) = false := by simp [hlay]
        have HL : Hid (¬ lay = 2) := hlay
        clear hlay
        go_wp2
        go_ret
        refine ⟨cs, rfl, hblk, hto.congr (fun j _ => ?_) (fun j _ => ?_), hbel⟩
        · simp [src, HL.out]
        · simp [src, HL.out]

end Go.Proofs.Ybulkeeby
