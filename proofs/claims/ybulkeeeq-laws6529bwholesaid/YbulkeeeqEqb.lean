import Derived.Test.YbulkeeeqPush
namespace Go.Proofs.Ybulkeeeq
open Go.RowKit
set_option linter.unusedVariables false

set_option maxHeartbeats 1000000 in
set_option maxRecDepth 100000 in
/-- slices.Equal of a row of bytes with itself. -/
theorem equal_same (a : Option Addr) (n c c2 : Nat) (r : Nat → Nat) (w : World) (hn : n ≤ 9223372036854775807) (hr : Reads w a n (fun i => .int .u8 (r i : Nat))) :
    Calls Yba.prog 18 #[.slice a n c, .slice a n c2] w fun ex w' => ex = .returned (.bool true) ∧ Draws w w' := by
  have hr' : Hid (Reads w a n (fun i => .int .u8 (r i : Nat))) := hr
  clear hr
  go_enter Yba.func18, Yba.ntmps18
  go_upto_block 0 with fail
  go_wp2
  go_loopw [5, 13] (fun _ v13 wr => ∃ j : Nat, v13 = .int .i64 j ∧ j ≤ n ∧ Draws w wr) (fun _ v13 _ => n - (intOf v13).toNat)
  case atStart => exact ⟨0, rfl, Nat.zero_le _, Draws.refl _⟩
  case round =>
    obtain ⟨j, rfl, hj, hdr⟩ := hrel
    have hdr' : Hid (Draws w wr) := hdr
    by_cases hlt : j < n
    · have hd : decide (j < n) = true := decide_eq_true hlt
      obtain ⟨b, off, rfl, _, hc⟩ := hr'.out j hlt
      obtain ⟨x, hx⟩ : ∃ x, x = r j := ⟨_, rfl⟩
      have cx : wr.cell? ⟨b, off + j, none⟩ = some (.int .u8 x) := by rw [hx]; exact hdr.cell hc
      obtain ⟨j1, hj1⟩ : ∃ x, x = j + 1 := ⟨_, rfl⟩
      have ej1 : (j : Int) + 1 = (j1 : Int) := by omega
      have hj1' : Hid (j1 = j + 1) := hj1
      clear hj1 hx hc hdr
      go_upto_region 6 with fail
      go_quiet (fail)
      go_wp2
      exact ⟨⟨j + 1, by rw [hj1'.out], hlt, hdr'.out.drewN _⟩, by have := hj1'.out; simp [intOf]; omega⟩
    · have hd : decide (j < n) = false := decide_eq_false hlt
      clear hdr
      go_wp2
      (try simp only [Exit.inBlock, Exit.then])
      go_ret
      exact ⟨by first | rfl | simp, hdr'.out⟩
end Go.Proofs.Ybulkeeeq
