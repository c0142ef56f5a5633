import Derived.Test.YbulkeeeqWords
import Derived.Shelf.Spec.BitsCarry
namespace Go.Proofs.Ybulkeeeq
open Go.RowKit
set_option linter.unusedVariables false

theorem run_add64' (x y c : Nat) (hc : c ≤ 1) (w : World) : (callFunc 69 #[.int .u64 x, .int .u64 y, .int .u64 c]).run Yba.prog w =
    .ok (.value (.tuple #[.int .u64 (((x + y + c) % 18446744073709551616 : Nat) : Int), .int .u64 (((x + y + c) / 18446744073709551616 : Nat) : Int)])) w := by
  rw [run_callFunc_extern Yba.func69 (by kernel_rfl) (by kernel_rfl) (by kernel_rfl) (e := add64Entry) (by kernel_rfl), run_add64 x y c (by omega) (by omega) (by omega) (by omega)]
  simp only [Result.andThen]
  congr 5 <;> omega
theorem run_sub64' (x y b : Nat) (hb : b ≤ 1) (w : World) : (callFunc 71 #[.int .u64 x, .int .u64 y, .int .u64 b]).run Yba.prog w =
    .ok (.value (.tuple #[.int .u64 (((x + 18446744073709551616 - y - b) % 18446744073709551616 : Nat) : Int), .int .u64 ((if x < y + b then 1 else 0 : Nat) : Int)])) w := by
  rw [run_callFunc_extern Yba.func71 (by kernel_rfl) (by kernel_rfl) (by kernel_rfl) (e := sub64Entry) (by kernel_rfl), run_sub64 x y b hb]
  rfl

set_option maxHeartbeats 1000000 in
theorem add32_calls (x y c : Nat) (hx : x < 4294967296) (hy : y < 4294967296) (hc : c ≤ 1) (w : World) : Calls Yba.prog 68 #[.int .u32 x, .int .u32 y, .int .u32 c] w fun ex w' => ex = .returned (.tuple #[.int .u32 ((x + y + c) % 4294967296 : Nat), .int .u32 ((x + y + c) / 4294967296 : Nat)]) ∧ w' = w := by
  obtain ⟨s, hs⟩ : ∃ s, s = x + y := ⟨_, rfl⟩
  have es : (x : Int) + (y : Int) = (s : Int) := by omega
  obtain ⟨t, ht⟩ : ∃ t, t = s + c := ⟨_, rfl⟩
  have et : (s : Int) + (c : Int) = (t : Int) := by omega
  have hsb : s < 8589934592 := by omega
  have htb : t < 8589934593 := by omega
  rw [← hs, ← ht]
  clear hs ht
  go_enter Yba.func68, Yba.ntmps68
  go_wp2
  go_ret2
  exact ⟨by first | rfl | simp, rfl⟩

theorem u32_and (a b : Nat) (ha : a < 4294967296) (hb : b < 4294967296) : bits .and .u32 (a : Int) (b : Int) = ((a &&& b : Nat) : Int) := by
  have h : a &&& b < 2 ^ 32 := Nat.and_lt_two_pow _ (by omega)
  have ha' : a % 2 ^ IntKind.u32.bits = a := Nat.mod_eq_of_lt ha
  have hb' : b % 2 ^ IntKind.u32.bits = b := Nat.mod_eq_of_lt hb
  simp only [bits, BitVec.ofInt_natCast, BitVec.toNat_and, BitVec.toNat_ofNat, ha', hb']
  rw [IntKind.wrap_u32]; omega
theorem u32_or (a b : Nat) (ha : a < 4294967296) (hb : b < 4294967296) : bits .or .u32 (a : Int) (b : Int) = ((a ||| b : Nat) : Int) := by
  have h : a ||| b < 2 ^ 32 := Nat.or_lt_two_pow (by omega) (by omega)
  have ha' : a % 2 ^ IntKind.u32.bits = a := Nat.mod_eq_of_lt ha
  have hb' : b % 2 ^ IntKind.u32.bits = b := Nat.mod_eq_of_lt hb
  simp only [bits, BitVec.ofInt_natCast, BitVec.toNat_or, BitVec.toNat_ofNat, ha', hb']
  rw [IntKind.wrap_u32]; omega
theorem u32_xor (a b : Nat) (ha : a < 4294967296) (hb : b < 4294967296) : bits .xor .u32 (a : Int) (b : Int) = ((a ^^^ b : Nat) : Int) := by
  have h : a ^^^ b < 2 ^ 32 := Nat.xor_lt_two_pow (by omega) (by omega)
  have ha' : a % 2 ^ IntKind.u32.bits = a := Nat.mod_eq_of_lt ha
  have hb' : b % 2 ^ IntKind.u32.bits = b := Nat.mod_eq_of_lt hb
  simp only [bits, BitVec.ofInt_natCast, BitVec.toNat_xor, BitVec.toNat_ofNat, ha', hb']
  rw [IntKind.wrap_u32]; omega
theorem nat_not (n x : Nat) (hx : x < 2 ^ n) : (2 ^ n - 1) ^^^ x = 2 ^ n - (x + 1) := by
  apply Nat.eq_of_testBit_eq
  intro i
  rw [Nat.testBit_xor, Nat.testBit_two_pow_sub_one, Nat.testBit_two_pow_sub_succ hx]
  by_cases q : i < n
  · simp [q]
  · have : x.testBit i = false := Nat.testBit_lt_two_pow (Nat.lt_of_lt_of_le hx (Nat.pow_le_pow_right (by decide) (by omega)))
    simp [q, this]
theorem u32_not (a : Nat) (ha : a < 4294967296) : bits .xor .u32 IntKind.u32.max (a : Int) = ((4294967295 - a : Nat) : Int) := by
  have e : IntKind.u32.max = ((4294967295 : Nat) : Int) := by decide
  have h := nat_not 32 a ha
  rw [e, u32_xor _ _ (by omega) ha]
  have h2 : (2 ^ 32 - 1 : Nat) = 4294967295 := by decide
  rw [h2] at h
  rw [h]; omega
theorem u64_not (a : Nat) (ha : a < 18446744073709551616) : bits .xor .u64 IntKind.u64.max (a : Int) = ((18446744073709551615 - a : Nat) : Int) := by
  have e : IntKind.u64.max = ((18446744073709551615 : Nat) : Int) := by decide
  have h := nat_not 64 a ha
  have h2 : (2 ^ 64 - 1 : Nat) = 18446744073709551615 := by decide
  rw [h2] at h
  have hb : 18446744073709551615 ^^^ a < 2 ^ 64 := by rw [h]; omega
  rw [e]
  have ha' : a % 2 ^ IntKind.u64.bits = a := Nat.mod_eq_of_lt ha
  have hb' : 18446744073709551615 % 2 ^ IntKind.u64.bits = 18446744073709551615 := Nat.mod_eq_of_lt (by decide)
  simp only [bits, BitVec.ofInt_natCast, BitVec.toNat_xor, BitVec.toNat_ofNat, ha', hb']
  rw [IntKind.wrap_u64, h]; omega
theorem top_bit (n : Nat) (h : n < 4294967296) : n / 2147483648 = (n.testBit 31).toNat := by
  rw [Nat.testBit_eq_decide_div_mod_eq]
  have : n / 2 ^ 31 < 2 := by omega
  have e : n / 2 ^ 31 = n / 2147483648 := rfl
  rw [e]
  by_cases q : n / 2147483648 = 1
  · simp [q]
  · have : n / 2147483648 = 0 := by omega
    simp [this]
theorem borrow32 (x y d : Nat) (hx : x < 4294967296) (hy : y < 4294967296) (hd : d = (x + 4294967296 - y) % 4294967296) :
    (((4294967295 - x) &&& y) ||| ((4294967295 - (x ^^^ y)) &&& d)) / 2147483648 = if x < y then 1 else 0 := by
  have hdb : d < 4294967296 := by rw [hd]; omega
  have hxy : x ^^^ y < 4294967296 := Nat.xor_lt_two_pow (n := 32) (by omega) (by omega)
  have h1 : (4294967295 - x) &&& y < 2 ^ 32 := Nat.and_lt_two_pow _ (by omega)
  have h2 : (4294967295 - (x ^^^ y)) &&& d < 2 ^ 32 := Nat.and_lt_two_pow _ (by omega)
  rw [top_bit _ (Nat.or_lt_two_pow (n := 32) h1 h2)]
  have e1 : 4294967295 - x = 2 ^ 32 - (x + 1) := by omega
  have e2 : 4294967295 - (x ^^^ y) = 2 ^ 32 - ((x ^^^ y) + 1) := by omega
  rw [e1, e2, Nat.testBit_or, Nat.testBit_and, Nat.testBit_and, Nat.testBit_two_pow_sub_succ (by omega), Nat.testBit_two_pow_sub_succ hxy, Nat.testBit_xor]
  have tx := top_bit x hx
  have ty := top_bit y hy
  have td := top_bit d hdb
  revert tx ty td
  generalize x.testBit 31 = bx
  generalize y.testBit 31 = b_y
  generalize d.testBit 31 = bd
  intro tx ty td
  cases bx <;> cases b_y <;> cases bd <;> simp at tx ty td ⊢ <;> omega

set_option maxHeartbeats 1000000 in
theorem sub32_calls (x y d r : Nat) (hx : x < 4294967296) (hy : y < 4294967296) (w : World) (hd : d = (x + 4294967296 - y) % 4294967296) (hr : r = if x < y then 1 else 0) : Calls Yba.prog 70 #[.int .u32 x, .int .u32 y, .int .u32 0] w fun ex w' => ex = .returned (.tuple #[.int .u32 d, .int .u32 r]) ∧ w' = w := by
  have hs : ¬ (IntKind.u32.signed = true) := by decide
  have hdb : d < 4294967296 := by rw [hd]; omega
  have ed : ((x : Int) - (y : Int)) % 4294967296 = (d : Int) := by rw [hd]; omega
  have hxy : x ^^^ y < 4294967296 := Nat.xor_lt_two_pow (n := 32) (by omega) (by omega)
  have h1 : (4294967295 - x) &&& y < 4294967296 := Nat.and_lt_two_pow (n := 32) _ (by omega)
  have h2 : (4294967295 - (x ^^^ y)) &&& d < 4294967296 := Nat.and_lt_two_pow (n := 32) _ (by omega)
  have e1 := u32_not x hx
  have e2 := u32_and (4294967295 - x) y (by omega) hy
  have e3 := u32_xor x y hx hy
  have e4 := u32_not (x ^^^ y) hxy
  have e5 := u32_and (4294967295 - (x ^^^ y)) d (by omega) hdb
  have e6 := u32_or _ _ h1 h2
  have hb := borrow32 x y d hx hy hd
  rw [← hr] at hb
  generalize ((4294967295 - x) &&& y) ||| ((4294967295 - (x ^^^ y)) &&& d) = q6 at e6 hb
  generalize (4294967295 - (x ^^^ y)) &&& d = q5 at e5 e6
  generalize (4294967295 - x) &&& y = q2 at e2 e6
  generalize 4294967295 - (x ^^^ y) = q4 at e4 e5
  generalize 4294967295 - x = q1 at e1 e2
  generalize x ^^^ y = q3 at e3 e4
  have e7 : (q6 : Int) / 2147483648 = (r : Int) := by omega
  clear hb hr hd
  go_enter Yba.func70, Yba.ntmps70
  go_wp2
  go_ret2
  exact ⟨by first | rfl | simp, rfl⟩
end Go.Proofs.Ybulkeeeq
