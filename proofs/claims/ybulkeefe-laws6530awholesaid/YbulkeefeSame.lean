import Derived.Test.YbulkeefeLib
namespace Go.Proofs.Ybulkeefe
open Go.RowKit

set_option maxHeartbeats 400000 in
theorem same_strs (a b : Option Addr) (n c c' : Nat) (nm : Nat → ByteArray) (w : World) (hn : n ≤ 1048576) (hab : a.isNone = b.isNone) (ha : Reads w a n (fun i => .string (nm i))) (hb : Reads w b n (fun i => .string (nm i))) :
    Calls Yba.prog 9 #[.slice a n c, .slice b n c'] w fun e w' => e = .returned (.bool true) ∧ Draws w w' := by
  have q22 := fun (w : World) (a : Option Addr) (n c : Nat) => Lib.run_eql_slice_nil (P := Yba.prog) w 22 9 a n c 0 0 Yba.underlying22
  go_enter Yba.func9, Yba.ntmps9
  go_wp2_with fail
  refine (eq_strs a b n c c' nm w hn ha hb).mono ?_
  rintro e w1 ⟨rfl, hd⟩
  go_wp2
  go_ret
  exact ⟨rfl, hd⟩

/-- A slice of bytes and its copy: both nil, or both with the same bytes. -/
def SameBytes (w : World) (a b : Option Addr) (n : Nat) (c c' : Nat) (bt : Nat → UInt8) : Prop :=
  (a = none ∧ b = none ∧ n = 0 ∧ c = 0 ∧ c' = 0) ∨ ∃ x y, a = some x ∧ b = some y ∧ Reads w (some x) n (fun i => .int .u8 ((bt i).toNat : Int)) ∧ Reads w (some y) n (fun i => .int .u8 ((bt i).toNat : Int))

set_option maxHeartbeats 400000 in
theorem same_bytes (a b : Option Addr) (n c c' : Nat) (bt : Nat → UInt8) (w : World) (h : SameBytes w a b n c c' bt) :
    Calls Yba.prog 10 #[.slice a n c, .slice b n c'] w fun e w' => e = .returned (.bool true) ∧ w' = w := by
  have q23 := fun (w : World) (a : Option Addr) (n c : Nat) => Lib.run_eql_slice_nil (P := Yba.prog) w 23 5 a n c 0 0 Yba.underlying23
  rcases h with ⟨rfl, rfl, rfl, rfl, rfl⟩ | ⟨x, y, rfl, rfl, ha, hb⟩
  · go_enter Yba.func10, Yba.ntmps10
    go_wp2_with fail
    refine (eq_bytes_nil w).mono ?_
    rintro e w1 ⟨rfl, rfl⟩
    go_wp2
    go_ret
    exact ⟨rfl, rfl⟩
  · go_enter Yba.func10, Yba.ntmps10
    go_wp2_with fail
    refine (eq_bytes x y n c c' bt w ha hb).mono ?_
    rintro e w1 ⟨rfl, rfl⟩
    go_wp2
    go_ret
    exact ⟨rfl, rfl⟩

/-- slices.Clone of any slice of strings. -/
theorem clone_strs_any (a : Option Addr) (n c : Nat) (nm : Nat → ByteArray) (w : World) (hn : n ≤ 1048576) (hnil : Hid (a = none → n = 0 ∧ c = 0)) (hr : Reads w a n (fun i => .string (nm i))) :
    Calls Yba.prog 4 #[.slice a n c] w fun e w' => ∃ a' c', e = .returned (.slice a' n c') ∧ a'.isNone = a.isNone ∧ Reads w' a' n (fun i => .string (nm i)) ∧ Below w.heap.size w w' := by
  cases a with
  | none =>
    obtain ⟨rfl, rfl⟩ := hnil.out rfl
    refine (clone_strs_nil w).mono ?_
    rintro e w' ⟨rfl, rfl⟩
    exact ⟨none, 0, rfl, rfl, fun i hi => absurd hi (by omega), Below.refl _ _⟩
  | some x =>
    refine (clone_strs x n c nm w hn hr).mono ?_
    rintro e w' ⟨g, c', rfl, h1, h2⟩
    exact ⟨_, c', rfl, rfl, h1, h2⟩

/-- bytes.Clone of any slice of bytes. -/
theorem clone_bytes_any (a : Option Addr) (n c : Nat) (bt : Nat → UInt8) (w : World) (hn : n ≤ 1048576) (hnil : Hid (a = none → n = 0 ∧ c = 0)) (hr : Reads w a n (fun i => .int .u8 ((bt i).toNat : Int))) :
    Calls Yba.prog 5 #[.slice a n c] w fun e w' => ∃ a' c', e = .returned (.slice a' n c') ∧ SameBytes w' a a' n c c' bt ∧ Below w.heap.size w w' := by
  cases a with
  | none =>
    obtain ⟨rfl, rfl⟩ := hnil.out rfl
    refine (clone_bytes_nil w).mono ?_
    rintro e w' ⟨rfl, rfl⟩
    exact ⟨none, 0, rfl, .inl ⟨rfl, rfl, rfl, rfl, rfl⟩, Below.refl _ _⟩
  | some x =>
    refine (clone_bytes x n c bt w hn hr).mono ?_
    rintro e w' ⟨g, c', rfl, h1, h2⟩
    exact ⟨_, c', rfl, .inr ⟨x, _, rfl, rfl, hr.below h2, h1⟩, h2⟩

theorem SameBytes.below {w w' : World} {a b : Option Addr} {n c c' : Nat} {bt : Nat → UInt8} (h : SameBytes w a b n c c' bt) (hb : Below w.heap.size w w') : SameBytes w' a b n c c' bt := by
  rcases h with h | ⟨x, y, rfl, rfl, h1, h2⟩
  · exact .inl h
  · exact .inr ⟨x, y, rfl, rfl, h1.below hb, h2.below hb⟩

end Go.Proofs.Ybulkeefe
