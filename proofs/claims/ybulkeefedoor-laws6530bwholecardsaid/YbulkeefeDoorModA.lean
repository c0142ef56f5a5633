import Derived.Test.YbulkeefeDoorNames
namespace Go.Proofs.YbulkeefeDoor
open Go.RowKit

theorem dec_ok (a : Option Addr) (c : Nat) (l : List UInt8) (v k : Nat) (w : World) (h : Bys w a l) (hd : Hid (Lib.uvarintDec l = (v, (k : Int)))) (hk0 : 0 < k) :
    Calls Ybad.prog 12 #[.slice a l.length c] w fun e w' => e = .returned (.tuple #[.int .u64 v, .int .i64 k, .bool true]) ∧ w' = w := by
  have := dec_calls a l.length c l w rfl h
  rw [hd.out] at this
  simpa [hk0] using this
theorem dec_bad (a : Option Addr) (c : Nat) (l : List UInt8) (w : World) (h : Bys w a l) (hd : Hid ((Lib.uvarintDec l).2 ≤ 0)) :
    Calls Ybad.prog 12 #[.slice a l.length c] w fun e w' => e = .returned (.tuple #[.int .u64 0, .int .i64 0, .bool false]) ∧ w' = w := by
  have := dec_calls a l.length c l w rfl h
  have hd' : ¬ 0 < (Lib.uvarintDec l).2 := by have := hd.out; omega
  simpa [hd'] using this

theorem cnt_of_dec {l : List UInt8} {v k : Nat} (hd : Lib.uvarintDec l = (v, (k : Int))) (hk0 : 0 < k) (hle : v ≤ l.length - k) : cnt l = some (v, l.drop k) := by
  unfold cnt; rw [hd]; simp only [Int.toNat_natCast, List.length_drop]
  rw [if_pos (by omega), if_pos hle]
theorem cnt_of_over {l : List UInt8} {v k : Nat} (hd : Lib.uvarintDec l = (v, (k : Int))) (hle : l.length - k < v) : cnt l = none := by
  unfold cnt; rw [hd]; simp only [Int.toNat_natCast, List.length_drop]
  split
  · rw [if_neg (by omega)]
  · rfl
theorem cnt_of_bad {l : List UInt8} (hd : (Lib.uvarintDec l).2 ≤ 0) : cnt l = none := by unfold cnt; rw [if_neg (by omega)]

/-- The model's loop state. -/
def MS (w0 : World) (vr : Value) (f : Bool) : Option (List UInt8) → Prop
  | none => f = true
  | some r => f = false ∧ ∃ a c, vr = .slice a r.length c ∧ Bys w0 a r ∧ r.length ≤ c ∧ r.length ≤ 4194304

set_option maxHeartbeats 400000 in
theorem model_bad (a : Option Addr) (c : Nat) (l : List UInt8) (w : World) (h : Bys w a l) (hd : Hid ((Lib.uvarintDec l).2 ≤ 0)) :
    Calls Ybad.prog 6 #[.slice a l.length c] w fun e w' => ∃ g, e = .returned (.tuple #[.slice (some ⟨g, 0, none⟩) 0 0, .bool true]) ∧ Below w.heap.size w w' := by
  obtain ⟨i0, hi, hz0, hz1, hz2⟩ := info_parts info9
  go_enter Ybad.func6, Ybad.ntmps6
  go_wp2_with (first
    | (go_at_call 12; refine (dec_bad a c l _ h hd).mono ?_; rintro e w1 ⟨rfl, hw1⟩; obtain rfl := hw1.symm; clear hw1)
    | (refine wpList_make_blk (P := Ybad.prog) _ (o := ⟨some 23, _, _, _, _, _⟩) rfl _ _ 23 rfl 9 i0 _ 1 Ybad.underlying23 hi hz0 hz1 .i64 .i64 (0 : Int) (0 : Int) 0 0 (by exact rfl) (by exact rfl) (by exact rfl) (by exact rfl) (Nat.le_refl 0) ?hby ?mx ?_))
  case hby => rw [hz2]; omega
  case mx => unfold maxLen; omega
  intro w2 hb2 hsz2 hbel2
  go_wp2
  go_ret2
  exact ⟨_, rfl, hbel2⟩

set_option maxHeartbeats 1000000 in
theorem model_over (a : Option Addr) (c : Nat) (l : List UInt8) (v k m : Nat) (w : World) (h : Bys w a l) (hm : Hid (m = l.length - k)) (hbig : m ≤ 4194304) (hd : Hid (Lib.uvarintDec l = (v, (k : Int)))) (hk0 : 0 < k) (hk : k ≤ l.length) (hle : m < v) :
    Calls Ybad.prog 6 #[.slice a l.length c] w fun e w' => ∃ g, e = .returned (.tuple #[.slice (some ⟨g, 0, none⟩) 0 0, .bool true]) ∧ Below w.heap.size w w' := by
  obtain ⟨i0, hi, hz0, hz1, hz2⟩ := info_parts info9
  have hs := fun w => run_from w a l.length c k hk
  rw [← hm.out] at hs
  clear hk
  go_enter Ybad.func6, Ybad.ntmps6
  go_wp2_with (first
    | (go_at_call 12; refine (dec_ok a c l v k _ h hd hk0).mono ?_; rintro e w1 ⟨rfl, hw1⟩; obtain rfl := hw1.symm; clear hw1)
    | (refine wpList_make_blk (P := Ybad.prog) _ (o := ⟨some 32, _, _, _, _, _⟩) rfl _ _ 23 rfl 9 i0 _ 1 Ybad.underlying23 hi hz0 hz1 .i64 .i64 (0 : Int) (0 : Int) 0 0 (by exact rfl) (by exact rfl) (by exact rfl) (by exact rfl) (Nat.le_refl 0) ?hby ?mx ?_))
  case hby => rw [hz2]; omega
  case mx => unfold maxLen; omega
  intro w2 hb2 hsz2 hbel2
  go_wp2
  go_ret2
  exact ⟨_, rfl, hbel2⟩

end Go.Proofs.YbulkeefeDoor
