import Derived.Lib.Varint
import Derived.Lib.VarintDec
namespace Go.Proofs.YbulkeefeDoor

/-! ### The plain reading of a count-prefixed list of length-prefixed strings -/

/-- A count and what is left behind it. -/
def cnt (l : List UInt8) : Option (Nat × List UInt8) :=
  if 0 < (Lib.uvarintDec l).2 then
    if (Lib.uvarintDec l).1 ≤ (l.drop (Lib.uvarintDec l).2.toNat).length then some ((Lib.uvarintDec l).1, l.drop (Lib.uvarintDec l).2.toNat) else none
  else none

/-- One length-prefixed string. 'none': a read has failed. -/
def one : Option (List UInt8) → List UInt8 × Option (List UInt8)
  | none => ([], none)
  | some l => match cnt l with
    | none => ([], none)
    | some (n, r) => (r.take n, some (r.drop n))

/-- The state behind k strings; the k-th string. -/
def stN (st : Option (List UInt8)) : Nat → Option (List UInt8)
  | 0 => st
  | k + 1 => (one (stN st k)).2
def nameN (st : Option (List UInt8)) (k : Nat) : List UInt8 := (one (stN st k)).1

theorem one_none : one none = ([], none) := rfl
theorem one_some {l r : List UInt8} {n : Nat} (h : cnt l = some (n, r)) : one (some l) = (r.take n, some (r.drop n)) := by simp [one, h]
theorem one_fail {l : List UInt8} (h : cnt l = none) : one (some l) = ([], none) := by simp [one, h]

theorem cnt_le {l r : List UInt8} {n : Nat} (h : cnt l = some (n, r)) : n ≤ r.length ∧ r.length ≤ l.length := by
  unfold cnt at h
  split at h
  · split at h
    · simp only [Option.some.injEq, Prod.mk.injEq] at h
      obtain ⟨rfl, rfl⟩ := h
      refine ⟨by assumption, ?_⟩
      rw [List.length_drop]; omega
    · cases h
  · cases h

/-! ### What is written is read back -/
theorem toUInt8_small {x : Nat} (h : x < 256) : x.toUInt8.toNat = x := by
  show (UInt8.ofNat x).toNat = x
  rw [UInt8.toNat_ofNat']; omega

theorem uvarintFrom_back : ∀ (k x i acc : Nat) (r : List UInt8), x < 128 ^ (k + 1) → i + k ≤ 8 →
    Lib.uvarintFrom i acc (Lib.uvarint x ++ r) = (acc + x * 2 ^ (7 * i), ((i + (Lib.uvarint x).length : Nat) : Int))
  | 0, x, i, acc, r, hx, hi => by
    have hx' : x < 128 := by simpa using hx
    rw [Lib.uvarint_small hx']
    have e := toUInt8_small (x := x) (by omega)
    simp only [List.cons_append, List.nil_append, Lib.uvarintFrom, e]
    rw [if_neg (by omega), if_pos hx', if_neg (by omega)]
    simp
  | k + 1, x, i, acc, r, hx, hi => by
    by_cases hx' : x < 128
    · rw [Lib.uvarint_small hx']
      have e := toUInt8_small (x := x) (by omega)
      simp only [List.cons_append, List.nil_append, Lib.uvarintFrom, e]
      rw [if_neg (by omega), if_pos hx', if_neg (by omega)]
      simp
    · rw [Lib.uvarint_big (by omega)]
      have e := toUInt8_small (x := x % 128 + 128) (by omega)
      simp only [List.cons_append, Lib.uvarintFrom, e]
      rw [if_neg (by omega), if_neg (by omega)]
      have hd : x / 128 < 128 ^ (k + 1) := by
        rw [Nat.pow_succ] at hx
        exact Nat.div_lt_of_lt_mul (by rw [Nat.mul_comm]; exact hx)
      rw [uvarintFrom_back k (x / 128) (i + 1) _ r hd (by omega)]
      have e2 : (x % 128 + 128) % 128 = x % 128 := by omega
      have e3 : 2 ^ (7 * (i + 1)) = 2 ^ (7 * i) * 128 := by rw [Nat.mul_add, Nat.pow_add]
      rw [e2, e3]
      congr 1
      · generalize 2 ^ (7 * i) = p
        have hs : x = x / 128 * 128 + x % 128 := by omega
        have : x * p = (x / 128 * 128 + x % 128) * p := congrArg (· * p) hs
        rw [this, Nat.add_mul, Nat.mul_assoc (x / 128), Nat.mul_comm 128 p]
        omega
      · simp; omega

theorem dec_back (x : Nat) (r : List UInt8) (hx : x < 9223372036854775808) : Lib.uvarintDec (Lib.uvarint x ++ r) = (x, ((Lib.uvarint x).length : Int)) := by
  have := uvarintFrom_back 8 x 0 0 r (Nat.lt_of_lt_of_le hx (by decide)) (by omega)
  simpa [Lib.uvarintDec] using this

theorem cnt_back (x : Nat) (r : List UInt8) (hx : x < 9223372036854775808) (hr : x ≤ r.length) : cnt (Lib.uvarint x ++ r) = some (x, r) := by
  have h := dec_back x r hx
  have hp := Lib.uvarint_pos x
  unfold cnt
  rw [h]
  simp only [Int.toNat_natCast, List.drop_left]
  rw [if_pos (by omega), if_pos hr]

/-- The strings, each behind its length. -/
def encs (ss : List (List UInt8)) : List UInt8 := ss.flatMap fun s => Lib.uvarint s.length ++ s
def encAll (ss : List (List UInt8)) (raw : List UInt8) : List UInt8 := Lib.uvarint ss.length ++ (encs ss ++ raw)

theorem encs_length (ss : List (List UInt8)) : ss.length ≤ (encs ss).length := by
  induction ss with
  | nil => simp [encs]
  | cons s ss ih =>
    have hp := Lib.uvarint_pos s.length
    simp only [encs, List.flatMap_cons, List.length_append, List.length_cons] at ih ⊢
    omega

theorem encs_cons (s : List UInt8) (ss : List (List UInt8)) (raw : List UInt8) : encs (s :: ss) ++ raw = Lib.uvarint s.length ++ (s ++ (encs ss ++ raw)) := by simp [encs]

theorem stN_back (ss : List (List UInt8)) (raw : List UInt8) (hs : ∀ s ∈ ss, s.length < 9223372036854775808) : ∀ k, k ≤ ss.length → stN (some (encs ss ++ raw)) k = some (encs (ss.drop k) ++ raw)
  | 0, _ => by simp [stN]
  | k + 1, hk => by
    have ih := stN_back ss raw hs k (by omega)
    have hd : ss.drop k = ss[k] :: ss.drop (k + 1) := List.drop_eq_getElem_cons (by omega)
    have hl := hs ss[k] (List.getElem_mem _)
    simp only [stN]
    rw [ih, hd]
    rw [encs_cons, one_some (cnt_back _ _ hl (by simp))]
    simp
theorem nameN_back (ss : List (List UInt8)) (raw : List UInt8) (hs : ∀ s ∈ ss, s.length < 9223372036854775808) (k : Nat) (hk : k < ss.length) : nameN (some (encs ss ++ raw)) k = ss[k] := by
  have ih := stN_back ss raw hs k (by omega)
  have hd : ss.drop k = ss[k] :: ss.drop (k + 1) := List.drop_eq_getElem_cons (by omega)
  have hl := hs ss[k] (List.getElem_mem _)
  unfold nameN
  rw [ih, hd]
  rw [encs_cons, one_some (cnt_back _ _ hl (by simp))]
  simp
theorem cnt_all (ss : List (List UInt8)) (raw : List UInt8) (hs : ss.length < 9223372036854775808) : cnt (encAll ss raw) = some (ss.length, encs ss ++ raw) :=
  cnt_back _ _ hs (by have := encs_length ss; simp; omega)

end Go.Proofs.YbulkeefeDoor
