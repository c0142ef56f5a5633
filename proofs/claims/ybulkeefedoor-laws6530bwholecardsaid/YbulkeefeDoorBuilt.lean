import Derived.Test.YbulkeefeDoorPut
import Derived.Test.YbulkeefeDoorLib
import Derived.Lib.AppendStr
namespace Go.Proofs.YbulkeefeDoor
open Go.RowKit

/-- The running total of the law's first loop. -/
def tot (nm : Nat → ByteArray) (nr : Nat) : Nat → Nat
  | 0 => nr
  | k + 1 => tot nm nr k + ((nm k).size + 10)

/-- The names' bytes. -/
def ssOf (nm : Nat → ByteArray) (nn : Nat) : List (List UInt8) := (List.range nn).map fun i => (nm i).data.toList

/-- What is written ahead of the k-th name. -/
def preK (nm : Nat → ByteArray) (nn k : Nat) : List UInt8 := Lib.uvarint nn ++ encs (ssOf nm k)

theorem ssOf_succ (nm : Nat → ByteArray) (k : Nat) : ssOf nm (k + 1) = ssOf nm k ++ [(nm k).data.toList] := by
  simp [ssOf, List.range_succ]
theorem preK_succ (nm : Nat → ByteArray) (nn k : Nat) : preK nm nn (k + 1) = preK nm nn k ++ Lib.uvarint (nm k).size ++ (nm k).data.toList := by
  have e : (nm k).data.toList.length = (nm k).size := rfl
  unfold preK
  rw [ssOf_succ, encs, List.flatMap_append]
  simp only [List.flatMap_cons, List.flatMap_nil, List.append_nil, e, encs, List.append_assoc]
theorem preK_all (nm : Nat → ByteArray) (nn : Nat) (lr : List UInt8) : preK nm nn nn ++ lr = encAll (ssOf nm nn) lr := by
  simp [preK, encAll, ssOf]
theorem preK_le (nm : Nat → ByteArray) (nn nr : Nat) (hn : nn < 18446744073709551616) : ∀ k, (∀ j, j < k → (nm j).size < 18446744073709551616) → (preK nm nn k).length + nr ≤ 10 + tot nm nr k
  | 0, _ => by
    have := Lib.uvarint_length64 hn
    simp [preK, ssOf, encs, tot]; omega
  | k + 1, h => by
    have ih := preK_le nm nn nr hn k (fun j hj => h j (by omega))
    have := Lib.uvarint_length64 (h k (by omega))
    rw [preK_succ]
    simp only [List.length_append, tot, Array.length_toList]
    have e : (nm k).data.size = (nm k).size := rfl
    omega
theorem tot_mono (nm : Nat → ByteArray) (nr j : Nat) : ∀ k, j ≤ k → tot nm nr j ≤ tot nm nr k
  | 0, h => by have : j = 0 := by omega
               subst this; exact Nat.le_refl _
  | k + 1, h => by
    by_cases e : j = k + 1
    · subst e; exact Nat.le_refl _
    · have := tot_mono nm nr j k (by omega)
      simp only [tot]; omega
theorem tot_size (nm : Nat → ByteArray) (nr : Nat) {j k : Nat} (h : j < k) : (nm j).size + 10 ≤ tot nm nr k := by
  have := tot_mono nm nr (j + 1) k (by omega)
  simp only [tot] at this; omega
theorem tot_len (nm : Nat → ByteArray) (nr : Nat) : ∀ k, nr + 10 * k ≤ tot nm nr k
  | 0 => by simp [tot]
  | k + 1 => by have := tot_len nm nr k; simp only [tot]; omega

theorem byteCells_range (l : List UInt8) : Lib.byteCells l = (List.range l.length).map (fun i => Value.int .u8 ((l.getD i 0).toNat : Int)) := by
  apply List.ext_getElem?
  intro i
  simp only [Lib.byteCells, List.getElem?_map]
  by_cases h : i < l.length
  · rw [List.getElem?_range h, List.getElem?_eq_getElem h]
    simp only [Option.map_some, getD_lt h]
  · rw [List.getElem?_eq_none (by omega), List.getElem?_eq_none (by simp; omega)]
    rfl

/-- What the call owns, read as bytes. -/
theorem owns_bys {w : World} {B : Nat} {v : Value} {l : List UInt8} (h : w.ownsRow B 5 1 v l.length (Lib.byteCells l)) : ∃ a c, v = .slice a l.length c ∧ Bys w a l ∧ l.length ≤ c ∧ (a = none → c = 0) := by
  by_cases hv : v = .slice none 0 0
  · subst hv
    have hl : l = [] := by
      rcases h.2 with ⟨_, h2⟩ | ⟨g, cap, cur, h2, _⟩
      · cases l with
        | nil => rfl
        | cons b t => simp at h2
      · cases h2
    subst hl
    exact ⟨none, 0, rfl, Bys.nil _ _, Nat.le_refl _, fun _ => rfl⟩
  · rw [byteCells_range] at h
    obtain ⟨g, c, rfl, _, _, hrd, hc⟩ := Reads.of_owns' h hv
    exact ⟨_, c, rfl, hrd, hc, fun e => by cases e⟩

theorem strCells_eq (s : ByteArray) : Lib.strCells s = Lib.byteCells s.data.toList := rfl
theorem byteCells_append (a b : List UInt8) : Lib.byteCells (a ++ b) = Lib.byteCells a ++ Lib.byteCells b := by simp [Lib.byteCells]
end Go.Proofs.YbulkeefeDoor
