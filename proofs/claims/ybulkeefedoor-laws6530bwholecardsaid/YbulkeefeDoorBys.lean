import Derived.Test.YbulkeefeDoorDec
import Derived.Laws.IdiomStrings
import Derived.Lib.BufferRead
namespace Go.Proofs.YbulkeefeDoor
open Go.RowKit

theorem info9 : (Ybad.prog.info? 9).map (fun i => (i.zero, i.size, i.bytes)) = some (some (.string ByteArray.empty), 1, 16) := by kernel_rfl
theorem info5 : (Ybad.prog.info? 5).map (fun i => (i.zero, i.size, i.bytes)) = some (some (.int .u8 0), 1, 1) := by kernel_rfl

theorem getD_lt {l : List UInt8} {i : Nat} (h : i < l.length) : l.getD i 0 = l[i] := by
  simp [List.getD_eq_getElem?_getD, List.getElem?_eq_getElem h]

/-- Where the rest of a slice lies. -/
def cutA (a : Option Addr) (c k : Nat) : Option Addr := if c = k then a else a.map (·.add k)

theorem Bys.drop {w : World} {a : Option Addr} {l : List UInt8} {c k : Nat} (h : Bys w a l) (hc : l.length ≤ c) : Bys w (cutA a c k) (l.drop k) := by
  intro i hi
  rw [List.length_drop] at hi
  obtain ⟨b, off, rfl, hlt, hcell⟩ := h (k + i) (by omega)
  refine ⟨b, off + k, ?_, hlt, ?_⟩
  · unfold cutA; rw [if_neg (by omega)]; simp [WideShapes.add_plain]
  · rw [Nat.add_assoc, hcell]; simp [List.getD_eq_getElem?_getD]

theorem Bys.take {w : World} {a : Option Addr} {l : List UInt8} {k : Nat} (h : Bys w a l) : Bys w a (l.take k) := by
  intro i hi
  rw [List.length_take] at hi
  obtain ⟨b, off, rfl, hlt, hcell⟩ := h i (by omega)
  refine ⟨b, off, rfl, hlt, ?_⟩
  rw [hcell]
  simp only [List.getD_eq_getElem?_getD, List.getElem?_take]
  rw [if_pos (by omega)]

theorem Bys.below {w w' : World} {a : Option Addr} {l : List UInt8} (h : Bys w a l) (hb : Below w.heap.size w w') : Bys w' a l := Reads.below h hb

theorem Bys.nil (w : World) (a : Option Addr) : Bys w a [] := by
  intro i hi; simp at hi

/-- If there is anything, it lies in a block below R. -/
def Off (a : Option Addr) (n R : Nat) : Prop := 0 < n → ∀ x, a = some x → x.block < R
theorem Off.cut {a : Option Addr} {n R : Nat} (h : Off a n R) (c k : Nat) : Off (cutA a c k) (n - k) R := by
  intro hn x hx
  have h := h (by omega)
  unfold cutA at hx
  split at hx
  · exact h x hx
  · cases a with
    | none => simp at hx
    | some y =>
      simp only [Option.map_some, Option.some.injEq] at hx
      subst hx
      have := h y rfl
      unfold Addr.add
      split <;> exact this

theorem Bys.only {w w' : World} {a : Option Addr} {l : List UInt8} {R : Nat} (h : Bys w a l) (ho : Off a l.length R) (hw : Only R w w') : Bys w' a l := by
  intro i hi
  obtain ⟨b, off, rfl, hlt, hcell⟩ := h i hi
  refine ⟨b, off, rfl, by have := hw.size; omega, ?_⟩
  rw [← hcell]
  have hb := hw.block b (Nat.ne_of_lt (ho (by omega) _ rfl))
  simp only [World.cell?, hb]

theorem Bys.underR {w w' : World} {a : Option Addr} {l : List UInt8} {R : Nat} (h : Bys w a l) (ho : Off a l.length R) (hw : Below R w w') : Bys w' a l := by
  intro i hi
  obtain ⟨b, off, rfl, hlt, hcell⟩ := h i hi
  refine ⟨b, off, rfl, by have := hw.size; omega, ?_⟩
  rw [← hcell]
  have hlt' : b < R := ho (by omega) _ rfl
  exact hw.cell (by exact hlt')

/-- 'b[k:]' -/
theorem run_from (w : World) (a : Option Addr) (n c k : Nat) (hk : k ≤ n) : (Instr.slice 22 (.slice a n c) (some (.int .i64 (k : Int))) none none).run Ybad.prog w = .ok (.slice (cutA a c k) (n - k) (c - k)) w := by
  rw [run_slice_l w 22 a n c Ybad.underlying22 .i64 (k : Int) (by omega) (by omega)]
  have : (sizeOf (Ybad.prog.elem 22)).run Ybad.prog w = .ok 1 w := by
    have e : Ybad.prog.elem 22 = 5 := by kernel_rfl
    rw [e]; exact Ybad.sizeOf5 w
  rw [this]
  simp [Result.andThen, sliced, cutA]

/-- 'string(b)' -/
theorem run_str (w : World) (a : Option Addr) (c : Nat) (l : List UInt8) (n : Nat) (hn : n = l.length) (h : Bys w a l) : (convert 22 9 (.slice a n c)).run Ybad.prog w = .ok (.string ⟨l.toArray⟩) w := by
  subst hn
  cases l with
  | nil =>
    cases a with
    | none => exact Lib.run_convert_nil_bytes w 22 9 5 c Ybad.underlying22 Ybad.underlying5 Ybad.underlying9
    | some x => exact run_convert_bytes_back w 22 9 5 x c [] Ybad.underlying22 Ybad.underlying5 Ybad.underlying9 (fun j hj => by simp at hj)
  | cons b t =>
    obtain ⟨g, off, rfl, _, _⟩ := h 0 (by simp)
    refine run_convert_bytes_back w 22 9 5 ⟨g, off, none⟩ c (b :: t) Ybad.underlying22 Ybad.underlying5 Ybad.underlying9 ?_
    intro j hj
    obtain ⟨g', off', e, _, hc⟩ := h j hj
    simp only [Option.some.injEq, Addr.mk.injEq] at e
    obtain ⟨rfl, rfl, _⟩ := e
    rw [WideShapes.add_plain, hc]
    simp only [getD_lt hj]
end Go.Proofs.YbulkeefeDoor
