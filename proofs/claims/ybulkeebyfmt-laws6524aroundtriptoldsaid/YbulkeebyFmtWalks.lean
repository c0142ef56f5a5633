import Derived.Test.YbulkeebyFmtUn
import Derived.Test.YbulkeebyFmtShelf
import Derived.Lib.ItoaLen
namespace Go.Proofs.YbulkeebyFmt
open Go.RowKit Go.Extern.Stop Go.Stop Go.Extern

theorem below_grow (w : World) (k : Nat) (os : Array Obj) : Below w.heap.size w (Go.Sort.grow (w.drewN k) os) := by
  refine ⟨rfl, rfl, rfl, by simp [Go.Sort.grow, World.drewN], fun i hi => ?_⟩
  show (w.heap ++ os)[i]? = w.heap[i]?
  rw [Array.getElem?_append_left hi]

/-- The word of any other op. -/
def wordOf (n : Int) : List UInt8 := [77, 101, 109, 98, 101, 114, 79, 112, 40] ++ Lib.itoa n ++ [41]

theorem word_cat (l : List UInt8) : (({ data := #[77, 101, 109, 98, 101, 114, 79, 112, 40] } : ByteArray) ++ { data := l.toArray } ++ { data := #[41] }) = ⟨([77, 101, 109, 98, 101, 114, 79, 112, 40] ++ l ++ [41]).toArray⟩ := by
  apply ByteArray.ext
  simp [ByteArray.data_append]

set_option maxHeartbeats 400000 in
theorem str_other (n : Int) (w : World) (h0 : (n == 0) = false) (h1 : (n == 1) = false) (hn0 : -9223372036854775808 ≤ n) (hn1 : n ≤ 9223372036854775807) (htab : Lib.TabIs Ybaf.prog w "internal/strconv.uint64pow10" .u64 Lib.pow10Tab) :
    Calls Ybaf.prog 4 #[.int .i64 n] w fun e w' => e = .returned (.string ⟨(wordOf n).toArray⟩) ∧ Below w.heap.size w w' := by
  have hlen := Lib.itoa_length_le n hn0 hn1
  have HC : Hid ((({ data := #[77, 101, 109, 98, 101, 114, 79, 112, 40] } : ByteArray) ++ { data := (Lib.itoa n).toArray } ++ { data := #[41] }) = ⟨(wordOf n).toArray⟩) := word_cat _
  go_enter Ybaf.func4, Ybaf.ntmps4
  go_wp2_with fail
  refine (Ybaf.strconv_Itoa n hn0 hn1 w htab).mono ?_
  rintro e w1 ⟨rfl, k, os, rfl⟩
  generalize Lib.itoa n = l at *
  go_wp2
  go_ret
  exact ⟨by rw [HC.out]; rfl, below_grow w k os⟩

theorem bytesRow_at (s : ByteArray) (cap j : Nat) (h : j < s.data.toList.length) : (bytesRow s cap)[j]? = some (.int .u8 (s.data.toList[j].toNat : Int)) := by
  have h' : j < s.data.size := by simpa using h
  unfold bytesRow
  rw [Array.getElem?_append_left (by simpa using h'), Array.getElem?_map, Array.getElem?_eq_getElem h']
  simp

/-- What '[]byte(s)' leaves, as the walks ask it. -/
theorem bytes_new (w : World) (s : ByteArray) (cap : Nat) (fz : Nat × Nat) : Bytes (w.alloc (.cells (bytesRow s cap) 5 fz)) w.heap.size s.data.toList := by
  intro j hj
  rw [WideShapes.add_plain, Nat.zero_add]
  have : (w.alloc (.cells (bytesRow s cap) 5 fz)).heap[w.heap.size]? = some (.cells (bytesRow s cap) 5 fz) := by show (w.heap.push _)[_]? = _; simp
  unfold World.cell?
  rw [this]
  exact bytesRow_at s cap j hj

theorem bytes_new' (W : World) (g : Nat) (hg : W.heap.size = g) (s : ByteArray) (cap : Nat) (fz : Nat × Nat) (l : List UInt8) (hl : s.data.toList = l) : Bytes (W.alloc (.cells (bytesRow s cap) 5 fz)).drew g l := by
  subst hg; subst hl; exact bytes_new W s cap fz

set_option maxHeartbeats 400000 in
theorem law_0 (start : Int) (w : World) :
    Calls Ybaf.prog 3 #[.int .i64 0, .int .i64 start] w fun e w' => e = .returned (.bool true) ∧ Below w.heap.size w w' := by
  have hcv := fun (w : World) (s : ByteArray) => run_bytes_of_string (P := Ybaf.prog) w 9 27 5 s Ybaf.underlying9 Ybaf.underlying27 Ybaf.underlying5
  go_enter Ybaf.func3, Ybaf.ntmps3
  go_wp2_with (go_at_call 4; go_in)
  refine (un_add w.heap.size (w.heap.size + 1) _ (.int .i64 start) _ ?_ ?_ ?_).mono ?_
  · exact bytes_new' _ _ (by simp) _ _ _ _ rfl
  · simp [go_sem]
  · simp [go_sem]
  rintro e w1 ⟨rfl, rfl⟩
  go_wp2
  go_ret
  exact ⟨rfl, ((((Below.refl _ w).alloc (Nat.le_refl _) _).alloc (by simp) _).drew)⟩

set_option maxHeartbeats 400000 in
theorem law_1 (start : Int) (w : World) :
    Calls Ybaf.prog 3 #[.int .i64 1, .int .i64 start] w fun e w' => e = .returned (.bool true) ∧ Below w.heap.size w w' := by
  have hcv := fun (w : World) (s : ByteArray) => run_bytes_of_string (P := Ybaf.prog) w 9 27 5 s Ybaf.underlying9 Ybaf.underlying27 Ybaf.underlying5
  go_enter Ybaf.func3, Ybaf.ntmps3
  go_wp2_with (go_at_call 4; go_in)
  refine (un_rem w.heap.size (w.heap.size + 1) _ (.int .i64 start) _ ?_ ?_ ?_).mono ?_
  · exact bytes_new' _ _ (by simp) _ _ _ _ rfl
  · simp [go_sem]
  · simp [go_sem]
  rintro e w1 ⟨rfl, rfl⟩
  go_wp2
  go_ret
  exact ⟨rfl, ((((Below.refl _ w).alloc (Nat.le_refl _) _).alloc (by simp) _).drew)⟩

set_option maxHeartbeats 400000 in
theorem law_other (F : Interp) (n start : Int) (w : World) (hF : F.answers w.tape) (h0 : (n == 0) = false) (h1 : (n == 1) = false) (hn0 : -9223372036854775808 ≤ n) (hn1 : n ≤ 9223372036854775807) (htab : Lib.TabIs Ybaf.prog w "internal/strconv.uint64pow10" .u64 Lib.pow10Tab) :
    Calls Ybaf.prog 3 #[.int .i64 n, .int .i64 start] w fun e w' => e = .returned (.bool true) ∧ Below w.heap.size w w' := by
  have hcv := fun (w : World) (s : ByteArray) => run_bytes_of_string (P := Ybaf.prog) w 9 27 5 s Ybaf.underlying9 Ybaf.underlying27 Ybaf.underlying5
  have hw1 : Hid ((wordOf n == [97, 100, 100]) = false) := by show (_ == _) = false; unfold wordOf; simp
  have hw2 : Hid ((wordOf n == [114, 101, 109, 111, 118, 101]) = false) := by show (_ == _) = false; unfold wordOf; simp
  go_enter Ybaf.func3, Ybaf.ntmps3
  go_wp2_with fail
  refine (str_other n w h0 h1 hn0 hn1 htab).mono ?_
  rintro e w1 ⟨rfl, hb1⟩
  generalize wordOf n = l at *
  go_wp2_with fail
  refine (un_bad F w1.heap.size (w1.heap.size + 1) _ l _ ?_ ?_ hw1.out hw2.out).mono ?_
  · show F.answers w1.tape
    rw [hb1.tape]; exact hF
  · exact bytes_new' _ _ (by simp) _ _ _ _ rfl
  rintro e w2 ⟨rfl, hb2⟩
  have hc2 := (hb2.cell (p := ⟨w1.heap.size, 0, none⟩) (by simp; omega)).trans (show _ = some (.int .i64 start) by simp [go_sem])
  have hb : Below w.heap.size w w2 := by
    refine hb1.trans (Below.trans ?_ (hb2.mono (by have := hb1.size; simp; omega)))
    exact (((Below.refl _ w1).alloc hb1.size _).alloc (by have := hb1.size; simp; omega) _).drew
  clear hb2
  go_wp2
  go_ret
  exact ⟨rfl, hb⟩

end Go.Proofs.YbulkeebyFmt
