import Derived.Test.YbulkeefeSame
import Derived.Test.YbulkeefeSelect
import Derived.Laws.EntriesVeiled
import Derived.Deep.RegionWith
namespace Go.Proofs.Ybulkeefe
open Go.RowKit

/-- Of what was there only the blocks p and q may have turned. -/
structure Chg (p q : Nat) (w w' : World) : Prop where
  os : w'.os = w.os
  tape : w'.tape = w.tape
  output : w'.output = w.output
  size : w.heap.size ≤ w'.heap.size
  block : ∀ k, k < w.heap.size → k ≠ p → k ≠ q → w'.heap[k]? = w.heap[k]?

theorem Chg.refl (p q : Nat) (w : World) : Chg p q w w := ⟨rfl, rfl, rfl, Nat.le_refl _, fun _ _ _ _ => rfl⟩
theorem Chg.trans {p q : Nat} {a b c : World} (h : Chg p q a b) (k : Chg p q b c) : Chg p q a c :=
  ⟨k.os.trans h.os, k.tape.trans h.tape, k.output.trans h.output, Nat.le_trans h.size k.size, fun i hi h1 h2 => (k.block i (by have := h.size; omega) h1 h2).trans (h.block i hi h1 h2)⟩
theorem Chg.below {p q : Nat} {w w' : World} (h : Below w.heap.size w w') : Chg p q w w' := ⟨h.os, h.tape, h.output, h.size, fun k hk _ _ => h.block k hk⟩
theorem Chg.alloc {p q : Nat} {a w : World} (h : Chg p q a w) (o : Obj) : Chg p q a (w.alloc o) := h.trans (Chg.below ((Below.refl _ w).alloc (Nat.le_refl _) o))
theorem Chg.drew {p q : Nat} {a w : World} (h : Chg p q a w) : Chg p q a w.drew := h.trans ⟨rfl, rfl, rfl, Nat.le_refl _, fun _ _ _ _ => rfl⟩
theorem Chg.setP {p q : Nat} {a w : World} (h : Chg p q a w) (j : Nat) (v : Value) : Chg p q a (w.setCell ⟨p, j, none⟩ v) :=
  h.trans ⟨rfl, rfl, rfl, by simp [World.setCell], fun k _ h1 _ => Below.heap_setCell _ _ _ _ h1⟩
theorem Chg.setQ {p q : Nat} {a w : World} (h : Chg p q a w) (j : Nat) (v : Value) : Chg p q a (w.setCell ⟨q, j, none⟩ v) :=
  h.trans ⟨rfl, rfl, rfl, by simp [World.setCell], fun k _ _ h2 => Below.heap_setCell _ _ _ _ h2⟩
theorem Chg.blk {p q g : Nat} {w w' : World} (h : Chg p q w w') {T : TypeId} {cs : Array Value} (hb : Blk w g T cs) (h1 : g ≠ p) (h2 : g ≠ q) : Blk w' g T cs := by
  have := hb.lt
  unfold Blk at hb ⊢; rw [h.block g this h1 h2]; exact hb

set_option maxHeartbeats 400000 in
theorem clo_view (b9 b10 : Nat) (v0 v1 : ByteArray) (a2 a3 : Option Addr) (n2 c2 n3 c3 : Nat) (o0 o1 o2 o3 : Value) (w : World) (h9 : Blk w b9 3 #[.int .i64 0]) (h10 : Blk w b10 30 #[o0, o1, o2, o3]) (hne : b9 ≠ b10) :
    Calls Yba.prog 6 #[.agg #[.string v0, .string v1, .slice a2 n2 c2, .slice a3 n3 c3], .pointer (some ⟨b9, 0, none⟩), .pointer (some ⟨b10, 0, none⟩)] w fun e w' => e = .returned (.tuple #[]) ∧
      Blk w' b9 3 #[.int .i64 1] ∧ Blk w' b10 30 #[.string v0, .string v1, .slice a2 n2 c2, .slice a3 n3 c3] ∧ Chg b9 b10 w w' := by
  have l9 := h9.lt
  have l10 := h10.lt
  have c9 := h9.cell 0
  have g0 := h10.cell 0
  have g1 := h10.cell 1
  have g2 := h10.cell 2
  have g3 := h10.cell 3
  have z9 := h9.frozen 0
  have z10 := h10.frozen
  simp at c9 g0 g1 g2 g3
  go_enter Yba.func6, Yba.ntmps6
  go_wp2
  go_end0
  refine ⟨rfl, ?_, ?_, (((((((Chg.refl _ _ w).setP _ _).setQ _ _).setQ _ _).setQ _ _).setQ _ _).alloc _)⟩
  · exact (((((h9.set 0 _).setOther _ _ hne).setOther _ _ hne).setOther _ _ hne).setOther _ _ hne).alloc _
  · exact ((((((h10.setOther _ _ (Ne.symm hne)).set 0 _).set 1 _).set 2 _).set 3 _).alloc _)

set_option maxHeartbeats 400000 in
theorem clo_msg (b9 b10 : Nat) (v0 v1 : ByteArray) (a2 : Option Addr) (n2 c2 : Nat) (o0 o1 o2 : Value) (w : World) (h9 : Blk w b9 3 #[.int .i64 0]) (h10 : Blk w b10 32 #[o0, o1, o2]) (hne : b9 ≠ b10) :
    Calls Yba.prog 7 #[.agg #[.string v0, .string v1, .slice a2 n2 c2], .pointer (some ⟨b9, 0, none⟩), .pointer (some ⟨b10, 0, none⟩)] w fun e w' => e = .returned (.tuple #[]) ∧
      Blk w' b9 3 #[.int .i64 1] ∧ Blk w' b10 32 #[.string v0, .string v1, .slice a2 n2 c2] ∧ Chg b9 b10 w w' := by
  have l9 := h9.lt
  have l10 := h10.lt
  have c9 := h9.cell 0
  have g0 := h10.cell 0
  have g1 := h10.cell 1
  have g2 := h10.cell 2
  have z9 := h9.frozen 0
  have z10 := h10.frozen
  simp at c9 g0 g1 g2
  go_enter Yba.func7, Yba.ntmps7
  go_wp2
  go_end0
  refine ⟨rfl, ?_, ?_, ((((((Chg.refl _ _ w).setP _ _).setQ _ _).setQ _ _).setQ _ _).alloc _)⟩
  · exact ((((h9.set 0 _).setOther _ _ hne).setOther _ _ hne).setOther _ _ hne).alloc _
  · exact (((((h10.setOther _ _ (Ne.symm hne)).set 0 _).set 1 _).set 2 _).alloc _)

set_option maxRecDepth 100000 in
set_option maxHeartbeats 400000 in
theorem handle_other (g : Nat) (k : Int) (s0 s1 s2 s3 s4 s5 : ByteArray) (a2 a3 a4 : Option Addr) (n2 c2 n3 c3 n4 c4 : Nat) (w : World) (h1 : (k == 1) = false) (h2 : (k == 2) = false) (h3 : (k == 3) = false) :
    Calls Yba.prog 8 #[.pointer (some ⟨g, 0, none⟩), .agg #[.pointer (some ⟨g, 0, none⟩), .int .u8 k, .string s0, .string s1, .slice a2 n2 c2, .slice a3 n3 c3, .string s2, .string s3, .slice a4 n4 c4, .string s4, .string s5]] w
      fun e w' => e = .returned (.bool true) ∧ Below w.heap.size w w' := by
  go_enter Yba.func8, Yba.ntmps8
  go_wp2
  go_ret
  exact ⟨rfl, (Below.refl _ w).alloc (Nat.le_refl _) _⟩

theorem neq33_nil (w : World) : (binOp .neq 33 .nilFunc .nilFunc).run Yba.prog w = .ok (.bool false) w := by kernel_rfl
theorem neq34_nil (w : World) : (binOp .neq 34 .nilFunc .nilFunc).run Yba.prog w = .ok (.bool false) w := by kernel_rfl
theorem neq33_fn (f : Fn) (x y : Array Value) (w : World) : (binOp .neq 33 (.func f x y) .nilFunc).run Yba.prog w = .ok (.bool true) w := by kernel_rfl
theorem neq34_fn (f : Fn) (x y : Array Value) (w : World) : (binOp .neq 34 (.func f x y) .nilFunc).run Yba.prog w = .ok (.bool true) w := by kernel_rfl

set_option maxRecDepth 100000 in
set_option maxHeartbeats 400000 in
theorem handle_view_nil (g : Nat) (s0 s1 s2 s3 s4 s5 : ByteArray) (a2 a3 a4 : Option Addr) (n2 c2 n3 c3 n4 c4 : Nat) (w : World) (hg : g < w.heap.size) (hf : w.cell? ⟨g, 2, none⟩ = some .nilFunc) :
    Calls Yba.prog 8 #[.pointer (some ⟨g, 0, none⟩), .agg #[.pointer (some ⟨g, 0, none⟩), .int .u8 1, .string s0, .string s1, .slice a2 n2 c2, .slice a3 n3 c3, .string s2, .string s3, .slice a4 n4 c4, .string s4, .string s5]] w
      fun e w' => e = .returned (.bool true) ∧ Below w.heap.size w w' := by
  have k := neq33_nil
  go_enter Yba.func8, Yba.ntmps8
  go_wp2
  go_ret
  exact ⟨rfl, (Below.refl _ w).alloc (Nat.le_refl _) _⟩

set_option maxRecDepth 100000 in
set_option maxHeartbeats 400000 in
theorem handle_msg_nil (g : Nat) (s0 s1 s2 s3 s4 s5 : ByteArray) (a2 a3 a4 : Option Addr) (n2 c2 n3 c3 n4 c4 : Nat) (w : World) (hg : g < w.heap.size) (hf : w.cell? ⟨g, 3, none⟩ = some .nilFunc) :
    Calls Yba.prog 8 #[.pointer (some ⟨g, 0, none⟩), .agg #[.pointer (some ⟨g, 0, none⟩), .int .u8 2, .string s0, .string s1, .slice a2 n2 c2, .slice a3 n3 c3, .string s2, .string s3, .slice a4 n4 c4, .string s4, .string s5]] w
      fun e w' => e = .returned (.bool true) ∧ Below w.heap.size w w' := by
  have k := neq34_nil
  go_enter Yba.func8, Yba.ntmps8
  go_wp2
  go_ret
  exact ⟨rfl, (Below.refl _ w).alloc (Nat.le_refl _) _⟩

set_option maxRecDepth 100000 in
set_option maxHeartbeats 400000 in
theorem handle_left (g c : Nat) (s0 s1 s2 s3 s4 s5 : ByteArray) (a2 a3 a4 : Option Addr) (n2 c2 n3 c3 n4 c4 : Nat) (w : World) (hg : g < w.heap.size) (hf : w.cell? ⟨g, 7, none⟩ = some (.chan (some c))) (hc : w.heap[c]? = some (.chan 0 #[] false 0 0 false)) :
    Calls Yba.prog 8 #[.pointer (some ⟨g, 0, none⟩), .agg #[.pointer (some ⟨g, 0, none⟩), .int .u8 3, .string s0, .string s1, .slice a2 n2 c2, .slice a3 n3 c3, .string s2, .string s3, .slice a4 n4 c4, .string s4, .string s5]] w
      fun e w' => e = .returned (.bool false) ∧ w'.heap[c]? = some (.chan 0 #[] true 0 0 false) ∧ Chg c c w w' := by
  have hcl : c < w.heap.size := by
    rcases Nat.lt_or_ge c w.heap.size with h | h
    · exact h
    · rw [Array.getElem?_eq_none h] at hc; cases hc
  have hc' : ∀ o, (w.alloc o).heap[c]? = some (.chan 0 #[] false 0 0 false) := fun o => by rw [Below.heap_alloc _ _ _ hcl]; exact hc
  have kc := fun (o : Obj) (ats : Array TypeId) (ty : TypeId) => run_close_open (P := Yba.prog) ats ty (hc' o)
  go_enter Yba.func8, Yba.ntmps8
  go_wp2
  go_ret
  refine ⟨rfl, ?_, ?_⟩
  · show (Array.setIfInBounds _ c _)[c]? = _
    rw [Array.getElem?_setIfInBounds_self_of_lt (by simp; omega)]
  · refine ⟨rfl, rfl, rfl, by simp, fun k hk h1 _ => ?_⟩
    show (Array.setIfInBounds _ c _)[k]? = _
    rw [Array.getElem?_setIfInBounds_ne (Ne.symm h1)]
    exact Below.heap_alloc _ _ _ hk

set_option maxRecDepth 100000 in
set_option maxHeartbeats 400000 in
theorem handle_view (g b9 b10 : Nat) (s0 s1 s2 s3 s4 s5 : ByteArray) (a2 a3 a4 : Option Addr) (n2 c2 n3 c3 n4 c4 : Nat) (o0 o1 o2 o3 : Value) (w : World) (hg : g < w.heap.size)
    (hf : w.cell? ⟨g, 2, none⟩ = some (.func (.func 6) #[] #[.pointer (some ⟨b9, 0, none⟩), .pointer (some ⟨b10, 0, none⟩)])) (h9 : Blk w b9 3 #[.int .i64 0]) (h10 : Blk w b10 30 #[o0, o1, o2, o3]) (hne : b9 ≠ b10) :
    Calls Yba.prog 8 #[.pointer (some ⟨g, 0, none⟩), .agg #[.pointer (some ⟨g, 0, none⟩), .int .u8 1, .string s0, .string s1, .slice a2 n2 c2, .slice a3 n3 c3, .string s2, .string s3, .slice a4 n4 c4, .string s4, .string s5]] w
      fun e w' => e = .returned (.bool true) ∧ Blk w' b9 3 #[.int .i64 1] ∧ Blk w' b10 30 #[.string s0, .string s1, .slice a2 n2 c2, .slice a3 n3 c3] ∧ Chg b9 b10 w w' := by
  have k := neq33_fn
  go_enter Yba.func8, Yba.ntmps8
  go_wp2
  go_region_with (go_at_call 6; refine (clo_view b9 b10 s0 s1 a2 a3 n2 c2 n3 c3 o0 o1 o2 o3 _ (by exact (h9.alloc _).drew) (by exact (h10.alloc _).drew) hne).mono ?_; rintro e w1 ⟨rfl, hb9, hb10, hch⟩)
  all_goals
    go_wp2
    go_ret
    exact ⟨rfl, hb9, hb10, ((Chg.refl _ _ w).alloc _).drew.trans hch⟩

set_option maxRecDepth 100000 in
set_option maxHeartbeats 400000 in
theorem handle_msg (g b9 b10 : Nat) (s0 s1 s2 s3 s4 s5 : ByteArray) (a2 a3 a4 : Option Addr) (n2 c2 n3 c3 n4 c4 : Nat) (o0 o1 o2 : Value) (w : World) (hg : g < w.heap.size)
    (hf : w.cell? ⟨g, 3, none⟩ = some (.func (.func 7) #[] #[.pointer (some ⟨b9, 0, none⟩), .pointer (some ⟨b10, 0, none⟩)])) (h9 : Blk w b9 3 #[.int .i64 0]) (h10 : Blk w b10 32 #[o0, o1, o2]) (hne : b9 ≠ b10) :
    Calls Yba.prog 8 #[.pointer (some ⟨g, 0, none⟩), .agg #[.pointer (some ⟨g, 0, none⟩), .int .u8 2, .string s0, .string s1, .slice a2 n2 c2, .slice a3 n3 c3, .string s2, .string s3, .slice a4 n4 c4, .string s4, .string s5]] w
      fun e w' => e = .returned (.bool true) ∧ Blk w' b9 3 #[.int .i64 1] ∧ Blk w' b10 32 #[.string s2, .string s3, .slice a4 n4 c4] ∧ Chg b9 b10 w w' := by
  have k := neq34_fn
  go_enter Yba.func8, Yba.ntmps8
  go_wp2
  go_region_with (go_at_call 7; refine (clo_msg b9 b10 s2 s3 a4 n4 c4 o0 o1 o2 _ (by exact (h9.alloc _).drew) (by exact (h10.alloc _).drew) hne).mono ?_; rintro e w1 ⟨rfl, hb9, hb10, hch⟩)
  all_goals
    go_wp2
    go_ret
    exact ⟨rfl, hb9, hb10, ((Chg.refl _ _ w).alloc _).drew.trans hch⟩

end Go.Proofs.Ybulkeefe
