import Derived.Test.YbulkeebyUnw
import Derived.Laws.CopyOwn
import Derived.BigQuiet
namespace Go.Proofs.Ybulkeeby
open Go.RowKit

theorem info9 : (Yba.prog.info? 9).map (fun i => (i.zero, i.size, i.bytes)) = some (some (.string ByteArray.empty), 1, 16) := by kernel_rfl
theorem size9 : (Yba.prog.info? 9).map (·.size) = some 1 := by kernel_rfl

/-- The strings of a row, as cells. -/
def strCells (ss : List ByteArray) : List Value := ss.map Value.string

/-- 'copy(dst, src)', src as long as the whole of dst's own row. -/
theorem wpList_copy_whole {P : Program} {w : World} {ops : Array Oper} {rest : List Oper} {o : Oper} {a : Act} {Q : Exit → Act → World → Prop} (hgd : o.guard = none) (d s : Operand) (dT sT : TypeId)
    (ho : o.op = .call { callee := .builtin .copy, args := #[d, s], argTypes := #[dT, sT] }) (elem : TypeId) (hu : P.underlying dT = some (.slice elem)) (hsz : (P.info? elem).map (·.size) = some 1)
    (sp : Option Addr) (n dCap sCap : Nat) (g : Nat) (hd : a.eval d = .slice (some ⟨g, 0, none⟩) n dCap) (hs : a.eval s = .slice sp n sCap)
    (cur : Array Value) (t : TypeId) (hg : Blk w g t cur) (hcur : cur.size = n) (cs : List Value) (hn : cs.length = n)
    (hpos : 0 < n → ∃ ad, sp = some ad ∧ ∀ j v, cs[j]? = some v → w.cell? (ad.add j) = some v)
    (h1 : ∀ v ∈ cs, v.oneCell' = true) (B : Nat) (w0 : World) (hb : Below B w0 w) (hBg : B ≤ g)
    (h : ∀ w', Blk w' g t cs.toArray → w'.heap.size = w.heap.size → Below B w0 w' → wpList P ops Q rest (a.put o.dst (goInt n)) w') :
    wpList P ops Q (o :: rest) a w := by
  by_cases h0 : n = 0
  · subst h0
    obtain rfl : cs = [] := List.eq_nil_of_length_eq_zero hn
    refine wpList_copy_nothing hgd d s dT sT ho elem hu hsz _ sp 0 dCap 0 sCap hd hs rfl ?_
    refine h w ?_ rfl hb
    have : cur = #[] := Array.eq_empty_of_size_eq_zero hcur
    subst this; exact hg
  · obtain ⟨ad, rfl, hsrc⟩ := hpos (by omega)
    have e1 : (cur.toList.take 0 ++ (cs ++ cur.toList.drop (0 + cs.length))).toArray = cs.toArray := by
      have : cur.toList.drop (0 + cs.length) = [] := List.drop_eq_nil_of_le (by simp; omega)
      rw [this]; simp
    have := wpList_copy_own hgd d s dT sT ho elem hu hsz g 0 n dCap ad n sCap hd hs cur t hg cs (by simp [hn]) hsrc (by omega) h1 (Q := Q) (rest := rest) (ops := ops)
    rw [e1, hn] at this
    refine this (h _ ?_ ?_ ?_)
    · exact setRow_heap w g _ _ t _ hg
    · simp [World.setRow]
    · exact below_setRow hb hBg _

set_option maxHeartbeats 400000 in
theorem lawB_big (ad : Option Addr) (n c : Nat) (w : World) (hn : 1048576 < n) (hm : n ≤ maxLen) :
    Calls Yba.prog 3 #[.slice ad n c] w fun e w' => e = .returned (.bool true) ∧ Below w.heap.size w w' := by
  unfold maxLen at hm
  go_enter Yba.func3, Yba.ntmps3
  go_wp2
  go_ret
  exact ⟨rfl, Below.refl _ _⟩

set_option maxHeartbeats 400000 in
theorem lawB_some (x : Addr) (n c : Nat) (ss : List ByteArray) (w : World) (hn : n ≤ 1048576) (hss : ss.length = n)
    (hc : ∀ i, i < n → ∃ b off, x = ⟨b, off, none⟩ ∧ b < w.heap.size ∧ w.cell? ⟨b, off + i, none⟩ = some (.string (ss.getD i ByteArray.empty))) :
    Calls Yba.prog 3 #[.slice (some x) n c] w fun e w' => e = .returned (.bool true) ∧ Below w.heap.size w w' := by
  obtain ⟨i0, hi, hz0, hz1, hz2⟩ := info_parts info9
  have n22 := fun (w : World) (a : Option Addr) (n c : Nat) => run_neq_slice_nil_any (P := Yba.prog) w 22 9 a n c 0 0 Yba.underlying22
  have q22 := fun (w : World) (a : Option Addr) (n c : Nat) => Lib.run_eql_slice_nil (P := Yba.prog) w 22 9 a n c 0 0 Yba.underlying22
  have q23 := fun (w : World) (a : Option Addr) (n c : Nat) => Lib.run_eql_slice_nil (P := Yba.prog) w 23 26 a n c 0 0 Yba.underlying23
  have hd : decide ((1048576 : Int) < (n : Int)) = false := decide_eq_false (by omega)
  go_enter Yba.func3, Yba.ntmps3
  go_wp2_with (first
    | (at_make; refine wpList_make_blk _ rfl _ _ 22 rfl 9 i0 _ 1 Yba.underlying22 hi hz0 hz1 .i64 .i64 n n n n rfl rfl rfl rfl (Nat.le_refl _) (by rw [hz2]; omega) (by unfold maxLen; omega) ?_; intro w1 hb1 hs1 hbel1)
    | (refine wpList_copy_whole (o := ⟨some 17, _, _, _, _, _⟩) rfl (.tmp 15) (.tmp 16) 22 22 rfl 9 Yba.underlying22 size9 (some x) n n c w.heap.size rfl rfl _ 9 hb1 (by simp [size_madeCells]) (strCells ss) (by simp [strCells, hss]) ?cp (by simp [strCells, Value.oneCell']) w.heap.size w hbel1 (Nat.le_refl _) ?_; rotate_left; intro w2 hb2 hs2 hbel2))
  case cp =>
    intro hpos
    obtain ⟨b, off, rfl, hbw, _⟩ := hc 0 hpos
    refine ⟨_, rfl, fun j v hj => ?_⟩
    have hj' : j < n := by
      have := (List.getElem?_eq_some_iff.1 hj).1
      simpa [strCells, hss] using this
    obtain ⟨b', off', e, _, hcell⟩ := hc j hj'
    simp at e
    obtain ⟨rfl, rfl⟩ := e
    simp [strCells] at hj
    obtain ⟨s, hs, rfl⟩ := hj
    rw [WideShapes.add_plain, hbel1.cell (by exact hbw)]
    simpa [hs] using hcell
  refine (unw_walk (some x) n c ss w2 hn (fun i hi => ?_)).mono ?_
  · obtain ⟨b, off, rfl, hbw, hcell⟩ := hc i hi
    exact ⟨b, off, rfl, by have := hbel2.size; omega, by rw [hbel2.cell (by exact hbw)]; exact hcell⟩
  rintro e w3 ⟨cs, rfl, hb3, hto, hbel3⟩
  have hsz2 : w2.heap.size = w.heap.size + 1 := by omega
  rw [hsz2] at hb3 hbel3 ⊢
  have hb9 := hb2.below hbel3 (by omega)
  have hbel := hbel2.trans (hbel3.mono (by omega))
  clear hb1 hs1 hbel1 hb2 hs2 hbel2 hsz2 hbel3
  go_wp2
  go_loopw [5] (fun i wr => ∃ k : Nat, k ≤ n ∧ i = .int .i64 k ∧ Blk wr w.heap.size 9 (strCells ss).toArray ∧ Blk wr (w.heap.size + 1) 26 cs ∧ Below w.heap.size w wr) (fun i _ => n - (intOf i).toNat)
  case atStart => exact ⟨0, Nat.zero_le _, rfl, hb9, hb3, hbel⟩
  case round =>
    clear hb9 hb3 hbel
    obtain ⟨k, hk, rfl, hb9, hb3, hbel⟩ := hrel
    by_cases hlt : k < n
    · obtain ⟨hn0, hn1⟩ := hto.2 k hlt
      have c0 : wr.cell? ⟨w.heap.size + 1, k * 2, none⟩ = some (.string (ss.getD k ByteArray.empty)) := by rw [hb3.cell, ← hn0]; congr 1; omega
      have c1 : wr.cell? ⟨w.heap.size + 1, k * 2 + 1, none⟩ = some (.int .i64 1) := by rw [hb3.cell, ← hn1]; congr 1; omega
      have c2 : wr.cell? ⟨w.heap.size, k, none⟩ = some (.string (ss.getD k ByteArray.empty)) := by rw [hb9.cell]; simp [strCells, hss, hlt]
      go_wp2
      go_quiet (fail)
      go_wp2
      go_roundw
      case rel => exact ⟨k + 1, by omega, by go_num, hb9, hb3, below_drewN hbel _⟩
      case measure => simp [intOf]; omega
    · go_wp2
      go_loopw [6] (fun i wr2 => ∃ k : Nat, k ≤ n ∧ i = .int .i64 k ∧ Blk wr2 w.heap.size 9 (strCells ss).toArray ∧ Below w.heap.size w wr2) (fun i _ => n - (intOf i).toNat)
      case atStart => exact ⟨0, Nat.zero_le _, rfl, hb9, hbel⟩
      case round =>
        clear hb9 hb3 hbel
        obtain ⟨q, hq, rfl, hb9, hbel⟩ := hrel
        by_cases hlq : q < n
        · obtain ⟨b, off, rfl, hbw, hcell⟩ := hc q hlq
          have c0 := (hbel.cell (p := ⟨b, off + q, none⟩) hbw).trans hcell
          have c2 : wr.cell? ⟨w.heap.size, q, none⟩ = some (.string (ss.getD q ByteArray.empty)) := by rw [hb9.cell]; simp [strCells, hss, hlq]
          go_wp2
          go_quiet (fail)
          go_wp2
          go_roundw
          case rel => exact ⟨q + 1, by omega, by go_num, hb9, below_drewN hbel _⟩
          case measure => simp [intOf]; omega
        · go_wp2
          go_ret
          exact ⟨rfl, hbel⟩

set_option maxHeartbeats 400000 in
theorem lawB_nil (w : World) :
    Calls Yba.prog 3 #[.slice none 0 0] w fun e w' => e = .returned (.bool true) ∧ Below w.heap.size w w' := by
  have n22 := fun (w : World) (a : Option Addr) (n c : Nat) => run_neq_slice_nil_any (P := Yba.prog) w 22 9 a n c 0 0 Yba.underlying22
  have q22 := fun (w : World) (a : Option Addr) (n c : Nat) => Lib.run_eql_slice_nil (P := Yba.prog) w 22 9 a n c 0 0 Yba.underlying22
  have q23 := fun (w : World) (a : Option Addr) (n c : Nat) => Lib.run_eql_slice_nil (P := Yba.prog) w 23 26 a n c 0 0 Yba.underlying23
  go_enter Yba.func3, Yba.ntmps3
  go_wp2_with fail
  refine (unw_walk none 0 0 [] w (by omega) (fun i hi => absurd hi (by omega))).mono ?_
  rintro e w3 ⟨cs, rfl, hb3, hto, hbel⟩
  go_wp2
  refine wp_loop_rounds 1 ?_
  rw [rounds_succ]
  go_wp2
  refine wp_loop_rounds 1 ?_
  rw [rounds_succ]
  go_wp2
  go_ret
  exact ⟨rfl, hbel⟩

end Go.Proofs.Ybulkeeby
