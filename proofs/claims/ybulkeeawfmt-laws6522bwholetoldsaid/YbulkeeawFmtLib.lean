import Derived.Test.YbulkeeawFmtTrace




import Derived.OwnWalk
import Derived.KernelRfl
namespace Go.Proofs.YbulkeeawFmt
open Go.RowKit
set_option linter.unusedVariables false

theorem info2 : (Ybaf.prog.info? 2).map (fun i => (i.zero, i.size, i.bytes)) = some (some (.int .i64 0), 1, 8) := by kernel_rfl
theorem info3 : (Ybaf.prog.info? 3).map (fun i => (i.zero, i.size, i.bytes)) = some (some (.int .i64 0), 1, 8) := by kernel_rfl
theorem info4 : (Ybaf.prog.info? 4).map (fun i => (i.zero, i.size, i.bytes)) = some (some (.bool false), 1, 1) := by kernel_rfl

/-- A block whose first n cells read f. -/
def Row (w : World) (g : Nat) (T : TypeId) (n : Nat) (f : Nat → Value) : Prop := ∃ cs, Blk w g T cs ∧ n ≤ cs.size ∧ ∀ q, q < n → cs[q]? = some (f q)

theorem Row.lt {w : World} {g : Nat} {T : TypeId} {n : Nat} {f : Nat → Value} (h : Row w g T n f) : g < w.heap.size := by
  obtain ⟨cs, h1, _⟩ := h; exact h1.lt
theorem Row.cell {w : World} {g : Nat} {T : TypeId} {n : Nat} {f : Nat → Value} (h : Row w g T n f) {q : Nat} (hq : q < n) : w.cell? ⟨g, q, none⟩ = some (f q) := by
  obtain ⟨cs, h1, h2, h3⟩ := h; rw [h1.cell q]; exact h3 q hq
theorem Row.frozen {w : World} {g : Nat} {T : TypeId} {n : Nat} {f : Nat → Value} (h : Row w g T n f) (q : Nat) : w.frozen? ⟨g, q, none⟩ = false := by
  obtain ⟨cs, h1, h2, h3⟩ := h; exact h1.frozen q
theorem Row.of_block {w w' : World} {g : Nat} {T : TypeId} {n : Nat} {f : Nat → Value} (h : Row w g T n f) (hb : w'.heap[g]? = w.heap[g]?) : Row w' g T n f := by
  obtain ⟨cs, h1, h2, h3⟩ := h
  exact ⟨cs, by unfold Blk at h1 ⊢; rw [hb]; exact h1, h2, h3⟩
theorem Row.below {w w' : World} {B g : Nat} {T : TypeId} {n : Nat} {f : Nat → Value} (h : Row w g T n f) (hb : Below B w w') (hg : g < B) : Row w' g T n f := h.of_block (hb.block g hg)
theorem Row.setOther {w : World} {g : Nat} {T : TypeId} {n : Nat} {f : Nat → Value} (h : Row w g T n f) (a : Addr) (v : Value) (hne : g ≠ a.block) : Row (w.setCell a v) g T n f := h.of_block (Below.heap_setCell _ _ _ _ hne)
theorem Row.set {w : World} {g : Nat} {T : TypeId} {n : Nat} {f : Nat → Value} (h : Row w g T n f) {j : Nat} (hj : j < n) (v : Value) : Row (w.setCell ⟨g, j, none⟩ v) g T n (fun q => if q = j then v else f q) := by
  obtain ⟨cs, h1, h2, h3⟩ := h
  refine ⟨_, h1.set j v, by simpa using h2, fun q hq => ?_⟩
  by_cases e : q = j
  · subst e; rw [Array.getElem?_setIfInBounds_self_of_lt (by omega)]; simp
  · rw [Array.getElem?_setIfInBounds_ne (by omega)]; simp only [e, if_false]; exact h3 q hq
theorem Row.congr {w : World} {g : Nat} {T : TypeId} {n : Nat} {f f' : Nat → Value} (h : Row w g T n f) (hf : ∀ q, q < n → f q = f' q) : Row w g T n f' := by
  obtain ⟨cs, h1, h2, h3⟩ := h
  exact ⟨cs, h1, h2, fun q hq => by rw [h3 q hq, hf q hq]⟩
theorem Row.reads {w : World} {g : Nat} {T : TypeId} {n : Nat} {f : Nat → Value} (h : Row w g T n f) : Reads w (some ⟨g, 0, none⟩) n f := by
  intro i hi
  exact ⟨g, 0, rfl, h.lt, by rw [Nat.zero_add]; exact h.cell hi⟩
theorem Row.draws {w w' : World} {g : Nat} {T : TypeId} {n : Nat} {f : Nat → Value} (h : Row w g T n f) (hd : Draws w w') : Row w' g T n f := by
  obtain ⟨k, rfl⟩ := hd; exact h

/-- What the call owns, as a row. -/
theorem Row.of_owns {w : World} {base : Nat} {e : TypeId} {v : Value} {n : Nat} {f : Nat → Value} (h : w.ownsRow base e 1 v n ((List.range n).map f)) (hv : v ≠ .slice none 0 0) :
    ∃ g c, v = .slice (some ⟨g, 0, none⟩) n c ∧ base ≤ g ∧ g < w.heap.size ∧ Row w g e n f ∧ n ≤ c := by
  obtain ⟨hl, h2⟩ := h
  rcases h2 with ⟨h2, _⟩ | ⟨g, cap, cur, rfl, hg, hh, hn, hcap, hsz, htake⟩
  · exact absurd h2 hv
  · have hglt : g < w.heap.size := by
      rcases Nat.lt_or_ge g w.heap.size with h' | h'
      · exact h'
      · rw [Array.getElem?_eq_none h'] at hh; cases hh
    refine ⟨g, cap, rfl, hg, hglt, ⟨cur, hh, by omega, fun i hi => ?_⟩, by omega⟩
    have h4 : (cur.toList.take (n * 1))[i]? = some (f i) := by rw [htake]; simp [hi]
    rw [List.getElem?_take, if_pos (by omega)] at h4
    simpa using h4

theorem oneCell_map {n : Nat} {f : Nat → Value} (h : ∀ i, (f i).oneCell' = true) : ∀ u ∈ (List.range n).map f, u.oneCell' = true := by
  intro u hu
  obtain ⟨i, _, rfl⟩ := List.mem_map.1 hu
  exact h i

set_option maxHeartbeats 400000 in
theorem clone_ints (x : Addr) (c : Nat) (L : Nat → Nat) (n : Nat) (w : World) (hn : n ≤ 4194304) (hr : Reads w (some x) n (fun i => .int .i64 (L i : Int))) :
    Calls Ybaf.prog 5 #[.slice (some x) n c] w fun e w' => ∃ g c', e = .returned (.slice (some ⟨g, 0, none⟩) n c') ∧ Row w' g 3 n (fun i => .int .i64 (L i : Int)) ∧ n ≤ c' ∧ w.heap.size ≤ g ∧ Below w.heap.size w w' := by
  obtain ⟨i0, hi, hz0, hz1, hz2⟩ := info_parts info3
  have q22 := fun (w : World) (a : Option Addr) (n c : Nat) => Lib.run_eql_slice_nil (P := Ybaf.prog) w 39 3 a n c 0 0 Ybaf.underlying39
  go_enter Ybaf.func5, Ybaf.ntmps5
  go_wp2_with (at_builtin; refine wpList_append_own _ rfl (.tmp 5) (.tmp 6) 39 rfl w.heap.size 3 i0 _ 1 8 Ybaf.underlying39 hi hz0 hz1 hz2 rfl (by decide) _ 0 [] rfl ?own x n c ((List.range n).map fun i => Value.int .i64 (L i : Int)) rfl ?len ?news ?one ?h63 ?hby ?base ?_)
  case own => exact World.ownsRow_made w #[] 0 (Nat.le_refl _) (by unfold maxLen; omega) rfl
  case len => simp
  case news => exact (hr.below ((Below.refl _ w).alloc (Nat.le_refl _) _)).news
  case one => exact oneCell_map fun _ => rfl
  case h63 => unfold maxLen; omega
  case hby => omega
  case base => simp
  intro v' w1 hown hgrow hnn
  obtain ⟨g, c', rfl, hg, hglt, hrd, hcap⟩ := Row.of_owns hown hnn
  have hbel : Below w.heap.size w w1 := ((Below.refl _ w).alloc (Nat.le_refl _) _).grown hgrow (by simp) (fun k hk => by simp [Value.ownBlock] at hk; omega)
  clear hown hgrow hnn
  go_wp2
  go_ret
  exact ⟨g, c', rfl, hrd, by omega, by omega, hbel⟩

set_option maxHeartbeats 400000 in
theorem clone_bools (x : Addr) (c : Nat) (L : Nat → Bool) (n : Nat) (w : World) (hn : n ≤ 4194304) (hr : Reads w (some x) n (fun i => .bool (L i))) :
    Calls Ybaf.prog 6 #[.slice (some x) n c] w fun e w' => ∃ g c', e = .returned (.slice (some ⟨g, 0, none⟩) n c') ∧ Row w' g 4 n (fun i => .bool (L i)) ∧ n ≤ c' ∧ w.heap.size ≤ g ∧ Below w.heap.size w w' := by
  obtain ⟨i0, hi, hz0, hz1, hz2⟩ := info_parts info4
  have q22 := fun (w : World) (a : Option Addr) (n c : Nat) => Lib.run_eql_slice_nil (P := Ybaf.prog) w 25 4 a n c 0 0 Ybaf.underlying25
  go_enter Ybaf.func6, Ybaf.ntmps6
  go_wp2_with (at_builtin; refine wpList_append_own _ rfl (.tmp 5) (.tmp 6) 25 rfl w.heap.size 4 i0 _ 1 1 Ybaf.underlying25 hi hz0 hz1 hz2 rfl (by decide) _ 0 [] rfl ?own x n c ((List.range n).map fun i => Value.bool (L i)) rfl ?len ?news ?one ?h63 ?hby ?base ?_)
  case own => exact World.ownsRow_made w #[] 0 (Nat.le_refl _) (by unfold maxLen; omega) rfl
  case len => simp
  case news => exact (hr.below ((Below.refl _ w).alloc (Nat.le_refl _) _)).news
  case one => exact oneCell_map fun _ => rfl
  case h63 => unfold maxLen; omega
  case hby => omega
  case base => simp
  intro v' w1 hown hgrow hnn
  obtain ⟨g, c', rfl, hg, hglt, hrd, hcap⟩ := Row.of_owns hown hnn
  have hbel : Below w.heap.size w w1 := ((Below.refl _ w).alloc (Nat.le_refl _) _).grown hgrow (by simp) (fun k hk => by simp [Value.ownBlock] at hk; omega)
  clear hown hgrow hnn
  go_wp2
  go_ret
  exact ⟨g, c', rfl, hrd, by omega, by omega, hbel⟩

set_option maxHeartbeats 400000 in
theorem eq_ints (a b : Option Addr) (n c c' : Nat) (L : Nat → Nat) (w : World) (hn : n ≤ 4194304) (ha : Reads w a n (fun i => .int .i64 (L i : Int))) (hb : Reads w b n (fun i => .int .i64 (L i : Int))) :
    Calls Ybaf.prog 8 #[.slice a n c, .slice b n c'] w fun e w' => e = .returned (.bool true) ∧ Draws w w' := by
  go_enter Ybaf.func8, Ybaf.ntmps8
  go_wp2
  go_loopw [13] (fun i wr => ∃ k : Nat, k ≤ n ∧ i = .int .i64 k ∧ Draws w wr) (fun i _ => n - (intOf i).toNat)
  case atStart => exact ⟨0, Nat.zero_le _, rfl, Draws.refl _⟩
  case round =>
    obtain ⟨k, hk, rfl, hdr⟩ := hrel
    by_cases hlt : k < n
    · obtain ⟨b1, o1, rfl, _, c1⟩ := ha k hlt
      obtain ⟨b2, o2, rfl, _, c2⟩ := hb k hlt
      have d1 := hdr.cell c1
      have d2 := hdr.cell c2
      go_wp2
      go_quiet (fail)
      go_wp2
      go_roundw
      case rel => exact ⟨k + 1, by omega, by go_num, hdr.drewN _⟩
      case measure => simp [intOf]; omega
    · go_wp2
      go_ret
      exact ⟨rfl, hdr⟩

set_option maxHeartbeats 400000 in
theorem eq_bools (a b : Option Addr) (n c c' : Nat) (L : Nat → Bool) (w : World) (hn : n ≤ 4194304) (ha : Reads w a n (fun i => .bool (L i))) (hb : Reads w b n (fun i => .bool (L i))) :
    Calls Ybaf.prog 9 #[.slice a n c, .slice b n c'] w fun e w' => e = .returned (.bool true) ∧ Draws w w' := by
  go_enter Ybaf.func9, Ybaf.ntmps9
  go_wp2
  go_loopw [13] (fun i wr => ∃ k : Nat, k ≤ n ∧ i = .int .i64 k ∧ Draws w wr) (fun i _ => n - (intOf i).toNat)
  case atStart => exact ⟨0, Nat.zero_le _, rfl, Draws.refl _⟩
  case round =>
    obtain ⟨k, hk, rfl, hdr⟩ := hrel
    by_cases hlt : k < n
    · obtain ⟨b1, o1, rfl, _, c1⟩ := ha k hlt
      obtain ⟨b2, o2, rfl, _, c2⟩ := hb k hlt
      have d1 := hdr.cell c1
      have d2 := hdr.cell c2
      go_wp2
      go_quiet (fail)
      go_wp2
      go_roundw
      case rel => exact ⟨k + 1, by omega, by go_num, hdr.drewN _⟩
      case measure => simp [intOf]; omega
    · go_wp2
      go_ret
      exact ⟨rfl, hdr⟩

set_option maxHeartbeats 400000 in
theorem zzslot_calls (g c : Nat) (kb : Nat → Nat) (m off j : Nat) (w : World) (hr : Row w g 2 m (fun q => .int .i64 (kb q : Nat))) (hm : 1 ≤ m) (hm2 : m ≤ 65537) (k5 : ∀ q, kb q ≤ 5) (hoff : off ≤ 64) (hj : 1 ≤ j) (hj1 : j ≤ 128) :
    Calls Ybaf.prog 4 #[.slice (some ⟨g, 0, none⟩) m c, .int .i64 off, .int .i64 j] w fun e w' => e = .returned (.int .i64 (W kb m (off + j - 1) 1 : Nat)) ∧ w' = w := by
  obtain ⟨s, hs⟩ : ∃ s, s = off + j - 1 := ⟨_, rfl⟩
  rw [← hs]
  have e1 : IntKind.i64.wrap (IntKind.i64.wrap ((off : Int) + (j : Int)) - 1) = (s : Int) := by rw [IntKind.wrap_i64, IntKind.wrap_i64]; omega
  have e1' : (off : Int) + (j : Int) - 1 = (s : Int) := by omega
  obtain ⟨q, hq⟩ : ∃ q, q = s % m := ⟨_, rfl⟩
  have hqm : q < m := by rw [hq]; exact Nat.mod_lt _ hm
  have e2 : Int.tmod (s : Int) (m : Int) = (q : Int) := by rw [hq]; rfl
  have e2' : (s : Int) % (m : Int) = (q : Int) := by rw [hq]; rfl
  have hc := hr.cell hqm
  have hW : W kb m s 1 = 1000 * kb q := by simp [W, hq]
  rw [hW]
  have hk := k5 q
  generalize kb q = z at *
  have hglt := hr.lt
  have hs1 : s ≤ 192 := by omega
  clear hr hq hs k5 hW
  go_enter Ybaf.func4, Ybaf.ntmps4
  go_wp2
  go_ret
  exact ⟨by go_num, rfl⟩

end Go.Proofs.YbulkeeawFmt
