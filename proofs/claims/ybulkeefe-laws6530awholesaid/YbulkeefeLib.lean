import Derived.Test.YbulkeefeChecked
import Derived.Test.YbulkeefeMem
import Derived.Laws.IdiomStrings
namespace Go.Proofs.Ybulkeefe
open Go.RowKit

theorem info9 : (Yba.prog.info? 9).map (fun i => (i.zero, i.size, i.bytes)) = some (some (.string ByteArray.empty), 1, 16) := by kernel_rfl
theorem info5 : (Yba.prog.info? 5).map (fun i => (i.zero, i.size, i.bytes)) = some (some (.int .u8 0), 1, 1) := by kernel_rfl

theorem oneCell_map {n : Nat} {f : Nat → Value} (h : ∀ i, (f i).oneCell' = true) : ∀ u ∈ (List.range n).map f, u.oneCell' = true := by
  intro u hu
  obtain ⟨i, _, rfl⟩ := List.mem_map.1 hu
  exact h i

set_option maxHeartbeats 400000 in
theorem clone_strs (x : Addr) (n c : Nat) (nm : Nat → ByteArray) (w : World) (hn : n ≤ 1048576) (hr : Reads w (some x) n (fun i => .string (nm i))) :
    Calls Yba.prog 4 #[.slice (some x) n c] w fun e w' => ∃ g c', e = .returned (.slice (some ⟨g, 0, none⟩) n c') ∧ Reads w' (some ⟨g, 0, none⟩) n (fun i => .string (nm i)) ∧ Below w.heap.size w w' := by
  obtain ⟨i0, hi, hz0, hz1, hz2⟩ := info_parts info9
  have q22 := fun (w : World) (a : Option Addr) (n c : Nat) => Lib.run_eql_slice_nil (P := Yba.prog) w 22 9 a n c 0 0 Yba.underlying22
  go_enter Yba.func4, Yba.ntmps4
  go_wp2_with (at_builtin; refine wpList_append_own _ rfl (.tmp 5) (.tmp 6) 22 rfl w.heap.size 9 i0 _ 1 16 Yba.underlying22 hi hz0 hz1 hz2 rfl (by decide) _ 0 [] rfl ?own x n c ((List.range n).map fun i => Value.string (nm i)) rfl ?len ?news ?one ?h63 ?hby ?base ?_)
  case own => exact World.ownsRow_made w #[] 0 (Nat.le_refl _) (by unfold maxLen; omega) rfl
  case len => simp
  case news => exact (hr.below ((Below.refl _ w).alloc (Nat.le_refl _) _)).news
  case one => exact oneCell_map fun _ => rfl
  case h63 => unfold maxLen; omega
  case hby => omega
  case base => simp
  intro v' w1 hown hgrow hnn
  obtain ⟨g, c', rfl, hg, hglt, hrd⟩ := Reads.of_owns hown hnn
  have hbel : Below w.heap.size w w1 := ((Below.refl _ w).alloc (Nat.le_refl _) _).grown hgrow (by simp) (fun k hk => by simp [Value.ownBlock] at hk; omega)
  clear hown hgrow hnn
  go_wp2
  go_ret
  exact ⟨g, c', rfl, hrd, hbel⟩

set_option maxHeartbeats 400000 in
theorem clone_strs_nil (w : World) : Calls Yba.prog 4 #[.slice none 0 0] w fun e w' => e = .returned (.slice none 0 0) ∧ w' = w := by
  have q22 := fun (w : World) (a : Option Addr) (n c : Nat) => Lib.run_eql_slice_nil (P := Yba.prog) w 22 9 a n c 0 0 Yba.underlying22
  go_enter Yba.func4, Yba.ntmps4
  go_wp2
  go_ret
  exact ⟨rfl, rfl⟩

set_option maxHeartbeats 400000 in
theorem clone_bytes (x : Addr) (n c : Nat) (bt : Nat → UInt8) (w : World) (hn : n ≤ 1048576) (hr : Reads w (some x) n (fun i => .int .u8 ((bt i).toNat : Int))) :
    Calls Yba.prog 5 #[.slice (some x) n c] w fun e w' => ∃ g c', e = .returned (.slice (some ⟨g, 0, none⟩) n c') ∧ Reads w' (some ⟨g, 0, none⟩) n (fun i => .int .u8 ((bt i).toNat : Int)) ∧ Below w.heap.size w w' := by
  obtain ⟨i0, hi, hz0, hz1, hz2⟩ := info_parts info5
  have q23 := fun (w : World) (a : Option Addr) (n c : Nat) => Lib.run_eql_slice_nil (P := Yba.prog) w 23 5 a n c 0 0 Yba.underlying23
  go_enter Yba.func5, Yba.ntmps5
  go_wp2_with (at_builtin; refine wpList_append_own _ rfl (.tmp 5) (.tmp 6) 23 rfl w.heap.size 5 i0 _ 1 1 Yba.underlying23 hi hz0 hz1 hz2 rfl (by decide) _ 0 [] rfl ?own x n c ((List.range n).map fun i => Value.int .u8 ((bt i).toNat : Int)) rfl ?len ?news ?one ?h63 ?hby ?base ?_)
  case own => exact World.ownsRow_made w #[] 0 (Nat.le_refl _) (by unfold maxLen; omega) rfl
  case len => simp
  case news => exact (hr.below ((Below.refl _ w).alloc (Nat.le_refl _) _)).news
  case one => exact oneCell_map fun _ => rfl
  case h63 => unfold maxLen; omega
  case hby => omega
  case base => simp
  intro v' w1 hown hgrow hnn
  obtain ⟨g, c', rfl, hg, hglt, hrd⟩ := Reads.of_owns hown hnn
  have hbel : Below w.heap.size w w1 := ((Below.refl _ w).alloc (Nat.le_refl _) _).grown hgrow (by simp) (fun k hk => by simp [Value.ownBlock] at hk; omega)
  clear hown hgrow hnn
  go_wp2
  go_ret
  exact ⟨g, c', rfl, hrd, hbel⟩

set_option maxHeartbeats 400000 in
theorem clone_bytes_nil (w : World) : Calls Yba.prog 5 #[.slice none 0 0] w fun e w' => e = .returned (.slice none 0 0) ∧ w' = w := by
  have q23 := fun (w : World) (a : Option Addr) (n c : Nat) => Lib.run_eql_slice_nil (P := Yba.prog) w 23 5 a n c 0 0 Yba.underlying23
  go_enter Yba.func5, Yba.ntmps5
  go_wp2
  go_ret
  exact ⟨rfl, rfl⟩

set_option maxHeartbeats 400000 in
theorem eq_strs (a b : Option Addr) (n c c' : Nat) (nm : Nat → ByteArray) (w : World) (hn : n ≤ 1048576) (ha : Reads w a n (fun i => .string (nm i))) (hb : Reads w b n (fun i => .string (nm i))) :
    Calls Yba.prog 11 #[.slice a n c, .slice b n c'] w fun e w' => e = .returned (.bool true) ∧ Draws w w' := by
  go_enter Yba.func11, Yba.ntmps11
  go_wp2
  go_loopw [13] (fun i wr => ∃ k : Nat, k ≤ n ∧ i = .int .i64 k ∧ Draws w wr) (fun i _ => n - (intOf i).toNat)
  case atStart => exact ⟨0, Nat.zero_le _, rfl, Draws.refl _⟩
  case round =>
    obtain ⟨k, hk, rfl, hdr⟩ := hrel
    by_cases hlt : k < n
    · obtain ⟨b1, o1, rfl, _, c1⟩ := ha k hlt
      obtain ⟨b2, o2, rfl, _, c2⟩ := hb k hlt
      have d1 := hdr.cell c1
      have d2 := hdr.cell c2
      go_wp2
      go_quiet (fail)
      go_wp2
      go_roundw
      case rel => exact ⟨k + 1, by omega, by go_num, hdr.drewN _⟩
      case measure => simp [intOf]; omega
    · go_wp2
      go_ret
      exact ⟨rfl, hdr⟩

/-- string(b), b's n bytes being bt. -/
theorem conv_bytes (x : Addr) (n c : Nat) (bt : Nat → UInt8) (w : World) (hr : Reads w (some x) n (fun i => .int .u8 ((bt i).toNat : Int))) :
    (convert 23 9 (.slice (some x) n c)).run Yba.prog w = .ok (.string ⟨((List.range n).map bt).toArray⟩) w := by
  have h := run_convert_bytes_back (P := Yba.prog) w 23 9 5 x c ((List.range n).map bt) Yba.underlying23 Yba.underlying5 Yba.underlying9 (fun j hj => by
    have hj' : j < n := by simpa using hj
    obtain ⟨b, off, e, _, hc⟩ := hr j hj'
    simp only [Option.some.injEq] at e
    subst e
    rw [WideShapes.add_plain]
    simpa using hc)
  simpa using h

set_option maxHeartbeats 400000 in
theorem eq_bytes (x y : Addr) (n c c' : Nat) (bt : Nat → UInt8) (w : World) (ha : Reads w (some x) n (fun i => .int .u8 ((bt i).toNat : Int))) (hb : Reads w (some y) n (fun i => .int .u8 ((bt i).toNat : Int))) :
    Calls Yba.prog 12 #[.slice (some x) n c, .slice (some y) n c'] w fun e w' => e = .returned (.bool true) ∧ w' = w := by
  have h1 := conv_bytes x n c bt w ha
  have h2 := conv_bytes y n c' bt w hb
  generalize (List.range n).map bt = l at *
  go_enter Yba.func12, Yba.ntmps12
  go_wp2
  go_ret
  exact ⟨rfl, rfl⟩

set_option maxHeartbeats 400000 in
theorem eq_bytes_nil (w : World) :
    Calls Yba.prog 12 #[.slice none 0 0, .slice none 0 0] w fun e w' => e = .returned (.bool true) ∧ w' = w := by
  have h1 : ∀ w, (convert 23 9 (.slice none 0 0)).run Yba.prog w = .ok (.string ⟨#[]⟩) w := fun _ => by kernel_rfl
  go_enter Yba.func12, Yba.ntmps12
  go_wp2
  go_ret
  exact ⟨rfl, rfl⟩

end Go.Proofs.Ybulkeefe
