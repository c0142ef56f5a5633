import Derived.Test.YbulkeefeDoorBys
import Derived.OwnWalk
namespace Go.Proofs.YbulkeefeDoor
open Go.RowKit

theorem oneCell_map {n : Nat} {f : Nat → Value} (h : ∀ i, (f i).oneCell' = true) : ∀ u ∈ (List.range n).map f, u.oneCell' = true := by
  intro u hu
  obtain ⟨i, _, rfl⟩ := List.mem_map.1 hu
  exact h i

/-- What the call owns, read as a slice, with its room. -/
theorem Reads.of_owns' {w : World} {base : Nat} {e : TypeId} {v : Value} {n : Nat} {f : Nat → Value} (h : w.ownsRow base e 1 v n ((List.range n).map f)) (hv : v ≠ .slice none 0 0) :
    ∃ g c, v = .slice (some ⟨g, 0, none⟩) n c ∧ base ≤ g ∧ g < w.heap.size ∧ Reads w (some ⟨g, 0, none⟩) n f ∧ n ≤ c := by
  have h' := h
  obtain ⟨hl, h2⟩ := h
  rcases h2 with ⟨h2, _⟩ | ⟨g, cap, cur, rfl, hg, hh, hn, hcap, hsz, htake⟩
  · exact absurd h2 hv
  · obtain ⟨g', c', he, h3, h4, h5⟩ := Reads.of_owns h' hv
    simp only [Value.slice.injEq, Option.some.injEq, Addr.mk.injEq] at he
    obtain ⟨⟨rfl, _⟩, _, rfl⟩ := he
    exact ⟨g, cap, rfl, hg, h4, h5, by omega⟩

theorem Reads.congr {w : World} {a : Option Addr} {n : Nat} {f f' : Nat → Value} (h : Reads w a n f) (hf : ∀ i, i < n → f i = f' i) : Reads w a n f' := by
  intro i hi
  obtain ⟨b, off, e, hlt, hc⟩ := h i hi
  exact ⟨b, off, e, hlt, by rw [hc, hf i hi]⟩

set_option maxHeartbeats 400000 in
theorem clone_some (x : Addr) (c : Nat) (l : List UInt8) (n : Nat) (w : World) (hn : n ≤ 4194304) (hr : Reads w (some x) n (fun i => .int .u8 ((l.getD i 0).toNat : Int))) :
    Calls Ybad.prog 5 #[.slice (some x) n c] w fun e w' => ∃ a c', e = .returned (.slice a n c') ∧ Reads w' a n (fun i => .int .u8 ((l.getD i 0).toNat : Int)) ∧ n ≤ c' ∧ Below w.heap.size w w' := by
  obtain ⟨i0, hi, hz0, hz1, hz2⟩ := info_parts info5
  have q22 := fun (w : World) (a : Option Addr) (n c : Nat) => Lib.run_eql_slice_nil (P := Ybad.prog) w 22 5 a n c 0 0 Ybad.underlying22
  go_enter Ybad.func5, Ybad.ntmps5
  go_wp2_with (at_builtin; refine wpList_append_own _ rfl (.tmp 5) (.tmp 6) 22 rfl w.heap.size 5 i0 _ 1 1 Ybad.underlying22 hi hz0 hz1 hz2 rfl (by decide) _ 0 [] rfl ?own x n c ((List.range n).map fun i => Value.int .u8 ((l.getD i 0).toNat : Int)) rfl ?len ?news ?one ?h63 ?hby ?base ?_)
  case own => exact World.ownsRow_made w #[] 0 (Nat.le_refl _) (by unfold maxLen; omega) rfl
  case len => simp
  case news => exact (hr.below ((Below.refl _ w).alloc (Nat.le_refl _) _)).news
  case one => exact oneCell_map fun _ => rfl
  case h63 => unfold maxLen; omega
  case hby => omega
  case base => simp
  intro v' w1 hown hgrow hnn
  obtain ⟨g, c', rfl, hg, hglt, hrd, hcap⟩ := Reads.of_owns' hown hnn
  have hbel : Below w.heap.size w w1 := ((Below.refl _ w).alloc (Nat.le_refl _) _).grown hgrow (by simp) (fun k hk => by simp [Value.ownBlock] at hk; omega)
  clear hown hgrow hnn
  go_wp2
  go_ret
  exact ⟨some ⟨g, 0, none⟩, c', rfl, hrd, by omega, hbel⟩

set_option maxHeartbeats 400000 in
theorem clone_nil (w : World) : Calls Ybad.prog 5 #[.slice none 0 0] w fun e w' => e = .returned (.slice none 0 0) ∧ w' = w := by
  have q22 := fun (w : World) (a : Option Addr) (n c : Nat) => Lib.run_eql_slice_nil (P := Ybad.prog) w 22 5 a n c 0 0 Ybad.underlying22
  go_enter Ybad.func5, Ybad.ntmps5
  go_wp2
  go_ret
  exact ⟨rfl, rfl⟩

/-- slices.Clone of the bytes l. -/
theorem clone_calls (a : Option Addr) (c : Nat) (l : List UInt8) (w : World) (hn : l.length ≤ 4194304) (hb : Bys w a l) (hz : a = none → c = 0) :
    Calls Ybad.prog 5 #[.slice a l.length c] w fun e w' => ∃ a' c', e = .returned (.slice a' l.length c') ∧ Bys w' a' l ∧ l.length ≤ c' ∧ Below w.heap.size w w' := by
  cases a with
  | some x => exact clone_some x c l l.length w hn hb
  | none =>
    have hl : l = [] := by
      cases l with
      | nil => rfl
      | cons b t => obtain ⟨_, _, e, _⟩ := hb 0 (by simp); cases e
    subst hl
    obtain rfl := hz rfl
    refine (clone_nil w).mono ?_
    rintro e w' ⟨rfl, rfl⟩
    exact ⟨none, 0, rfl, Bys.nil _ _, Nat.le_refl _, Below.refl _ _⟩

set_option maxHeartbeats 400000 in
theorem eq_strs (a b : Option Addr) (n c c' : Nat) (nm : Nat → ByteArray) (w : World) (hn : n ≤ 4194304) (ha : Reads w a n (fun i => .string (nm i))) (hb : Reads w b n (fun i => .string (nm i))) :
    Calls Ybad.prog 10 #[.slice a n c, .slice b n c'] w fun e w' => e = .returned (.bool true) ∧ Draws w w' := by
  go_enter Ybad.func10, Ybad.ntmps10
  go_wp2
  go_loopw [13] (fun i wr => ∃ k : Nat, k ≤ n ∧ i = .int .i64 k ∧ Draws w wr) (fun i _ => n - (intOf i).toNat)
  case atStart => exact ⟨0, Nat.zero_le _, rfl, Draws.refl _⟩
  case round =>
    obtain ⟨k, hk, rfl, hdr⟩ := hrel
    by_cases hlt : k < n
    · obtain ⟨b1, o1, rfl, _, c1⟩ := ha k hlt
      obtain ⟨b2, o2, rfl, _, c2⟩ := hb k hlt
      have d1 := hdr.cell c1
      have d2 := hdr.cell c2
      go_wp2
      go_quiet (fail)
      go_wp2
      go_roundw
      case rel => exact ⟨k + 1, by omega, by go_num, hdr.drewN _⟩
      case measure => simp [intOf]; omega
    · go_wp2
      go_ret
      exact ⟨rfl, hdr⟩

set_option maxHeartbeats 400000 in
theorem eq_bytes (a b : Option Addr) (c c' : Nat) (l : List UInt8) (w : World) (ha : Bys w a l) (hb : Bys w b l) :
    Calls Ybad.prog 11 #[.slice a l.length c, .slice b l.length c'] w fun e w' => e = .returned (.bool true) ∧ w' = w := by
  have h1 := run_str w a c l l.length rfl ha
  have h2 := run_str w b c' l l.length rfl hb
  clear ha hb
  generalize (⟨l.toArray⟩ : ByteArray) = s at h1 h2
  generalize l.length = n at *
  go_enter Ybad.func11, Ybad.ntmps11
  go_wp2
  go_ret
  exact ⟨rfl, rfl⟩

end Go.Proofs.YbulkeefeDoor
