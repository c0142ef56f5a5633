import Derived.Test.YbulkeeeqStab
import Derived.Lib.Bytealg
import Derived.Lib.Strings
import Derived.Lib.Walk
namespace Go.Proofs.Ybulkeeeq
open Go.RowKit
set_option linter.unusedVariables false

/-! ### The order of the keys -/
theorem cb_anti : ∀ a b : List UInt8, Lib.compareBytes b a = - Lib.compareBytes a b
  | [], [] => rfl
  | [], _ :: _ => rfl
  | _ :: _, [] => rfl
  | a :: xs, b :: ys => by
    unfold Lib.compareBytes
    by_cases h1 : a < b
    · have h2 : ¬ b < a := fun h => by simp [UInt8.lt_iff_toNat_lt] at *; omega
      rw [if_neg h2, if_pos h1, if_pos h1]
      rfl
    · by_cases h2 : b < a
      · rw [if_pos h2, if_neg h1, if_pos h2]
      · rw [if_neg h2, if_neg h1, if_neg h1, if_neg h2]; exact cb_anti xs ys
theorem cb_refl (a : List UInt8) : Lib.compareBytes a a = 0 := by have := cb_anti a a; omega
theorem cb_eq : ∀ a b : List UInt8, Lib.compareBytes a b = 0 → a = b
  | [], [], _ => rfl
  | [], _ :: _, h => by simp [Lib.compareBytes] at h
  | _ :: _, [], h => by simp [Lib.compareBytes] at h
  | a :: xs, b :: ys, h => by
    unfold Lib.compareBytes at h
    by_cases h1 : a < b
    · rw [if_pos h1] at h; omega
    · rw [if_neg h1] at h
      by_cases h2 : b < a
      · rw [if_pos h2] at h; omega
      · rw [if_neg h2] at h
        have e : a = b := by apply UInt8.toNat_inj.1; simp [UInt8.lt_iff_toNat_lt] at h1 h2; omega
        rw [e, cb_eq xs ys h]
theorem cb_trans : ∀ a b c : List UInt8, Lib.compareBytes a b ≤ 0 → Lib.compareBytes b c ≤ 0 → Lib.compareBytes a c ≤ 0
  | [], b, [], _, _ => by simp [Lib.compareBytes]
  | [], b, _ :: _, _, _ => by simp [Lib.compareBytes]
  | a :: xs, [], c, h, _ => by simp [Lib.compareBytes] at h
  | a :: xs, b :: ys, [], _, h => by simp [Lib.compareBytes] at h
  | a :: xs, b :: ys, c :: zs, h1, h2 => by
    unfold Lib.compareBytes at h1 h2 ⊢
    by_cases x1 : a < b
    · by_cases y1 : b < c
      · rw [if_pos (by simp [UInt8.lt_iff_toNat_lt] at *; omega)]; omega
      · rw [if_neg y1] at h2
        by_cases y2 : c < b
        · rw [if_pos y2] at h2; omega
        · rw [if_pos (by simp [UInt8.lt_iff_toNat_lt] at *; omega)]; omega
    · rw [if_neg x1] at h1
      by_cases x2 : b < a
      · rw [if_pos x2] at h1; omega
      · rw [if_neg x2] at h1
        by_cases y1 : b < c
        · rw [if_pos (by simp [UInt8.lt_iff_toNat_lt] at *; omega)]; omega
        · rw [if_neg y1] at h2
          by_cases y2 : c < b
          · rw [if_pos y2] at h2; omega
          · rw [if_neg y2] at h2
            rw [if_neg (by simp [UInt8.lt_iff_toNat_lt] at *; omega), if_neg (by simp [UInt8.lt_iff_toNat_lt] at *; omega)]
            exact cb_trans xs ys zs h1 h2
/-- The entries' numbers, by their keys. -/
def cvK (key : Nat → ByteArray) : Nat → Nat → Int := fun x y => Lib.compareBytes (key x).data.toList (key y).data.toList
theorem weakK (key : Nat → ByteArray) : Weak (ltOf (cvK key)) := by
  refine ⟨fun x y h => ?_, fun x y z h1 h2 => ?_⟩
  · have h' : Lib.compareBytes (key x).data.toList (key y).data.toList < 0 := of_decide_eq_true h
    have := cb_anti (key x).data.toList (key y).data.toList
    exact decide_eq_false (show ¬ Lib.compareBytes (key y).data.toList (key x).data.toList < 0 by omega)
  · have h1' : ¬ Lib.compareBytes (key y).data.toList (key x).data.toList < 0 := of_decide_eq_false h1
    have h2' : ¬ Lib.compareBytes (key z).data.toList (key y).data.toList < 0 := of_decide_eq_false h2
    have a1 := cb_anti (key x).data.toList (key y).data.toList
    have a2 := cb_anti (key y).data.toList (key z).data.toList
    have a3 := cb_anti (key x).data.toList (key z).data.toList
    have := cb_trans (key x).data.toList (key y).data.toList (key z).data.toList (by omega) (by omega)
    exact decide_eq_false (show ¬ Lib.compareBytes (key z).data.toList (key x).data.toList < 0 by omega)

set_option maxHeartbeats 1000000 in
set_option maxRecDepth 100000 in
theorem compareString_calls (a b : ByteArray) (w : World) : Calls Yba.prog 22 #[.string a, .string b] w fun e w' => e = .returned (.int .i64 (Lib.compareBytes a.data.toList b.data.toList)) ∧ w' = w := by
  go_enter Yba.func22, Yba.ntmps22
  go_wp2
  rw [run_callFunc_extern Yba.func36 (by kernel_rfl) (by kernel_rfl) (by kernel_rfl) (e := Extern.BytealgCompare.compare) (by kernel_rfl), Lib.run_compareString]
  simp only [Result.andThen]
  rw [Oper.upon_value]
  go_wp2
  go_ret
  exact ⟨rfl, rfl⟩

set_option maxHeartbeats 1000000 in
theorem compare_calls (a b : ByteArray) (w : World) : Calls Yba.prog 12 #[.string a, .string b] w fun e w' => e = .returned (.int .i64 (Lib.compareBytes a.data.toList b.data.toList)) ∧ w' = w := by
  go_enter Yba.func12, Yba.ntmps12
  go_wp2_with (go_at_call 22; refine (compareString_calls _ _ _).mono ?_; rintro e w' ⟨rfl, rfl⟩)
  go_ret
  exact ⟨rfl, rfl⟩

/-- What came in. -/
structure Ent where
  key : ByteArray
  hi : Nat
  lo : Nat
  wh : Nat
  va : Option Addr
  vn : Nat
  vc : Nat
  ver : Nat
/-- The entries, as they lie. -/
def ERead (N : Nat) (en : Nat → Ent) (w : World) (a : Option Addr) : Prop := ∀ i, i < N → ∃ b off, a = some ⟨b, off, none⟩ ∧ b < w.heap.size ∧ w.cell? ⟨b, off + i * 6, none⟩ = some (.string (en i).key) ∧ w.cell? ⟨b, off + i * 6 + 1, none⟩ = some (.int .u8 (en i).hi) ∧ w.cell? ⟨b, off + i * 6 + 2, none⟩ = some (.int .u8 (en i).lo) ∧ w.cell? ⟨b, off + i * 6 + 3, none⟩ = some (.int .u8 (en i).wh) ∧ w.cell? ⟨b, off + i * 6 + 4, none⟩ = some (.slice (en i).va (en i).vn (en i).vc) ∧ w.cell? ⟨b, off + i * 6 + 5, none⟩ = some (.int .u64 (en i).ver)

set_option maxHeartbeats 1000000 in
set_option maxRecDepth 100000 in
theorem less_calls (N cap eb x y : Nat) (en : Nat → Ent) (a : Option Addr) (w : World) (hN : N ≤ 65536) (heb : Blk w eb 65 #[.slice a N cap]) (hread : ERead N en w a) (hx : x < N) (hy : y < N) :
    Calls Yba.prog 11 #[.int .i64 x, .int .i64 y, .pointer (some ⟨eb, 0, none⟩)] w fun ex w2 => ex = .returned (.int .i64 (cvK (fun i => (en i).key) x y)) ∧ ∃ n, w2 = w.drewN n := by
  obtain ⟨b, off, rfl, _, c0, _⟩ := hread x hx
  obtain ⟨b', off', e, _, d0, _⟩ := hread y hy
  cases e
  obtain ⟨kx, hkx⟩ : ∃ k, k = (en x).key := ⟨_, rfl⟩
  obtain ⟨ky, hky⟩ : ∃ k, k = (en y).key := ⟨_, rfl⟩
  have hres : Hid (cvK (fun i => (en i).key) x y = Lib.compareBytes kx.data.toList ky.data.toList) := by unfold Hid cvK; rw [hkx, hky]
  rw [← hkx] at c0
  rw [← hky] at d0
  have e0 := heb.cell 0
  simp at e0
  clear hkx hky hread
  go_enter Yba.func11, Yba.ntmps11
  go_upto_region 1 with fail
  go_quiet (first | (go_at_call 12; exact Calls.quiet_of_same (compare_calls _ _ _)) | fail)
  go_wp2
  go_ret
  exact ⟨by rw [hres.out]; first | rfl | simp, _, rfl⟩

/-- The comparing closure, wherever the sort calls it. -/
theorem cmp_at (N cap eb g : Nat) (en : Nat → Ent) (a : Option Addr) (wb : World) (hN : N ≤ 65536) (heb : Blk wb eb 65 #[.slice a N cap]) (hread : ERead N en wb a) (hg : eb ≠ g) (hag : ∀ x, a = some x → x.block ≠ g) :
    CmpAt g wb N (cvK (fun i => (en i).key)) (.pointer (some ⟨eb, 0, none⟩)) := by
  intro w' hfr x y hx hy
  refine less_calls N cap eb x y en a w' hN (by unfold Blk at heb ⊢; rw [hfr.block eb (Blk.lt (T := 65) heb) hg (by simp)]; exact heb) (fun i hi => ?_) hx hy
  obtain ⟨b, off, rfl, hb, c0, c1, c2, c3, c4, c5⟩ := hread i hi
  have hbk : w'.heap[b]? = wb.heap[b]? := hfr.block b hb (hag _ rfl) (by simp)
  have hc : ∀ q, w'.cell? ⟨b, q, none⟩ = wb.cell? ⟨b, q, none⟩ := fun q => by simp only [World.cell?, hbk]
  exact ⟨b, off, rfl, by have := hfr.size; omega, by rw [hc]; exact c0, by rw [hc]; exact c1, by rw [hc]; exact c2, by rw [hc]; exact c3, by rw [hc]; exact c4, by rw [hc]; exact c5⟩
end Go.Proofs.Ybulkeeeq
