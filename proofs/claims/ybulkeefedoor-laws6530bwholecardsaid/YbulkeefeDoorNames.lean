import Derived.Test.YbulkeefeDoorReader
namespace Go.Proofs.YbulkeefeDoor
open Go.RowKit

theorem RS.under {w w' : World} {R : Nat} {sv : Value} {st : Option (List UInt8)} (h : RS w R sv st) (hw : Below (R + 1) w w') : RS w' R sv st := by
  cases st with
  | none =>
    have h' : Blk w R 42 #[.slice none 0 0, sv] := h
    exact h'.below hw (by omega)
  | some l =>
    obtain ⟨a, c, hb, hbys, hoff, hc, hbig⟩ := h
    exact ⟨a, c, hb.below hw (by omega), hbys.underR hoff (hw.mono (by omega)), hoff, hc, hbig⟩
theorem RS.lt {w : World} {R : Nat} {sv : Value} {st : Option (List UInt8)} (h : RS w R sv st) : R < w.heap.size := by
  cases st with
  | none =>
    have h' : Blk w R 42 #[.slice none 0 0, sv] := h
    exact h'.lt
  | some l =>
    obtain ⟨a, c, hb, _⟩ := h
    exact hb.lt

/-- The row of the names read. -/
def nmV (st : Option (List UInt8)) (i : Nat) : Value := .string (strOf (nameN st i))

set_option maxHeartbeats 1000000 in
set_option maxRecDepth 100000 in
theorem readNames_calls (R : Nat) (st st1 : Option (List UInt8)) (n : Nat) (tp : TypeId) (p : Value) (w : World) (hR : 0 < R) (hg : w.cell? ⟨0, 0, none⟩ = some (.iface tp p)) (h : RS w R (.iface tp p) st) (hst : Hid (cntS st = (n, st1))) (hn : n ≤ 4194304) :
    Calls Ybad.prog 8 #[.pointer (some ⟨R, 0, none⟩)] w fun e w' => ∃ g, e = .returned (.slice (some ⟨g, 0, none⟩) n n) ∧ Reads w' (some ⟨g, 0, none⟩) n (nmV st1) ∧ RS w' R (.iface tp p) (stN st1 n) ∧ Below R w w' := by
  obtain ⟨i0, hi, hz0, hz1, hz2⟩ := info_parts info9
  have hRlt := h.lt
  go_enter Ybad.func8, Ybad.ntmps8
  go_wp2_with (first
    | (go_at_call 13; refine (count_calls R st tp p _ hR hg h).mono ?_; rintro e w1 ⟨rfl, hrs, ho⟩; rw [hst.out] at hrs; rw [hst.out])
    | (refine wpList_make_blk (P := Ybad.prog) _ (o := ⟨some 7, _, _, _, _, _⟩) rfl _ _ 23 rfl 9 i0 _ 1 Ybad.underlying23 hi hz0 hz1 .i64 .i64 (n : Int) (n : Int) n n rfl rfl rfl rfl (Nat.le_refl _) ?hby ?mx ?_))
  case hby => rw [hz2]; omega
  case mx => unfold maxLen; omega
  intro w2 hb2 hsz2 hbel2
  have hnew : w1.heap.size = w.heap.size := ho.size
  have hbelR : Below R w w2 := (ho.below (Nat.le_refl _)).trans (hbel2.mono (by omega))
  have hrs2 : RS w2 R (.iface tp p) st1 := hrs.under (hbel2.mono (by omega))
  generalize hgv : w1.heap.size = g at hb2 hsz2
  have hRg : R < g := by omega
  obtain ⟨cs, hcsz, hb2⟩ : ∃ cs : Array Value, cs.size = n ∧ Blk w2 g 9 cs := ⟨_, by simp [madeCells], hb2⟩
  go_wp2
  go_loopw [10] (fun vi wr => ∃ (k : Nat) (cs : Array Value), vi = .int .i64 k ∧ k ≤ n ∧ Blk wr g 9 cs ∧ RowTo cs n (nmV st1) k ∧ RS wr R (.iface tp p) (stN st1 k) ∧ Below R w wr)
    (fun vi _ => n - (intOf vi).toNat)
  case atStart => exact ⟨0, cs, rfl, Nat.zero_le _, hb2, ⟨hcsz, fun j hj => by omega⟩, hrs2, hbelR⟩
  case round =>
    obtain ⟨k, cs, rfl, hk, hbk, hrow, hrsk, hbelk⟩ := hrel
    clear hb2 hrs2 hbelR hrs hcsz hbel2 ho
    by_cases hkn : k < n
    · have hgk : wr.cell? ⟨0, 0, none⟩ = some (.iface tp p) := by rw [hbelk.cell (by exact hR)]; exact hg
      obtain ⟨x, hx⟩ : ∃ x, cs[k]? = some x := ⟨_, Array.getElem?_eq_getElem (by have := hrow.1; omega)⟩
      go_wp2_with (go_at_call 14; refine (string_calls R (stN st1 k) tp p _ hR hgk hrsk).mono ?_; rintro e w3 ⟨rfl, hrs3, ho3⟩; have hb3 := ho3.blk hbk (by omega); have c3 := (hb3.cell k).trans hx; have f3 := hb3.frozen k)
      have hs3 : w3.heap.size = wr.heap.size := ho3.size
      have hgl := hb3.lt
      refine ⟨⟨k + 1, _, by simp, by omega, hb3.set k _, hrow.step hkn, hrs3.under ((Below.refl _ w3).setCell (by exact hRg) _), (hbelk.trans (ho3.below (Nat.le_refl _))).setCell (by show R ≤ g; omega) _⟩, by simp [intOf]; omega⟩
    · have hkn' : k = n := by omega
      subst hkn'
      go_wp2
      go_ret
      exact ⟨g, rfl, Reads.of_blk hbk hrow, hrsk, hbelk⟩
end Go.Proofs.YbulkeefeDoor
