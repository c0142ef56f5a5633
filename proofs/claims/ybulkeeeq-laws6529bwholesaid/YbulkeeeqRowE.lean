import Derived.Test.YbulkeeeqBef
namespace Go.Proofs.Ybulkeeeq
open Go.RowKit
set_option linter.unusedVariables false

theorem info54 : (Yba.prog.info? 54).map (fun i => (i.zero, i.size, i.bytes)) = some (some (.agg #[.int .i64 0, .int .u64 0, .nilIface]), 3, 32) := by kernel_rfl

/-- The cells of the first n events; wf: what the event of a number does. -/
def evs (wf : Nat → Value) (h : Nat → Ev) : Nat → List Value
  | 0 => []
  | n + 1 => evs wf h n ++ [.int .i64 (h n).t, .int .u64 (h n).seq, wf (h n).seq]
theorem evs_len (wf : Nat → Value) (h : Nat → Ev) : ∀ n, (evs wf h n).length = n * 3
  | 0 => rfl
  | n + 1 => by simp only [evs, List.length_append, evs_len wf h n]; simp; omega
/-- One cell of an event. -/
def evC (wf : Nat → Value) (e : Ev) (r : Nat) : Value := if r = 0 then .int .i64 e.t else if r = 1 then .int .u64 e.seq else wf e.seq
theorem evs_get (wf : Nat → Value) (h : Nat → Ev) : ∀ n j r, j < n → r < 3 → (evs wf h n)[j * 3 + r]? = some (evC wf (h j) r)
  | 0, j, r, hj, hr => by omega
  | n + 1, j, r, hj, hr => by
    simp only [evs]
    by_cases e : j = n
    · subst e
      rw [List.getElem?_append_right (by rw [evs_len]; omega), evs_len, show j * 3 + r - j * 3 = r by omega]
      unfold evC
      match r, hr with
      | 0, _ => rfl
      | 1, _ => rfl
      | 2, _ => rfl
    · rw [List.getElem?_append_left (by rw [evs_len]; omega)]
      exact evs_get wf h n j r (by omega) hr
theorem evs_congr {wf : Nat → Value} {h h' : Nat → Ev} : ∀ {n : Nat}, (∀ j, j < n → h j = h' j) → evs wf h n = evs wf h' n
  | 0, _ => rfl
  | n + 1, hh => by
    simp only [evs]
    rw [evs_congr (fun j hj => hh j (by omega)), hh n (by omega)]

/-- The slice value v holds the n events h, in a block of its own from base on. -/
def EvRow (w : World) (base : Nat) (wf : Nat → Value) (v : Value) (n : Nat) (h : Nat → Ev) : Prop :=
  (v = .slice none 0 0 ∧ n = 0) ∨ ∃ g cap cs, v = .slice (some ⟨g, 0, none⟩) n cap ∧ base ≤ g ∧ Blk w g 54 cs ∧ n ≤ cap ∧ cap ≤ maxLen ∧ cs.size = cap * 3 ∧ ∀ j r, j < n → r < 3 → cs[j * 3 + r]? = some (evC wf (h j) r)

theorem EvRow.owns {w : World} {base : Nat} {wf : Nat → Value} {v : Value} {n : Nat} {h : Nat → Ev} (hr : EvRow w base wf v n h) : w.ownsRow base 54 3 v n (evs wf h n) := by
  rcases hr with ⟨rfl, rfl⟩ | ⟨g, cap, cs, rfl, h1, h2, h3, h4, h5, h6⟩
  · exact World.ownsRow_nil _ _ _ _
  · refine ⟨evs_len wf h n, .inr ⟨g, cap, cs, rfl, h1, h2, h3, h4, h5, ?_⟩⟩
    apply List.ext_getElem?
    intro i
    by_cases hi : i < n * 3
    · rw [List.getElem?_take, if_pos hi]
      have e : i = (i / 3) * 3 + i % 3 := by omega
      rw [e, evs_get wf h n _ _ (by omega) (Nat.mod_lt _ (by omega))]
      have := h6 (i / 3) (i % 3) (by omega) (Nat.mod_lt _ (by omega))
      simpa using this
    · rw [List.getElem?_eq_none (by rw [List.length_take]; omega), List.getElem?_eq_none (by rw [evs_len]; omega)]

theorem EvRow.of_owns {w : World} {base : Nat} {wf : Nat → Value} {v : Value} {n : Nat} {h : Nat → Ev} (ho : w.ownsRow base 54 3 v n (evs wf h n)) : EvRow w base wf v n h := by
  obtain ⟨hl, h2⟩ := ho
  rcases h2 with h2 | ⟨g, cap, cur, rfl, hg, hh, hn, hcap, hsz, htake⟩
  · exact Or.inl h2
  · refine Or.inr ⟨g, cap, cur, rfl, hg, hh, hn, hcap, hsz, fun j r hj hr => ?_⟩
    have h4 := evs_get wf h n j r hj hr
    rw [← htake, List.getElem?_take, if_pos (by omega)] at h4
    simpa using h4

theorem EvRow.congr {w : World} {base : Nat} {wf : Nat → Value} {v : Value} {n : Nat} {h h' : Nat → Ev} (hr : EvRow w base wf v n h) (hh : ∀ j, j < n → h j = h' j) : EvRow w base wf v n h' := by
  rcases hr with hr | ⟨g, cap, cs, h0, h1, h2, h3, h4, h5, h6⟩
  · exact Or.inl hr
  · exact Or.inr ⟨g, cap, cs, h0, h1, h2, h3, h4, h5, fun j r hj hr => by rw [← hh j hj]; exact h6 j r hj hr⟩
theorem EvRow.mono {w : World} {base base' : Nat} {wf : Nat → Value} {v : Value} {n : Nat} {h : Nat → Ev} (hr : EvRow w base wf v n h) (hb : base' ≤ base) : EvRow w base' wf v n h := by
  rcases hr with hr | ⟨g, cap, cs, h0, h1, h2⟩
  · exact Or.inl hr
  · exact Or.inr ⟨g, cap, cs, h0, by omega, h2⟩
/-- It lies where nothing has turned. -/
theorem EvRow.of_block {w w' : World} {base : Nat} {wf : Nat → Value} {v : Value} {n : Nat} {h : Nat → Ev} (hr : EvRow w base wf v n h) (hb : ∀ g, v.ownBlock = some g → w'.heap[g]? = w.heap[g]?) : EvRow w' base wf v n h := by
  rcases hr with hr | ⟨g, cap, cs, h0, h1, h2, h3⟩
  · exact Or.inl hr
  · refine Or.inr ⟨g, cap, cs, h0, h1, ?_, h3⟩
    subst h0
    unfold Blk at h2 ⊢
    rw [hb g rfl]; exact h2
/-- What the events do may be told anew where the numbers are others. -/
theorem EvRow.wf_congr {w : World} {base : Nat} {wf wf' : Nat → Value} {v : Value} {n : Nat} {h : Nat → Ev} (hr : EvRow w base wf v n h) (hh : ∀ j, j < n → wf (h j).seq = wf' (h j).seq) : EvRow w base wf' v n h := by
  rcases hr with hr | ⟨g, cap, cs, h0, h1, h2, h3, h4, h5, h6⟩
  · exact Or.inl hr
  · refine Or.inr ⟨g, cap, cs, h0, h1, h2, h3, h4, h5, fun j r hj hr => ?_⟩
    rw [h6 j r hj hr]
    unfold evC
    rw [hh j hj]

/-- One event is written. -/
theorem set3 {cs : Array Value} {N k : Nat} {wf : Nat → Value} {h : Nat → Ev} {n : Nat} (e : Ev) (hs : cs.size = N * 3) (hk : k < N) (h6 : ∀ j r, j < n → r < 3 → j ≠ k → cs[j * 3 + r]? = some (evC wf (h j) r)) :
    ∀ j r, j < n → r < 3 → (((cs.setIfInBounds (k * 3) (.int .i64 e.t)).setIfInBounds (k * 3 + 1) (.int .u64 e.seq)).setIfInBounds (k * 3 + 2) (wf e.seq))[j * 3 + r]? = some (evC wf (upd h k e j) r) := by
  intro j r hj hr
  by_cases e1 : j = k
  · subst e1
    rw [upd_self]
    match r, hr with
    | 0, _ => simp only [Nat.add_zero]; rw [Array.getElem?_setIfInBounds_ne (by omega), Array.getElem?_setIfInBounds_ne (by omega), Array.getElem?_setIfInBounds_self_of_lt (by omega)]; rfl
    | 1, _ => rw [Array.getElem?_setIfInBounds_ne (by omega), Array.getElem?_setIfInBounds_self_of_lt (by simp; omega)]; rfl
    | 2, _ => rw [Array.getElem?_setIfInBounds_self_of_lt (by simp; omega)]; rfl
  · rw [Array.getElem?_setIfInBounds_ne (by omega), Array.getElem?_setIfInBounds_ne (by omega), Array.getElem?_setIfInBounds_ne (by omega), upd_ne h e e1]
    exact h6 j r hj hr e1

end Go.Proofs.Ybulkeeeq
