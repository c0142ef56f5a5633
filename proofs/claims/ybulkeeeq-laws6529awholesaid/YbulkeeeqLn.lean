import Derived.Test.YbulkeeeqLcomp
namespace Go.Proofs.Ybulkeeeq
open Go.RowKit
set_option linter.unusedVariables false

/-- Lane l holds the m events q, first first. -/
def LaneAt (w : World) (base : Nat) (wf : Nat → Value) (l : Nat) (dly : Int) (v : Value) (q : Nat → Ev) (m : Nat) : Prop :=
  ∃ hd n h, Blk w l 42 #[.int .i64 dly, v, .int .i64 (hd : Nat)] ∧ EvFrom w base wf v hd n h ∧ hd + m = n ∧ n ≤ 1000000 ∧ ∀ j, j < m → h (hd + j) = q j

theorem EvFrom.own_ge {w : World} {base : Nat} {wf : Nat → Value} {v : Value} {hd n : Nat} {h : Nat → Ev} (hr : EvFrom w base wf v hd n h) {c : Nat} (hc : c < base) : some c ≠ v.ownBlock := by
  rcases hr with ⟨rfl, _⟩ | ⟨g, cap, cs, rfl, h1, _⟩
  · simp [Value.ownBlock]
  · simp [Value.ownBlock]; omega
theorem EvFrom.own_blk {w : World} {base : Nat} {wf : Nat → Value} {v : Value} {hd n : Nat} {h : Nat → Ev} (hr : EvFrom w base wf v hd n h) {g : Nat} (hg : v.ownBlock = some g) : ∃ cs, Blk w g 54 cs := by
  rcases hr with ⟨rfl, _⟩ | ⟨g', cap, cs, rfl, h1, h2, _⟩
  · simp [Value.ownBlock] at hg
  · simp [Value.ownBlock] at hg; subst hg; exact ⟨cs, h2⟩
theorem EvRow.own_blk {w : World} {base : Nat} {wf : Nat → Value} {v : Value} {n : Nat} {h : Nat → Ev} (hr : EvRow w base wf v n h) {g : Nat} (hg : v.ownBlock = some g) : ∃ cs, Blk w g 54 cs := hr.from0.own_blk hg
theorem Blk.ty {w : World} {g : Nat} {T T' : TypeId} {cs cs' : Array Value} (h : Blk w g T cs) (h' : Blk w g T' cs') : T = T' := by
  unfold Blk at h h'; rw [h] at h'; cases h'; rfl
theorem Blk.ne {w : World} {g k : Nat} {T T' : TypeId} {cs cs' : Array Value} (h : Blk w g T cs) (h' : Blk w k T' cs') (hT : T ≠ T') : g ≠ k := by
  intro e; subst e; exact hT (h.ty h')
theorem Blk.of_block {w w' : World} {g : Nat} {T : TypeId} {cs : Array Value} (h : Blk w g T cs) (hb : w'.heap[g]? = w.heap[g]?) : Blk w' g T cs := by
  unfold Blk at h ⊢; rw [hb]; exact h

theorem LaneAt.of_block {w w' : World} {base : Nat} {wf : Nat → Value} {l : Nat} {dly : Int} {v : Value} {q : Nat → Ev} {m : Nat} (h : LaneAt w base wf l dly v q m) (hl : w'.heap[l]? = w.heap[l]?) (hb : ∀ g, v.ownBlock = some g → w'.heap[g]? = w.heap[g]?) : LaneAt w' base wf l dly v q m := by
  obtain ⟨hd, n, h, h1, h2, h3⟩ := h
  exact ⟨hd, n, h, h1.of_block hl, h2.of_block hb, h3⟩
theorem LaneAt.lt {w : World} {base : Nat} {wf : Nat → Value} {l : Nat} {dly : Int} {v : Value} {q : Nat → Ev} {m : Nat} (h : LaneAt w base wf l dly v q m) : l < w.heap.size := by
  obtain ⟨hd, n, h, h1, h2, h3⟩ := h; exact h1.lt
theorem LaneAt.own_blk {w : World} {base : Nat} {wf : Nat → Value} {l : Nat} {dly : Int} {v : Value} {q : Nat → Ev} {m : Nat} (h : LaneAt w base wf l dly v q m) {g : Nat} (hg : v.ownBlock = some g) : ∃ cs, Blk w g 54 cs := by
  obtain ⟨hd, n, h, h1, h2, h3⟩ := h; exact h2.own_blk hg
theorem LaneAt.below {w w' : World} {base : Nat} {wf : Nat → Value} {l : Nat} {dly : Int} {v : Value} {q : Nat → Ev} {m : Nat} {B : Nat} (h : LaneAt w base wf l dly v q m) (hb : Below B w w') (hB : w.heap.size ≤ B) : LaneAt w' base wf l dly v q m :=
  h.of_block (hb.block l (by have := h.lt; omega)) (fun g hg => hb.block g (by obtain ⟨cs, hc⟩ := h.own_blk hg; have := hc.lt; omega))
theorem EvRow.below {w w' : World} {base : Nat} {wf : Nat → Value} {v : Value} {n : Nat} {h : Nat → Ev} {B : Nat} (hr : EvRow w base wf v n h) (hb : Below B w w') (hB : w.heap.size ≤ B) : EvRow w' base wf v n h :=
  hr.of_block (fun g hg => hb.block g (by obtain ⟨cs, hc⟩ := hr.own_blk hg; have := hc.lt; omega))

theorem lane_first_none {w : World} {base : Nat} {wf : Nat → Value} {l : Nat} {dly : Int} {v : Value} {q : Nat → Ev} (hL : LaneAt w base wf l dly v q 0) :
    Calls Yba.prog 31 #[.pointer (some ⟨l, 0, none⟩)] w fun ex w' => ex = .returned (.tuple #[.agg #[.int .i64 0, .int .u64 0, .nilIface], .bool false]) ∧ Below w.heap.size w w' := by
  obtain ⟨hd, n, h, h1, h2, h3, h4, h5⟩ := hL
  obtain rfl : hd = n := by omega
  rcases h2 with ⟨rfl, rfl⟩ | ⟨g, cap, cs, rfl, _⟩
  · exact lfirst_none l 0 dly none 0 w h1
  · exact lfirst_none l hd dly _ cap w h1

theorem lane_first_some {w : World} {base : Nat} {wf : Nat → Value} {l : Nat} {dly : Int} {v : Value} {q : Nat → Ev} {m : Nat} (hL : LaneAt w base wf l dly v q m) (hm : 0 < m) (hwf : ∀ s, ∃ o, wf s = .iface 46 (.pointer (some ⟨o, 0, none⟩))) :
    Calls Yba.prog 31 #[.pointer (some ⟨l, 0, none⟩)] w fun ex w' => ex = .returned (.tuple #[.agg #[.int .i64 (q 0).t, .int .u64 (q 0).seq, wf (q 0).seq], .bool true]) ∧ Below w.heap.size w w' := by
  obtain ⟨hd, n, h, h1, h2, h3, h4, h5⟩ := hL
  have := lfirst_some l n hd base dly wf v h w h1 h2 (by omega) h4 hwf
  rw [← h5 0 hm, Nat.add_zero]
  exact this

theorem lane_pop {w : World} {base : Nat} {wf : Nat → Value} {l : Nat} {dly : Int} {v : Value} {q : Nat → Ev} {m : Nat} (hL : LaneAt w base wf l dly v q (m + 1)) (hlb : l < base) (hwf : ∀ s, ∃ o, wf s = .iface 46 (.pointer (some ⟨o, 0, none⟩))) :
    Calls Yba.prog 32 #[.pointer (some ⟨l, 0, none⟩)] w fun ex w' => ex = .returned (.agg #[.int .i64 (q 0).t, .int .u64 (q 0).seq, wf (q 0).seq]) ∧ ∃ v', LaneAt w' base wf l dly v' (fun j => q (j + 1)) m ∧ v'.ownBlock = v.ownBlock ∧ Fr l v.ownBlock w.heap.size w w' := by
  obtain ⟨hd, n, h, h1, h2, h3, h4, h5⟩ := hL
  have e0 : q 0 = h hd := (h5 0 (by omega)).symm
  rw [e0]
  by_cases hc : 64 < hd + 1 ∧ n < 2 * (hd + 1)
  · refine (lpop_comp l n hd base dly wf v h w h1 h2 hlb (by omega) h4 hwf hc).mono ?_
    rintro ex w' ⟨rfl, v', k1, k2, k3, k4⟩
    refine ⟨rfl, v', ⟨0, n - (hd + 1), _, k1, k2, by omega, by omega, fun j hj => ?_⟩, k3, k4⟩
    show h (hd + 1 + (0 + j)) = q (j + 1)
    rw [← h5 (j + 1) (by omega)]
    congr 1; omega
  · refine (lpop_plain l n hd base dly wf v h w h1 h2 hlb (by omega) h4 hwf hc).mono ?_
    rintro ex w' ⟨rfl, k1, k2, k4⟩
    refine ⟨rfl, v, ⟨hd + 1, n, _, k1, k2, by omega, by omega, fun j hj => ?_⟩, rfl, k4⟩
    show h (hd + 1 + j) = q (j + 1)
    rw [← h5 (j + 1) (by omega)]
    congr 1; omega
end Go.Proofs.Ybulkeeeq
