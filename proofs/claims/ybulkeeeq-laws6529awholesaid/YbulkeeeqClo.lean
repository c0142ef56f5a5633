import Derived.Test.YbulkeeeqHap
namespace Go.Proofs.Ybulkeeeq
open Go.RowKit
set_option linter.unusedVariables false

theorem logged_stop {X : Cx} (hX : X.Ok) {w : World} {Y : Hp} {idl : Value} {now : Int} {seq nid L : Nat} {lg : List Value} {bag : (Ev → Bool) → Nat} (S : Sim X w Y idl now seq nid L lg bag) {st c g cap o : Nat} {logv : Value} {os cs : Array Value} {w4 : World} {lg' : List Value} {T : TypeId}
    (hst : st = X.st) (hc : c = X.c) (hlv : logv = Y.logv) (h2 : (w.alloc (.cells os 59)).drew.grownBy w4 logv.ownBlock) (h1 : w4.ownsRow X.base 59 3 (.slice (some ⟨g, 0, none⟩) (L + 1) cap) (L + 1) lg')
    (hB1 : Blk w4 st 37 #[.pointer (some ⟨c, 0, none⟩), logv, .int .i64 nid]) (hO1 : Blk w4 o T cs) (host : o ≠ st) (hgb : X.base ≤ g) (h4 : Fresh (w.alloc (.cells os 59)).drew logv (.slice (some ⟨g, 0, none⟩) (L + 1) cap)) :
    Hid (∃ Y', Sim X (w4.setCell ⟨st, 1, none⟩ (.slice (some ⟨g, 0, none⟩) (L + 1) cap)) Y' idl now seq nid (L + 1) lg' bag ∧ Blk (w4.setCell ⟨st, 1, none⟩ (.slice (some ⟨g, 0, none⟩) (L + 1) cap)) o T cs ∧ Kept X Y Y' w (w4.setCell ⟨st, 1, none⟩ (.slice (some ⟨g, 0, none⟩) (L + 1) cap))) := by
  have hb : Below w.heap.size w (w.alloc (.cells os 59)).drew := ⟨rfl, rfl, rfl, by simp, fun k hk => Below.heap_alloc _ _ _ hk⟩
  have hfr : Fr st logv.ownBlock w.heap.size w w4 := (Fr.of_below hb).trans (Fr.of_grown h2 (by simp))
  subst hst; subst hc; subst hlv
  exact ⟨_, S.logged (hfr.setCell X.st 1 _ (Or.inl rfl)) (hB1.set 1 _) (owns_of_block h1 (fun k hk => Below.heap_setCell _ _ _ _ (by
    simp [Value.ownBlock] at hk; subst hk
    have hx := hX.hst
    show g ≠ X.st
    omega))), hO1.setOther ⟨X.st, 1, none⟩ (.slice (some ⟨g, 0, none⟩) (L + 1) cap) host,
    Kept.logged (hfr.setCell X.st 1 _ (Or.inl rfl)) (fun k hk hkl => by
      rcases h4 with h5 | ⟨g', h5, h6⟩
      · rw [← h5]; exact hk
      · rw [hk] at h5; cases h5
        simp at h6; omega)⟩

set_option maxHeartbeats 4000000 in
set_option maxRecDepth 100000 in
theorem stop_calls {X : Cx} (hX : X.Ok) {w : World} {Y : Hp} {idl : Value} {now : Int} {seq nid L : Nat} {lg : List Value} {bag : (Ev → Bool) → Nat} (S : Sim X w Y idl now seq nid L lg bag) (hL : L ≤ 1000000)
    (sv ix i : Nat) (hsv : Blk w sv 34 #[.pointer (some ⟨X.st, 0, none⟩)]) (hix : Blk w ix 3 #[.int .i64 i]) :
    Calls Yba.prog 8 #[.pointer (some ⟨sv, 0, none⟩), .pointer (some ⟨ix, 0, none⟩)] w fun ex w' => ex = .returned (.tuple #[]) ∧
      ∃ Y', Sim X w' Y' idl now seq nid (L + 1) (lg ++ [.bool true, .int .i64 i, .int .i64 0]) bag ∧ Kept X Y Y' w w' := by
  obtain ⟨i0, hi, hz0, hz1, hz2⟩ := info_parts info59
  have hsl := S.hst.lt
  have hol := hsv.lt
  have hil := hix.lt
  have a1 := S.hst.cell 1
  have d0 := hsv.cell 0
  have d1 := hix.cell 0
  simp at a1 d0 d1
  obtain ⟨c, hcv⟩ : ∃ x, x = X.c := ⟨_, rfl⟩
  obtain ⟨st, hstv⟩ : ∃ x, x = X.st := ⟨_, rfl⟩
  obtain ⟨logv, hlv⟩ : ∃ x, x = Y.logv := ⟨_, rfl⟩
  rw [← hstv] at a1 d0 hsl
  rw [← hlv] at a1
  have h1c : Hid (∀ u ∈ [Value.bool true, .int .i64 i, .int .i64 0], u.oneCell' = true) := by
    intro u hu
    simp only [List.mem_cons, List.not_mem_nil, or_false] at hu
    rcases hu with rfl | rfl | rfl <;> rfl
  have hown' : Hid (w.ownsRow X.base 59 3 logv L lg) := by rw [hlv]; exact S.hlog
  have hS' : Hid (Sim X w Y idl now seq nid L lg bag) := S
  have hX' : Hid X.Ok := hX
  have hbs := S.hbs
  have hstne : Hid (some st ≠ logv.ownBlock) := by rw [hlv, hstv]; exact row_ne S.hst (by decide) (fun g hg => owns_blk S.hlog hg)
  have hst0 : Blk w st 37 #[.pointer (some ⟨c, 0, none⟩), logv, .int .i64 nid] := by rw [hstv, hcv, hlv]; exact S.hst
  have hoS : Hid (some sv ≠ logv.ownBlock) := by rw [hlv]; exact row_ne hsv (by decide) (fun g hg => owns_blk S.hlog hg)
  have host : sv ≠ st := by rw [hstv]; exact hsv.ne S.hst (by decide)
  have hcv' : Hid (c = X.c) := hcv
  have hstv' : Hid (st = X.st) := hstv
  have hlv' : Hid (logv = Y.logv) := hlv
  clear S hX hcv hstv hlv
  go_enter Yba.func8, Yba.ntmps8
  go_upto_region 0 with fail
  go_region_law (refine step_append_fresh rfl (.tmp 6) (.tmp 9) 35 rfl X.base 59 i0 _ 3 24 Yba.underlying35 hi hz0 hz1 hz2 rfl (by decide) logv L lg rfl (by exact (hown'.out.drew.alloc _)) ⟨w.heap.size, 0, none⟩ 1 1 [.bool true, .int .i64 i, .int .i64 0] (by simp [Act.eval]) rfl (news3 (by simp) (by simp) (by simp)) h1c.out (by unfold maxLen; omega) (by omega) (by simp; omega) (by omega) ?_; intro v' w4 h1 h2 h3 h4; have hB1 : Blk w4 st 37 #[.pointer (some ⟨c, 0, none⟩), logv, .int .i64 nid] := Blk.grown (by exact (hst0.drew.alloc _)) h2 hstne.out; have hO1 : Blk w4 sv 34 #[.pointer (some ⟨X.st, 0, none⟩)] := Blk.grown (by exact (hsv.drew.alloc _)) h2 hoS.out; obtain ⟨g, cap, hv', hgb, hgl⟩ := owns_form h1 h3; subst hv'; have hk1 : w4.cell? ⟨st, 1, none⟩ = some logv := (hB1.cell 1); have hk2 := hB1.frozen 1; have hk3 : w4.cell? ⟨sv, 0, none⟩ = some (.pointer (some ⟨st, 0, none⟩)) := (hO1.cell 0).trans (by rw [hstv'.out]; rfl))
  all_goals
    have hsim := logged_stop hX'.out hS'.out hstv'.out hcv'.out hlv'.out h2 h1 hB1 hO1 host hgb h4
    go_wp2
    go_end0
    obtain ⟨Y', q1, q2, q3⟩ := hsim.out
    exact ⟨rfl, Y', q1, q3⟩
end Go.Proofs.Ybulkeeeq
