import Derived.Test.YbulkeeeqHap
namespace Go.Proofs.Ybulkeeeq
open Go.RowKit
set_option linter.unusedVariables false

theorem w64_wrap (x : Int) : IntKind.i64.wrap x = w64 x := by
  unfold w64 IntKind.wrap
  have e1 : (2 ^ IntKind.i64.bits : Int) = 18446744073709551616 := by decide
  have e2 : (2 ^ (IntKind.i64.bits - 1) : Int) = 9223372036854775808 := by decide
  have e3 : IntKind.i64.signed = true := rfl
  simp only [e1, e2, e3]
  by_cases h : x % 18446744073709551616 ≥ 9223372036854775808
  · rw [if_pos (by simpa using h)]; omega
  · rw [if_neg (by simpa using h)]; omega

theorem logged_after {X : Cx} (hX : X.Ok) {w : World} {Y : Hp} {idl : Value} {now : Int} {seq nid L : Nat} {lg : List Value} {bag : (Ev → Bool) → Nat} (S : Sim X w Y idl now seq nid L lg bag) {st c g cap o : Nat} {logv : Value} {os cs : Array Value} {w4 : World} {lg' : List Value} {T : TypeId}
    (hst : st = X.st) (hc : c = X.c) (hlv : logv = Y.logv) (h2 : (w.alloc (.cells os 59)).drew.grownBy w4 logv.ownBlock) (h1 : w4.ownsRow X.base 59 3 (.slice (some ⟨g, 0, none⟩) (L + 1) cap) (L + 1) lg')
    (hB1 : Blk w4 st 37 #[.pointer (some ⟨c, 0, none⟩), logv, .int .i64 nid]) (hO1 : Blk w4 o T cs) (host : o ≠ st) (hgb : X.base ≤ g) (h4 : Fresh (w.alloc (.cells os 59)).drew logv (.slice (some ⟨g, 0, none⟩) (L + 1) cap)) :
    Hid (∃ Y', Sim X (w4.setCell ⟨st, 1, none⟩ (.slice (some ⟨g, 0, none⟩) (L + 1) cap)) Y' idl now seq nid (L + 1) lg' bag ∧ Blk (w4.setCell ⟨st, 1, none⟩ (.slice (some ⟨g, 0, none⟩) (L + 1) cap)) o T cs ∧ Kept X Y Y' w (w4.setCell ⟨st, 1, none⟩ (.slice (some ⟨g, 0, none⟩) (L + 1) cap))) := by
  have hb : Below w.heap.size w (w.alloc (.cells os 59)).drew := ⟨rfl, rfl, rfl, by simp, fun k hk => Below.heap_alloc _ _ _ hk⟩
  have hfr : Fr st logv.ownBlock w.heap.size w w4 := (Fr.of_below hb).trans (Fr.of_grown h2 (by simp))
  subst hst; subst hc; subst hlv
  exact ⟨_, S.logged (hfr.setCell X.st 1 _ (Or.inl rfl)) (hB1.set 1 _) (owns_of_block h1 (fun k hk => Below.heap_setCell _ _ _ _ (by
    simp [Value.ownBlock] at hk; subst hk
    have hx := hX.hst
    show g ≠ X.st
    omega))), hO1.setOther ⟨X.st, 1, none⟩ (.slice (some ⟨g, 0, none⟩) (L + 1) cap) host,
    Kept.logged (hfr.setCell X.st 1 _ (Or.inl rfl)) (fun k hk hkl => by
      rcases h4 with h5 | ⟨g', h5, h6⟩
      · rw [← h5]; exact hk
      · rw [hk] at h5; cases h5
        simp at h6; omega)⟩

set_option maxHeartbeats 4000000 in
set_option maxRecDepth 100000 in
theorem happen_calls {X : Cx} (hX : X.Ok) {w : World} {Y : Hp} {idl : Value} {now : Int} {seq nid L : Nat} {lg : List Value} {bag : (Ev → Bool) → Nat} (S : Sim X w Y idl now seq nid L lg bag) (hbb : bag (fun _ => true) ≤ 1000000) (hsq : seq ≤ 1000000) (hnid : nid ≤ 1000000) (hL : L ≤ 1000000)
    (o id : Nat) (child : Bool) (d : Nat) (hd : d ≤ 255) (ho : Blk w o 48 #[.pointer (some ⟨X.st, 0, none⟩), .int .i64 id, .bool child, .int .u8 d]) :
    Calls Yba.prog 90 #[.pointer (some ⟨o, 0, none⟩)] w fun ex w' => ex = .returned (.tuple #[]) ∧
      if child then ∃ Y', Sim X w' Y' idl now (seq + 1) (nid + 1) (L + 1) (lg ++ [.bool false, .int .i64 id, .int .i64 now]) (fun p => bag p + (if p ⟨w64 (now + d), seq + 1, nid, false, 0⟩ then 1 else 0)) ∧ Kept X Y Y' w w'
      else ∃ Y', Sim X w' Y' idl now seq nid (L + 1) (lg ++ [.bool false, .int .i64 id, .int .i64 now]) bag ∧ Kept X Y Y' w w' := by
  obtain ⟨i0, hi, hz0, hz1, hz2⟩ := info_parts info59
  have hsl := S.hst.lt
  have hcl := S.hc.lt
  have hol := ho.lt
  have a0 := S.hst.cell 0
  have a1 := S.hst.cell 1
  have b0 := S.hc.cell 0
  have d0 := ho.cell 0
  have d1 := ho.cell 1
  simp at a0 a1 b0 d0 d1
  obtain ⟨c, hcv⟩ : ∃ x, x = X.c := ⟨_, rfl⟩
  obtain ⟨st, hstv⟩ : ∃ x, x = X.st := ⟨_, rfl⟩
  obtain ⟨logv, hlv⟩ : ∃ x, x = Y.logv := ⟨_, rfl⟩
  rw [← hcv] at a0 b0 hcl
  rw [← hstv] at a0 a1 d0 hsl
  rw [← hlv] at a1
  have h1c : Hid (∀ u ∈ [Value.bool false, .int .i64 id, .int .i64 now], u.oneCell' = true) := by
    intro u hu
    simp only [List.mem_cons, List.not_mem_nil, or_false] at hu
    rcases hu with rfl | rfl | rfl <;> rfl
  have hown' : Hid (w.ownsRow X.base 59 3 logv L lg) := by rw [hlv]; exact S.hlog
  have hS' : Hid (Sim X w Y idl now seq nid L lg bag) := S
  have hX' : Hid X.Ok := hX
  have hbs := S.hbs
  have hstne : Hid (some st ≠ logv.ownBlock) := by rw [hlv, hstv]; exact row_ne S.hst (by decide) (fun g hg => owns_blk S.hlog hg)
  have hst0 : Blk w st 37 #[.pointer (some ⟨c, 0, none⟩), logv, .int .i64 nid] := by rw [hstv, hcv, hlv]; exact S.hst
  have hoS : Hid (some o ≠ logv.ownBlock) := by rw [hlv]; exact row_ne ho (by decide) (fun g hg => owns_blk S.hlog hg)
  have host : o ≠ st := by rw [hstv]; exact ho.ne S.hst (by decide)
  have hcv' : Hid (c = X.c) := hcv
  have hstv' : Hid (st = X.st) := hstv
  have hlv' : Hid (logv = Y.logv) := hlv
  clear S hX hcv hstv hlv
  go_enter Yba.func90, Yba.ntmps90
  go_upto_region 1 with fail
  go_cut [] from 8 to 28 (fun wc => ∃ Y', Sim X wc Y' idl now seq nid (L + 1) (lg ++ [.bool false, .int .i64 id, .int .i64 now]) bag ∧ Blk wc o 48 #[.pointer (some ⟨X.st, 0, none⟩), .int .i64 id, .bool child, .int .u8 d] ∧ Kept X Y Y' w wc)
  case first =>
    go_region_law (refine step_append_fresh rfl (.tmp 12) (.tmp 25) 35 rfl X.base 59 i0 _ 3 24 Yba.underlying35 hi hz0 hz1 hz2 rfl (by decide) logv L lg rfl (by exact (hown'.out.drew.alloc _)) ⟨w.heap.size, 0, none⟩ 1 1 [.bool false, .int .i64 id, .int .i64 now] (by simp [Act.eval]) rfl (news3 (by simp) (by simp) (by simp)) h1c.out (by unfold maxLen; omega) (by omega) (by simp; omega) (by omega) ?_; intro v' w4 h1 h2 h3 h4; have hB1 : Blk w4 st 37 #[.pointer (some ⟨c, 0, none⟩), logv, .int .i64 nid] := Blk.grown (by exact (hst0.drew.alloc _)) h2 hstne.out; have hO1 : Blk w4 o 48 #[.pointer (some ⟨X.st, 0, none⟩), .int .i64 id, .bool child, .int .u8 d] := Blk.grown (by exact (ho.drew.alloc _)) h2 hoS.out; obtain ⟨g, cap, hv', hgb, hgl⟩ := owns_form h1 h3; subst hv'; have hk1 : w4.cell? ⟨st, 1, none⟩ = some logv := (hB1.cell 1); have hk2 := hB1.frozen 1)
    all_goals
      have hsim := logged_after hX'.out hS'.out hstv'.out hcv'.out hlv'.out h2 h1 hB1 hO1 host hgb h4
      go_wp2
      go_meet
      case rel => exact hsim.out
  case rest =>
    obtain ⟨Y1, S1, ho1, hK1⟩ := hcut
    have hK1' : Hid (Kept X Y Y1 w wc) := hK1
    clear hK1
    clear a0 a1 b0 d0 d1 hown' hstne hst0 hoS hlv' h1c hi hz0 hz1 hz2 hS' ho
    have d2 := ho1.cell 2
    have d3 := ho1.cell 3
    have a0 := S1.hst.cell 0
    have a2 := S1.hst.cell 2
    have f2 := S1.hst.frozen 2
    have b0 := S1.hc.cell 0
    simp at a0 a2 b0 d2 d3
    rw [← hcv'.out] at a0 b0
    rw [← hstv'.out] at a0 a2 f2
    cases child with
    | false =>
      have S1' : Hid (Sim X wc Y1 idl now seq nid (L + 1) (lg ++ [.bool false, .int .i64 id, .int .i64 now]) bag) := S1
      clear S1
      go_wp2
      go_end0
      exact ⟨rfl, Y1, S1'.out, hK1'.out⟩
    | true =>
      have S1' : Hid (Sim X wc Y1 idl now seq nid (L + 1) (lg ++ [.bool false, .int .i64 id, .int .i64 now]) bag) := S1
      have hst1 : Blk wc st 37 #[.pointer (some ⟨c, 0, none⟩), Y1.logv, .int .i64 nid] := by rw [hstv'.out, hcv'.out]; exact S1.hst
      have hst2 := hst1.set 2 (.int .i64 ((nid : Int) + 1))
      have hstc : st ≠ c := by rw [hstv'.out, hcv'.out]; exact S1.hst.ne S1.hc (by decide)
      have S2 : Sim X (wc.setCell ⟨st, 2, none⟩ (.int .i64 ((nid : Int) + 1))) { Y1 with logv := Y1.logv } idl now seq (nid + 1) (L + 1) (lg ++ [.bool false, .int .i64 id, .int .i64 now]) bag :=
        S1.logged (by rw [← hstv'.out]; exact (Fr.of_below (Below.refl _ wc)).setCell st 2 _ (Or.inl rfl)) (by rw [← hstv'.out, ← hcv'.out]; exact hst2) (owns_of_block S1.hlog (fun k hk => Below.heap_setCell _ _ _ _ (by
          obtain ⟨cs, hcs⟩ := owns_blk S1.hlog hk
          exact (hcs.ne hst1 (by decide)))))
      have hK2 : Kept X Y Y1 w (wc.setCell ⟨st, 2, none⟩ (.int .i64 ((nid : Int) + 1))) := hK1'.out.trans (Kept.logged (v' := Y1.logv) (by rw [← hstv'.out]; exact (Fr.of_below (Below.refl _ wc)).setCell st 2 _ (Or.inl rfl)) (fun g hg _ => hg))
      have hO2 := ho1.setOther ⟨st, 2, none⟩ (.int .i64 ((nid : Int) + 1)) host
      obtain ⟨w2, hw2⟩ : ∃ x, x = wc.setCell ⟨st, 2, none⟩ (.int .i64 ((nid : Int) + 1)) := ⟨_, rfl⟩
      obtain ⟨t2, ht2⟩ : ∃ x, x = w64 (now + d) := ⟨_, rfl⟩
      have et2 : IntKind.i64.wrap (now + (d : Int)) = t2 := by rw [w64_wrap, ht2]
      have ed : IntKind.i64.wrap (d : Int) = (d : Int) := by rw [w64_wrap]; unfold w64; omega
      rw [← hw2] at S2 hO2 hK2
      have hsch : Hid (∀ w3, Below w2.heap.size w2 w3 → Blk w3 w2.heap.size 48 #[.pointer (some ⟨st, 0, none⟩), .int .i64 nid, .bool false, .int .u8 0] → Calls Yba.prog 6 #[.pointer (some ⟨c, 0, none⟩), .int .i64 t2, .iface 46 (.pointer (some ⟨w2.heap.size, 0, none⟩))] w3 fun ex w' => ex = .returned (.tuple #[]) ∧
          Hid (∃ Y', Sim X w' Y' idl now (seq + 1) (nid + 1) (L + 1) (lg ++ [.bool false, .int .i64 id, .int .i64 now]) (fun p => bag p + (if p ⟨w64 (now + d), seq + 1, nid, false, 0⟩ then 1 else 0)) ∧ Kept X Y Y' w w')) := by
        intro w3 hb3 hn3
        rw [hcv'.out]
        rw [hstv'.out] at hn3
        rw [ht2]
        refine (sim_sched hX'.out (S2.below hb3) hbb hsq ⟨w64 (now + d), seq + 1, nid, false, 0⟩ w2.heap.size rfl hn3).mono ?_
        rintro ex w' ⟨rfl, v', h', k1, k2, _⟩
        exact ⟨rfl, _, k1, (hK2.trans (Kept.of_below hb3)).trans k2⟩
      go_upto_region 5 with fail
      rw [← hw2]
      have a0' : w2.cell? ⟨st, 0, none⟩ = some (.pointer (some ⟨c, 0, none⟩)) := by rw [hw2, hst2.cell]; rfl
      have b0' : w2.cell? ⟨c, 0, none⟩ = some (.int .i64 now) := by rw [hcv'.out]; exact S2.hc.cell 0
      have d3' : w2.cell? ⟨o, 3, none⟩ = some (.int .u8 d) := hO2.cell 3
      have hcl2 : c < w2.heap.size := by rw [hcv'.out]; exact S2.hc.lt
      have hol2 : o < w2.heap.size := hO2.lt
      have hsl2 : st < w2.heap.size := by rw [hstv'.out]; exact S2.hst.lt
      have ht2' : Hid (t2 = w64 (now + d)) := ht2
      clear hK2 hK1' S1 S1' S2 hst1 hst2 hO2 ho1 a0 a2 f2 b0 d2 d3 hw2 ht2 host hstc
      have hb3 : Below w2.heap.size w2 (w2.alloc (Obj.cells #[.pointer (some ⟨st, 0, none⟩), .int .i64 nid, .bool false, .int .u8 0] 48)).drew := ⟨rfl, rfl, rfl, by simp, fun k hk => Below.heap_alloc _ _ _ hk⟩
      have hsc2 := hsch.out _ hb3 (Blk.new w2 48 _).drew
      have hsc3 : Hid (Calls Yba.prog 6 #[.pointer (some ⟨c, 0, none⟩), .int .i64 t2, .iface 46 (.pointer (some ⟨w2.heap.size, 0, none⟩))] (w2.alloc (Obj.cells #[.pointer (some ⟨st, 0, none⟩), .int .i64 nid, .bool false, .int .u8 0] 48)).drew fun ex w' => ex = .returned (.tuple #[]) ∧
          Hid (∃ Y', Sim X w' Y' idl now (seq + 1) (nid + 1) (L + 1) (lg ++ [.bool false, .int .i64 id, .int .i64 now]) (fun p => bag p + (if p ⟨w64 (now + d), seq + 1, nid, false, 0⟩ then 1 else 0)) ∧ Kept X Y Y' w w')) := hsc2
      clear hsc2 hsch hb3
      go_region_with (go_at_call 6; refine hsc3.out.mono ?_; rintro ex w5 ⟨rfl, hpost⟩)
      all_goals
        go_wp2
        go_end0
        exact ⟨rfl, hpost.out⟩
end Go.Proofs.Ybulkeeeq
