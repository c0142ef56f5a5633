import Derived.Test.YbulkeefeDoorModA
namespace Go.Proofs.YbulkeefeDoor
open Go.RowKit

theorem getElem?_made {v j : Nat} (z : Value) (hj : j < v) : (madeCells #[z] v)[j]? = some z := by
  rw [← Array.getElem?_toList, toList_madeCells_one, List.getElem?_replicate, if_pos hj]

/-- 'b[:n]' -/
theorem run_upto (w : World) (a : Option Addr) (n c k : Nat) (hk : k ≤ c) : (Instr.slice 22 (.slice a n c) none (some (.int .i64 (k : Int))) none).run Ybad.prog w = .ok (.slice a k c) w := by
  rw [run_slice_h w 22 a n c Ybad.underlying22 .i64 (k : Int) (by omega) (by omega)]
  have : (sizeOf (Ybad.prog.elem 22)).run Ybad.prog w = .ok 1 w := by
    have e : Ybad.prog.elem 22 = 5 := by kernel_rfl
    rw [e]; exact Ybad.sizeOf5 w
  rw [this]
  cases a <;> simp [Result.andThen, sliced, Addr.add]

set_option maxHeartbeats 2000000 in
set_option maxRecDepth 100000 in
theorem model_ok (a : Option Addr) (c : Nat) (l : List UInt8) (v k m : Nat) (w : World) (h : Bys w a l) (hc : l.length ≤ c) (hm : Hid (m = l.length - k)) (hbig : m ≤ 4194304) (hd : Hid (Lib.uvarintDec l = (v, (k : Int)))) (hk0 : 0 < k) (hk : k ≤ l.length) (hle : v ≤ m) :
    Calls Ybad.prog 6 #[.slice a l.length c] w fun e w' => ∃ g, e = .returned (.tuple #[.slice (some ⟨g, 0, none⟩) v v, .bool (stN (some (l.drop k)) v).isNone]) ∧ Reads w' (some ⟨g, 0, none⟩) v (nmV (some (l.drop k))) ∧ Below w.heap.size w w' := by
  obtain ⟨i0, hi, hz0, hz1, hz2⟩ := info_parts info9
  have hs := fun w => run_from w a l.length c k hk
  rw [← hm.out] at hs
  have hbr : Bys w (cutA a c k) (l.drop k) := h.drop hc
  have hlr : (l.drop k).length = m := by rw [List.length_drop]; exact hm.out.symm
  have hck : m ≤ c - k := by have := hm.out; omega
  generalize hlk : l.drop k = lk at hbr hlr ⊢
  clear hlk hk
  go_enter Ybad.func6, Ybad.ntmps6
  go_wp2_with (first
    | (go_at_call 12; refine (dec_ok a c l v k _ h hd hk0).mono ?_; rintro e w1 ⟨rfl, hw1⟩; obtain rfl := hw1.symm; clear hw1)
    | (refine wpList_make_blk (P := Ybad.prog) _ (o := ⟨some 35, _, _, _, _, _⟩) rfl _ _ 23 rfl 9 i0 _ 1 Ybad.underlying23 hi hz0 hz1 .i64 .i64 (v : Int) (v : Int) v v rfl rfl rfl rfl (Nat.le_refl _) ?hby ?mx ?_))
  case hby => rw [hz2]; omega
  case mx => unfold maxLen; omega
  intro w2 hb2 hsz2 hbel2
  generalize hgv : w.heap.size = g at hb2 hsz2
  obtain ⟨cs, hcsz, hce, hb2⟩ : ∃ cs : Array Value, cs.size = v ∧ (∀ j, j < v → cs[j]? = some (.string ByteArray.empty)) ∧ Blk w2 g 9 cs := ⟨_, by simp [madeCells], fun j hj => by rw [getElem?_made _ hj], hb2⟩
  go_wp2
  go_loopw [4, 9, 10] (fun vr vf vi wr => ∃ (i : Nat) (cs : Array Value) (f : Bool), vi = .int .i64 i ∧ vf = .bool f ∧ i ≤ v ∧ Blk wr g 9 cs ∧ RowTo cs v (nmV (some lk)) i ∧ (∀ j, i ≤ j → j < v → cs[j]? = some (.string ByteArray.empty)) ∧ MS w vr f (stN (some lk) i) ∧ Below w.heap.size w wr)
    (fun _ _ vi _ => v - (intOf vi).toNat)
  case atStart => exact ⟨0, cs, false, rfl, rfl, Nat.zero_le _, hb2, ⟨hcsz, fun j hj => by omega⟩, fun j _ hj => hce j hj, ⟨rfl, cutA a c k, c - k, by rw [hlr], hbr, by omega, by omega⟩, hbel2⟩
  case round =>
    obtain ⟨i, cs, f, rfl, rfl, hiv, hbi, hrow, hzero, hms, hbeli⟩ := hrel
    clear hb2 hcsz hce hbel2 hsz2
    by_cases hin : i < v
    · cases hst : stN (some lk) i with
      | none =>
        rw [hst] at hms
        have hms' : f = true := hms
        subst hms'
        go_wp2
        refine ⟨⟨i + 1, cs, true, by simp, rfl, by omega, hbi, ⟨hrow.1, fun j hj => ?_⟩, fun j h1 h2 => hzero j (by omega) h2, ?_, hbeli⟩, by simp [intOf]; omega⟩
        · by_cases hji : j = i
          · subst hji
            rw [hzero j (Nat.le_refl _) hin]
            simp only [nmV, nameN, hst, one_none]
            rfl
          · exact hrow.2 j (by omega)
        · simp only [stN, hst, one_none]
          exact rfl
      | some r =>
        rw [hst] at hms
        obtain ⟨rfl, a1, c1, rfl, hb1, hc1, hbig1⟩ := hms
        have hwr : Bys wr a1 r := hb1.below hbeli
        obtain ⟨x, hx⟩ : ∃ x, cs[i]? = some x := ⟨_, Array.getElem?_eq_getElem (by have := hrow.1; omega)⟩
        have cx := (hbi.cell i).trans hx
        have fx := hbi.frozen i
        rcases dec_split r with ⟨v2, k2, hd2, hk20, hk2, hv2⟩ | hneg
        · have hd2' : Hid (Lib.uvarintDec r = (v2, (k2 : Int))) := hd2
          have hbr2 : Bys w (cutA a1 c1 k2) (r.drop k2) := hb1.drop hc1
          have hbr2' : Bys wr (cutA a1 c1 k2) (r.drop k2) := hwr.drop hc1
          have hs2 := fun w => run_from w a1 r.length c1 k2 hk2
          have hck2 : r.length - k2 ≤ c1 - k2 := by omega
          obtain ⟨m2, hm2⟩ : ∃ m2, m2 = r.length - k2 := ⟨_, rfl⟩
          have hlr2 : (r.drop k2).length = m2 := by rw [List.length_drop]; exact hm2.symm
          rw [← hm2] at hs2 hck2
          by_cases hle2 : v2 ≤ m2
          · have hone : Hid (one (some r) = ((r.drop k2).take v2, some ((r.drop k2).drop v2))) := one_some (cnt_of_dec hd2 hk20 (by omega))
            generalize r.drop k2 = r2 at *
            generalize cutA a1 c1 k2 = a2 at *
            generalize c1 - k2 = c2 at *
            have hst' : Hid (stN (some lk) i = some r) := hst
            clear hst hd2 hk2
            have hm2' : Hid (m2 = r.length - k2) := hm2
            clear hm2
            have hs3 := fun w => run_upto w a2 m2 c2 v2 (by omega)
            have hs4 := run_str wr a2 c2 (r2.take v2) v2 (by rw [List.length_take]; omega) hbr2'.take
            have hs5 := fun w => run_from w a2 m2 c2 v2 hle2
            have hle2' : Hid (v2 ≤ m2) := hle2
            have hck2' : Hid (m2 ≤ c2) := hck2
            have hq : (m2 < v2) = False := by simp; omega
            have hm22 : m2 ≤ 4194304 := by have := hm2'.out; omega
            have hv22 : v2 ≤ 4194304 := by omega
            clear hle2 hck2 hv2
            go_wp2_with (go_at_call 12; refine (dec_ok a1 c1 r v2 k2 _ hwr hd2' hk20).mono ?_; rintro e w3 ⟨rfl, hw3⟩; obtain rfl := hw3.symm; clear hw3)
            have hnm : nmV (some lk) i = .string { data := (List.take v2 r2).toArray } := by
              simp only [nmV, nameN, hst'.out, hone.out]; rfl
            have hb9 := hbi.set i (Value.string { data := (List.take v2 r2).toArray })
            have hrow9 := hrow.step hin
            rw [hnm] at hrow9
            refine ⟨⟨i + 1, _, false, by simp, rfl, by omega, hb9, hrow9, fun j h1 h2 => ?_, ?_, hbeli.setCell (by show _ ≤ g; omega) _⟩, by simp [intOf]; omega⟩
            · rw [Array.getElem?_setIfInBounds_ne (by omega)]; exact hzero j (by omega) h2
            · simp only [stN, hst'.out, hone.out]
              have := hle2'.out
              have := hck2'.out
              exact ⟨rfl, cutA a2 c2 v2, c2 - v2, by rw [List.length_drop, hlr2], hbr2.drop (by omega), by rw [List.length_drop]; omega, by rw [List.length_drop]; omega⟩
          · have hone : Hid (one (some r) = ([], none)) := one_fail (cnt_of_over hd2 (by omega))
            have hst' : Hid (stN (some lk) i = some r) := hst
            have hm2' : Hid (m2 = r.length - k2) := hm2
            have hm22 : m2 ≤ 4194304 := by omega
            have hlt2 : m2 < v2 := by omega
            clear hst hd2 hk2 hm2 hle2
            generalize cutA a1 c1 k2 = a2 at *
            generalize c1 - k2 = c2 at *
            go_wp2_with (go_at_call 12; refine (dec_ok a1 c1 r v2 k2 _ hwr hd2' hk20).mono ?_; rintro e w3 ⟨rfl, hw3⟩; obtain rfl := hw3.symm; clear hw3)
            refine ⟨⟨i + 1, cs, true, by simp, rfl, by omega, hbi, ⟨hrow.1, fun j hj => ?_⟩, fun j h1 h2 => hzero j (by omega) h2, ?_, hbeli⟩, by simp [intOf]; omega⟩
            · by_cases hji : j = i
              · subst hji
                rw [hzero j (Nat.le_refl _) hin]
                simp only [nmV, nameN, hst'.out, hone.out]
                rfl
              · exact hrow.2 j (by omega)
            · simp only [stN, hst'.out, hone.out]
              exact rfl
        · have hone : Hid (one (some r) = ([], none)) := one_fail (cnt_of_bad hneg)
          have hst' : Hid (stN (some lk) i = some r) := hst
          have hneg' : Hid ((Lib.uvarintDec r).2 ≤ 0) := hneg
          clear hst hneg
          go_wp2_with (go_at_call 12; refine (dec_bad a1 c1 r _ hwr hneg').mono ?_; rintro e w3 ⟨rfl, hw3⟩; obtain rfl := hw3.symm; clear hw3)
          refine ⟨⟨i + 1, cs, true, by simp, rfl, by omega, hbi, ⟨hrow.1, fun j hj => ?_⟩, fun j h1 h2 => hzero j (by omega) h2, ?_, hbeli⟩, by simp [intOf]; omega⟩
          · by_cases hji : j = i
            · subst hji
              rw [hzero j (Nat.le_refl _) hin]
              simp only [nmV, nameN, hst'.out, hone.out]
              rfl
            · exact hrow.2 j (by omega)
          · simp only [stN, hst'.out, hone.out]
            exact rfl
    · have hin' : i = v := by omega
      subst hin'
      cases hst : stN (some lk) i with
      | none =>
        rw [hst] at hms
        have hms' : f = true := hms
        subst hms'
        go_wp2
        go_ret2
        exact ⟨g, by rw [hst]; rfl, Reads.of_blk hbi hrow, hbeli⟩
      | some r =>
        rw [hst] at hms
        obtain ⟨rfl, a1, c1, rfl, hb1, hc1, hbig1⟩ := hms
        go_wp2
        go_ret2
        exact ⟨g, by rw [hst]; rfl, Reads.of_blk hbi hrow, hbeli⟩
theorem model_calls (a : Option Addr) (c : Nat) (l : List UInt8) (n : Nat) (st1 : Option (List UInt8)) (w : World) (h : Bys w a l) (hc : l.length ≤ c) (hbig : l.length ≤ 4194304) (hst : cntS (some l) = (n, st1)) :
    Calls Ybad.prog 6 #[.slice a l.length c] w fun e w' => ∃ g, e = .returned (.tuple #[.slice (some ⟨g, 0, none⟩) n n, .bool (stN st1 n).isNone]) ∧ Reads w' (some ⟨g, 0, none⟩) n (nmV st1) ∧ Below w.heap.size w w' := by
  rcases dec_split l with ⟨v, k, hd, hk0, hk, _⟩ | hneg
  · by_cases hle : v ≤ l.length - k
    · rw [show cntS (some l) = (v, some (l.drop k)) by simp only [cntS, cnt_of_dec hd hk0 hle]] at hst
      obtain ⟨rfl, rfl⟩ := Prod.mk.inj hst
      exact model_ok a c l v k _ w h hc rfl (by omega) hd hk0 hk hle
    · rw [show cntS (some l) = (0, none) by simp only [cntS, cnt_of_over hd (Nat.lt_of_not_le hle)]] at hst
      obtain ⟨rfl, rfl⟩ := Prod.mk.inj hst
      refine (model_over a c l v k _ w h rfl (by omega) hd hk0 hk (by omega)).mono ?_
      rintro e w' ⟨g, rfl, hb⟩
      exact ⟨g, rfl, fun i hi => by omega, hb⟩
  · rw [show cntS (some l) = (0, none) by simp only [cntS, cnt_of_bad hneg]] at hst
    obtain ⟨rfl, rfl⟩ := Prod.mk.inj hst
    refine (model_bad a c l w h hneg).mono ?_
    rintro e w' ⟨g, rfl, hb⟩
    exact ⟨g, rfl, fun i hi => by omega, hb⟩

end Go.Proofs.YbulkeefeDoor
