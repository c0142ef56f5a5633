import Derived.Test.YbulkeeeqLawT
namespace Go.Proofs.Ybulkeeeq
open Go.RowKit
set_option linter.unusedVariables false

set_option maxHeartbeats 20000000 in
set_option maxRecDepth 1000000 in
theorem sec8 : trunkB.owed.g8 := by
  intro N cap a en vb sh sl eh el sp st s w hN b1 b2 b3 b4 b5 b6 i3 hi3 hz3 hs3 hb3 B hvals' hvn' hkz' hby' hread' hgt b8 m8 _ w1 hB' w2 wc u18 u66 u67 u68 u69 u70 u71 u72 u73 hmf w3 h C hCB hbase3 hC' w4 u21 u82 u83 u84 u85 u86 u87 u88 u89 u90 u91 u92 u93 u94 u95 u96 u97 u98 u99 u100 u101 u102 u103 u104 u105 u106 u107 u108 u109 u110 u111 M g cp u hMN w5 E hgE hMc hCE huq5 hE' l3 e4 e4t hl3b L eL hL0 hL4 u24 u25 u26 u28 u116 u117 u118 u119 u120 u121 u122 u123 u124 u125 u126 u127 u128 u129 u130 u131 u132 u133 u134 u135 u136 u137 u138 u139 u140 u141 u142 u143 u144 u145 u146 u147 u148 u149 u150 u151 u152 u153 u154 u155 u156 u157 u158 u159 u160 u161 u162 u163 u164 u165 u166 r rb rc w9 G hEG hparts9 hG' wa hmi0 hba0 hwas u33 u34 u35 u36 u172 u173 u174 u175 u176 u177 u178 u179 u180 u181 u182 u183 u184 u185 u186 u187 u188 u189 u190 u191 u192 u193 u194 u195 u196 u197 u198 u199 u200 u201 u202 u203 u204 u205 u206 u207 u208 u209 u210 u211 u212 u213 u214 u215 u216 u217 u218 u219 u220 u221 u222 u223 u224 u225 u226 u227 u228 u229 u230 fo fu fc wm nb hnb' hGnb ra cR hid _ hwn wn wb wd sB hsn wf wh eB hsn2 lB wk hM6 hr6 p0 gR cR' hp0' hlBe' wl vg gs wt hbase10 hown10 hruns10 hmi10 hnode10 hS10 hE10 hlim10 hgot10 hgown10 hgs' hbw10 _ _ T hT' hTl hTG _ _ _ _
  go_wp2
  go_loopw [42, 43, 45, 46, 47, 48, 259] (fun v42 v43 _ _ _ _ v259 wr => ∃ (k : Nat) (hs : List Nat) (va vb : Value), va = v42 ∧ vb = v43 ∧ v259 = .int .i64 k ∧ k ≤ M ∧ hs = (List.range k).filter (wantB (fun i => en (u i)) s sh sl eh el) ∧ (st = 0 ∨ hs.length < st) ∧ WantI wr T (fun i => en (u i)) u hs va vb ∧ Below T wt wr) (fun _ _ _ _ _ _ v259 _ => M - (intOf v259).toNat)
  case atStart =>
    exact ⟨0, [], _, _, rfl, rfl, rfl, Nat.zero_le _, rfl, by simp only [List.length_nil]; omega, WantI.start _ _ _ _, by rw [hT'.out]; exact Below.refl _ _⟩
  case round =>
    obtain ⟨k, hs, va, vb, rfl, rfl, rfl, hkM, hhs, hst, hw, hbel⟩ := hrel
    have hhs' : Hid (hs = (List.range k).filter (wantB (fun i => en (u i)) s sh sl eh el)) := hhs
    have hst' : Hid (st = 0 ∨ hs.length < st) := hst
    have hw' : Hid (WantI wr T (fun i => en (u i)) u hs va vb) := hw
    have hbel' : Hid (Below T wt wr) := hbel
    by_cases hlt : k < M
    · have hd : decide (k < M) = true := decide_eq_true hlt
      obtain ⟨x, hx⟩ : ∃ x, x = u k := ⟨_, rfl⟩
      have hxN : x < N := by rw [hx]; exact huq5.out.dom _ hlt
      have cu : wr.cell? ⟨g, k, none⟩ = some (.int .i64 (x : Nat)) := by rw [hx]; exact urow_get (owns_below hown10.out hbel (by omega)) hlt
      have hbw := hbase10.out.step hbel (by omega)
      have cb := hbw.c0
      obtain ⟨b, off, ea, _, c0, c1, c2, c3, c4, c5⟩ := hbw.rd hread'.out hB'.out x hxN
      rw [ea] at cb
      obtain ⟨hb1, hb2, hb3x, hb4x⟩ := hby'.out x hxN
      obtain ⟨e, he⟩ : ∃ e, e = en x := ⟨_, rfl⟩
      rw [← he] at c0 c1 c2 c3 c4 c5 hb1 hb2 hb3x hb4x
      have hek : Hid (en (u k) = e) := by unfold Hid; rw [he, hx]
      obtain ⟨ky, hi, lo, wh, va4, vn, vc, ver⟩ := e
      dsimp only at c0 c1 c2 c3 c4 c5 hb1 hb2 hb3x hb4x
      have hx' : Hid (x = u k) := hx
      obtain ⟨k1, hk1⟩ : ∃ z, z = k + 1 := ⟨_, rfl⟩
      have ek1 : (k : Int) + 1 = (k1 : Int) := by omega
      have hk1' : Hid (k1 = k + 1) := hk1
      clear hhs hst hw hbel hx hbw ea he hk1
      cases hls : Op.bytesLess ky.toList s.toList with
      | true =>
        have hwn : Hid (wantB (fun i => en (u i)) s sh sl eh el k = false) := wantB_less (by show Op.bytesLess (en (u k)).key.toList s.toList = true; rw [hek.out]; exact hls)
        have hbelR : Hid (∀ o, Below T wt (wr.alloc o)) := fun o => hbel'.out.alloc (by have := hbel'.out.size; rw [← hT'.out] at this; exact this) o
        have hwR : Hid (∀ o, WantI (wr.alloc o) T (fun i => en (u i)) u hs va vb) := fun o => hw'.out.below ((Below.refl _ wr).alloc (Nat.le_refl _) _)
        have hhsR : Hid (hs = (List.range k1).filter (wantB (fun i => en (u i)) s sh sl eh el)) := by
          unfold Hid; rw [hk1'.out, want_step, hwn.out, hhs'.out]; simp
        go_wp2_with fail
        exact ⟨⟨k1, hs, va, vb, rfl, rfl, rfl, by have := hk1'.out; omega, hhsR.out, hst'.out, hwR.out _, hbelR.out _⟩, by have := hk1'.out; simp [intOf]; omega⟩
      | false =>
        have hwn : Hid (wantB (fun i => en (u i)) s sh sl eh el k = bin hi lo sh sl eh el) := by
          have h1 := wantB_bin (ek := fun i => en (u i)) (s := s) (sh := sh) (sl := sl) (eh := eh) (el := el) (k := k) (by show Op.bytesLess (en (u k)).key.toList s.toList = false; rw [hek.out]; exact hls)
          have h2 : wantB (fun i => en (u i)) s sh sl eh el k = bin (en (u k)).hi (en (u k)).lo sh sl eh el := h1
          rw [hek.out] at h2; exact h2
        go_upto_region 61 with fail
        obtain ⟨e0, he0⟩ : ∃ z, z = wr.heap.size := ⟨_, rfl⟩
        obtain ⟨wq, hwq⟩ : ∃ z, z = wr.alloc (.cells #[.string ky, .int .u8 (hi : Nat), .int .u8 (lo : Nat), .int .u8 (wh : Nat), .slice va4 vn vc, .int .u64 (ver : Nat)] 71) := ⟨_, rfl⟩
        rw [← hwq, ← he0]
        have hbrq : Below wr.heap.size wr wq := by rw [hwq]; exact (Below.refl _ wr).alloc (Nat.le_refl _) _
        have hTr : T ≤ wr.heap.size := by have := hbel'.out.size; rw [← hT'.out] at this; exact this
        have hbox : Blk wq e0 71 #[.string ky, .int .u8 (hi : Nat), .int .u8 (lo : Nat), .int .u8 (wh : Nat), .slice va4 vn vc, .int .u64 (ver : Nat)] := by rw [hwq, he0]; exact Blk.new _ _ _
        have hbtq : Below T wt wq := hbel'.out.trans (hbrq.mono hTr)
        have hTq : T ≤ wq.heap.size := Nat.le_trans hTr hbrq.size
        have hbox' : Hid (Blk wq e0 71 #[.string ky, .int .u8 (hi : Nat), .int .u8 (lo : Nat), .int .u8 (wh : Nat), .slice va4 vn vc, .int .u64 (ver : Nat)]) := hbox
        have hSb : Hid (∀ y, Below wq.heap.size wq y → Blk y sB 76 (idA sh sl) ∧ Blk y eB 76 (idA eh el)) := fun y hy => by
          have h3 := hbtq.trans (hy.mono hTq)
          have := hlBe'.out
          exact ⟨hS10.out.below h3 (by omega), hE10.out.below h3 (by omega)⟩
        have hkS : Hid (∀ y, Below wq.heap.size wq y → y.cell? ⟨e0, 1, none⟩ = some (.int .u8 (hi : Nat)) ∧ y.cell? ⟨e0, 2, none⟩ = some (.int .u8 (lo : Nat)) ∧ y.rangeAt sB 0 (idA sh sl).toList ∧ y.rangeAt eB 0 (idA eh el).toList) := fun y hy => ⟨(hbox.below hy hbox.lt).cell 1, (hbox.below hy hbox.lt).cell 2, (hSb.out y hy).1.range76, (hSb.out y hy).2.range76⟩
        have hwq' : Hid (WantI wq T (fun i => en (u i)) u hs va vb) := hw'.out.below hbrq
        have hbtq' : Hid (Below T wt wq) := hbtq
        have hTq' : Hid (T ≤ wq.heap.size) := hTq
        have hid2 : Hid (∀ y, Calls Yba.prog 13 #[.int .u8 (hi : Nat), .int .u8 (lo : Nat)] y fun ex w' => ex = .returned (.agg (idA hi lo)) ∧ Below y.heap.size y w') := fun y => bid_calls hi lo y
        have hbin : Hid (∀ y, Calls Yba.prog 17 #[.agg (idA hi lo), .agg (idA sh sl), .agg (idA eh el)] y fun ex w' => ex = .returned (.bool (bin hi lo sh sl eh el)) ∧ Below y.heap.size y w') := fun y => bin_calls hi lo sh sl eh el y hb1 hb2 b1 b2 b3 b4
        have hx0 : Hid (Below wq.heap.size wq wq.drew) := (Below.refl _ wq).drew
        clear hbrq hbox hbtq hTq hTr hwq he0 cb c0 c1 c2 c3 c4 c5 cu
        have hu76 := Yba.underlying76
        obtain ⟨ca, hca⟩ : ∃ z, z = idA sh sl := ⟨_, rfl⟩
        obtain ⟨ce, hce⟩ : ∃ z, z = idA eh el := ⟨_, rfl⟩
        have hca' : Hid (ca = idA sh sl) := hca
        have hce' : Hid (ce = idA eh el) := hce
        rw [← hca, ← hce] at hkS hbin
        have hz76 : (Yba.prog.info? 76).map (·.size) = some ca.toList.length := by rw [hca]; exact info76
        have hz76b : (Yba.prog.info? 76).map (·.size) = some ce.toList.length := by rw [hce]; exact info76
        clear hca hce
        obtain ⟨bq, hbq⟩ : ∃ z, z = bin hi lo sh sl eh el := ⟨_, rfl⟩
        rw [← hbq] at hbin hwn
        clear hbq
        refine wp_region_held_drew (S := fun y => y.cell? ⟨e0, 1, none⟩ = some (.int .u8 (hi : Nat)) ∧ y.cell? ⟨e0, 2, none⟩ = some (.int .u8 (lo : Nat)) ∧ y.rangeAt sB 0 ca.toList ∧ y.rangeAt eB 0 ce.toList) (by kernel_rfl) (hkS.out _ hx0.out) (fun hHeld => ?_)
        refine' wpAnyH_take (i := 5) (oi := ⟨some 276, _, _, _, _, _⟩) (v := _) rfl (by kernel_rfl) (by kernel_rfl) (by kernel_rfl) (fun _ _ _ h => h) (yieldsIf_load_mid (by rfl) _ _ rfl _ _ rfl _ _ ?a1 ?a2 ?a3 ?a4) (by assumption) ?a5
        case a1 => intro y hy; exact hy.2.2.1
        case a2 => exact hu76
        case a3 => rfl
        case a4 => exact hz76
        refine' wpAnyH_take (i := 6) (oi := ⟨some 277, _, _, _, _, _⟩) (v := _) rfl (by kernel_rfl) (by kernel_rfl) (by kernel_rfl) (fun _ _ _ h => h) (yieldsIf_load_mid (by rfl) _ _ rfl _ _ rfl _ _ ?c1 ?c2 ?c3 ?c4) (by assumption) ?c5
        case c1 => intro y hy; exact hy.2.2.2
        case c2 => exact hu76
        case c3 => rfl
        case c4 => exact hz76b
        dsimp only [Act.put, List.setIfInBounds_toArray, List.set_cons_succ, List.set_cons_zero]
        refine wpAnyH_take (i := 0) (oi := ⟨some 271, _, _, _, _, _⟩) (v := .pointer (some ⟨e0, 1, none⟩)) rfl (by kernel_rfl) (by kernel_rfl) (by kernel_rfl) (fun _ _ _ h => h) (Or.inl ⟨by rfl, ?_⟩) hHeld ?_
        · intro wz hSz
          obtain ⟨s1, s2, s3, s4⟩ := hSz
          go_simp
        dsimp only [Act.put, List.setIfInBounds_toArray, List.set_cons_succ, List.set_cons_zero]
        refine wpAnyH_take (i := 1) (oi := ⟨some 272, _, _, _, _, _⟩) (v := .int .u8 (hi : Nat)) rfl (by kernel_rfl) (by kernel_rfl) (by kernel_rfl) (fun _ _ _ h => h) (Or.inl ⟨by rfl, ?_⟩) hHeld ?_
        · intro wz hSz
          obtain ⟨s1, s2, s3, s4⟩ := hSz
          go_simp
        dsimp only [Act.put, List.setIfInBounds_toArray, List.set_cons_succ, List.set_cons_zero]
        refine wpAnyH_take (i := 2) (oi := ⟨some 273, _, _, _, _, _⟩) (v := .pointer (some ⟨e0, 2, none⟩)) rfl (by kernel_rfl) (by kernel_rfl) (by kernel_rfl) (fun _ _ _ h => h) (Or.inl ⟨by rfl, ?_⟩) hHeld ?_
        · intro wz hSz
          obtain ⟨s1, s2, s3, s4⟩ := hSz
          go_simp
        dsimp only [Act.put, List.setIfInBounds_toArray, List.set_cons_succ, List.set_cons_zero]
        refine wpAnyH_take (i := 3) (oi := ⟨some 274, _, _, _, _, _⟩) (v := .int .u8 (lo : Nat)) rfl (by kernel_rfl) (by kernel_rfl) (by kernel_rfl) (fun _ _ _ h => h) (Or.inl ⟨by rfl, ?_⟩) hHeld ?_
        · intro wz hSz
          obtain ⟨s1, s2, s3, s4⟩ := hSz
          go_simp
        dsimp only [Act.put, List.setIfInBounds_toArray, List.set_cons_succ, List.set_cons_zero]
        refine wpAnyH_all (rs := [4]) (by kernel_rfl) (by simp) ?_
        intro ii hii
        obtain rfl : ii = 4 := by simpa using hii
        refine wpOp_enter (o := ⟨some 275, _, _, _, _, _⟩) (f := 13) (args := #[.int .u8 (hi : Nat), .int .u8 (lo : Nat)]) rfl (by rfl) (by go_simp) (hid2.out _) ?_
        rintro e w2 ⟨rfl, hq2⟩
        have hx2 : Hid (Below wq.heap.size wq w2) := hx0.out.trans hq2
        have hHeld2 := hkS.out _ hx2.out
        clear hq2 hHeld
        refine ⟨_, rfl, hHeld2, ?_⟩
        dsimp only [Act.put, List.setIfInBounds_toArray, List.set_cons_succ, List.set_cons_zero]
        refine wpAnyH_all (rs := [7]) (by kernel_rfl) (by simp) ?_
        intro ii hii
        obtain rfl : ii = 7 := by simpa using hii
        refine wpOp_enter (o := ⟨some 278, _, _, _, _, _⟩) (f := 17) (args := #[.agg (idA hi lo), .agg ca, .agg ce]) rfl (by rfl) (by go_simp) (hbin.out _) ?_
        rintro e w3 ⟨rfl, hq3⟩
        have hx3 : Hid (Below wq.heap.size wq w3) := hx2.out.trans (hq3.mono hx2.out.size)
        have hHeld3 := hkS.out _ hx3.out
        clear hq3 hHeld2
        refine ⟨_, rfl, hHeld3, ?_⟩
        dsimp only [Act.put, List.setIfInBounds_toArray, List.set_cons_succ, List.set_cons_zero]
        refine wpAnyH_take (i := 8) (oi := ⟨some 279, _, _, _, _, _⟩) (v := .bool (!bq)) rfl (by kernel_rfl) (by kernel_rfl) (by kernel_rfl) (fun _ _ _ h => h) (Or.inl ⟨by rfl, ?_⟩) hHeld3 ?_
        · intro wz hSz
          obtain ⟨s1, s2, s3, s4⟩ := hSz
          go_simp
        dsimp only [Act.put, List.setIfInBounds_toArray, List.set_cons_succ, List.set_cons_zero]
        refine wpAnyH_done (by kernel_rfl) ?_ _
        simp only [List.setIfInBounds_toArray, List.set_cons_succ, List.set_cons_zero]
        clear hHeld3
        have hw3 : Hid (WantI w3 T (fun i => en (u i)) u hs va vb) := hwq'.out.below hx3.out
        have hbt3 : Hid (Below T wt w3) := hbtq'.out.trans (hx3.out.mono hTq'.out)
        have hT3 : T ≤ w3.heap.size := Nat.le_trans hTq'.out hx3.out.size
        have hE3 : Blk w3 e0 71 #[.string ky, .int .u8 (hi : Nat), .int .u8 (lo : Nat), .int .u8 (wh : Nat), .slice va4 vn vc, .int .u64 (ver : Nat)] := hbox'.out.below hx3.out hbox'.out.lt
        have d3 : w3.cell? ⟨e0, 3, none⟩ = some (.int .u8 (wh : Nat)) := by rw [hE3.cell]; rfl
        have d5 : w3.cell? ⟨e0, 5, none⟩ = some (.int .u64 (ver : Nat)) := by rw [hE3.cell]; rfl
        clear hE3 hx0 hx2 hx3 hbox' hSb hkS hwq' hbtq' hTq' hid2 hbin hca' hce' hu76 hz76 hz76b
        cases bq with
        | false =>
          have hhsR : Hid (hs = (List.range k1).filter (wantB (fun i => en (u i)) s sh sl eh el)) := by
            unfold Hid; rw [hk1'.out, want_step, hwn.out, hhs'.out]; simp
          go_wp2_with fail
          exact ⟨⟨k1, hs, va, vb, rfl, rfl, rfl, by have := hk1'.out; omega, hhsR.out, hst'.out, hw3.out, hbt3.out⟩, by have := hk1'.out; simp [intOf]; omega⟩
        | true =>
          have hhsR : Hid (hs ++ [k] = (List.range k1).filter (wantB (fun i => en (u i)) s sh sl eh el)) := by
            unfold Hid; rw [hk1'.out, want_step, hwn.out, hhs'.out]; simp
          have hsl : hs.length ≤ 65536 := by have := want_len hhs'.out; omega
          obtain ⟨ms, hms⟩ : ∃ z, z = wh % 7 := ⟨_, rfl⟩
          have ems : (wh : Int) % 7 = (ms : Int) := by omega
          have emst : Int.tmod (wh : Int) 7 = (ms : Int) := by rw [Int.tmod_eq_emod_of_nonneg (by omega)]; exact ems
          obtain ⟨mk, hmk⟩ : ∃ z, z = ms + 1 := ⟨_, rfl⟩
          have emk : (ms : Int) + 1 = (mk : Int) := by omega
          have hmk7 : mk ≤ 7 := by omega
          have hmo : Hid (mkOf ⟨ky, hi, lo, wh, va4, vn, vc, ver⟩ = mk) := by unfold Hid mkOf; rw [hmk, hms]
          have a1 := and1 mk hmk7
          have a2 := and2 mk hmk7
          obtain ⟨y1, hy1⟩ : ∃ z, z = x1 mk := ⟨_, rfl⟩
          obtain ⟨y2, hy2⟩ : ∃ z, z = x2 mk := ⟨_, rfl⟩
          rw [← hy1] at a1
          rw [← hy2] at a2
          obtain ⟨v1, hv1⟩ : ∃ z, z = (ver + 1) % 18446744073709551616 := ⟨_, rfl⟩
          obtain ⟨v2, hv2⟩ : ∃ z, z = (ver + 2) % 18446744073709551616 := ⟨_, rfl⟩
          have ev1 : IntKind.u64.wrap ((ver : Int) + 1) = (v1 : Int) := by rw [wrap_u64]; omega
          have ev2 : IntKind.u64.wrap ((ver : Int) + 2) = (v2 : Int) := by rw [wrap_u64]; omega
          obtain ⟨vv, hvv⟩ : ∃ z, z = vOf (en (u k)) := ⟨_, rfl⟩
          have hvof : Hid (vv = if y1 ≠ 0 then ver else if y2 ≠ 0 then v1 else v2) := by
            unfold Hid; rw [hvv, hek.out]; unfold vOf; rw [hmo.out, hy1, hy2, hv1, hv2]
          have hvv' : Hid (vOf (en (u k)) = vv) := hvv.symm
          clear hms hmk hy1 hy2 hv1 hv2 hvv
          go_upto_if 289 with fail
          clear d3
          go_cut [48] from 287 to 297 (fun v48 wx => v48 = .int .u64 (vv : Nat) ∧ wx = w3)
          case first =>
            by_cases hy : y1 = 0
            · have hd1 : ((y1 : Int) != 0) = false := by subst hy; rfl
              by_cases hz : y2 = 0
              · have hd2 : ((y2 : Int) != 0) = false := by subst hz; rfl
                have hvq : Hid (vv = v2) := by unfold Hid; rw [hvof.out, if_neg (by omega), if_neg (by omega)]
                go_wp2_with fail
                go_meet
                case rel => exact ⟨by rw [hvq.out], rfl⟩
              · have hd2 : ((y2 : Int) != 0) = true := by simp; omega
                have hvq : Hid (vv = v1) := by unfold Hid; rw [hvof.out, if_neg (by omega), if_pos (by omega)]
                go_wp2_with fail
                go_meet
                case rel => exact ⟨by rw [hvq.out], rfl⟩
            · have hd1 : ((y1 : Int) != 0) = true := by simp; omega
              have hvq : Hid (vv = ver) := by unfold Hid; rw [hvof.out, if_pos (by omega)]
              go_wp2_with fail
              go_meet
              case rel => exact ⟨by rw [hvq.out], rfl⟩
          case rest =>
            obtain ⟨rfl, hcw⟩ := hcut
            subst hcw
            obtain ⟨w4, rfl⟩ : ∃ z, z = wc := ⟨_, rfl⟩
            obtain ⟨i82, hi82, hz82, hs82, hb82⟩ := info_parts info82
            clear d5
            go_upto_region 69 with (at_builtin; refine wpList_append_lies _ rfl _ _ _ rfl T 3 i3 _ 1 8 Yba.underlying66 hi3 hz3 hs3 hb3 rfl (by omega) va hs.length (hs.map fun i => .int .i64 (u i : Nat)) rfl (by exact hw3.out.a.alloc _) ⟨w4.heap.size, 0, none⟩ 1 1 [.int .i64 (x : Nat)] rfl rfl (World.news_of_block (cs := #[.int .i64 (x : Nat)]) (t := 3) (fr := (0, 0)) (heap_alloc_new w4 _)) (by simp [Value.oneCell']) (by omega) (by unfold maxLen; omega) (by omega) (by simp; omega) (w4.heap.size + 1) (by simp) ?_; intro g' cap' w5 ho5 hgr hat hlt5)
            have hpa : Hid (w5.ownsRow T 3 1 (.slice (some ⟨g', 0, none⟩) (hs.length + 1) cap') (hs ++ [k]).length ((hs ++ [k]).map fun i => .int .i64 (u i : Nat)) ∧ w5.ownsRow T 82 1 vb hs.length (hs.map fun i => .int .u64 (vOf (en (u i)) : Nat))) := WantI.puta (ek := fun i => en (u i)) (i := k) (hw3.out.below ((Below.refl _ w4).alloc (Nat.le_refl _) _)) hgr (by rw [← hx'.out]; exact ho5)
            have hb5 : Hid (Below T wt w5) := (hbt3.out.alloc hT3 _).grown hgr (by simp; omega) (fun q e => own_from hw3.out.a q e)
            have hT5 : T ≤ w5.heap.size := by have := hb5.out.size; rw [← hT'.out] at this; exact this
            clear ho5 hgr hat hlt5
            go_upto_region 70 with (at_builtin; refine wpList_append_lies _ rfl _ _ _ rfl T 82 i82 _ 1 8 Yba.underlying128 hi82 hz82 hs82 hb82 rfl (by omega) vb hs.length (hs.map fun i => .int .u64 (vOf (en (u i)) : Nat)) rfl (by exact hpa.out.2.alloc _) ⟨w5.heap.size, 0, none⟩ 1 1 [.int .u64 (vv : Nat)] rfl rfl (World.news_of_block (cs := #[.int .u64 (vv : Nat)]) (t := 82) (fr := (0, 0)) (heap_alloc_new w5 _)) (by simp [Value.oneCell']) (by omega) (by unfold maxLen; omega) (by omega) (by simp; omega) (w5.heap.size + 1) (by simp) ?_; intro g2 cap2 w6 ho6 hgr6 hat6 hlt6)
            have hW6 : Hid (WantI w6 T (fun i => en (u i)) u (hs ++ [k]) (.slice (some ⟨g', 0, none⟩) (hs.length + 1) cap') (.slice (some ⟨g2, 0, none⟩) (hs.length + 1) cap2)) := WantI.putb (x := w5.alloc (.cells #[.int .u64 (vv : Nat)] 82)) (hpa.out.1.alloc _) (hpa.out.2.alloc _) hgr6 hvv'.out ho6
            have hb6 : Hid (Below T wt w6) := (hb5.out.alloc hT5 _).grown hgr6 (by simp; omega) (fun q e => own_from hpa.out.2 q e)
            clear ho6 hgr6 hat6 hlt6
            have clim : w6.cell? ⟨lB, 0, none⟩ = some (.int .i64 (st : Int)) := by rw [(hlim10.out.below hb6.out (by omega)).cell]; rfl
            obtain ⟨l1, hl1⟩ : ∃ z, z = hs.length + 1 := ⟨_, rfl⟩
            rw [← hl1] at hW6 ⊢
            have hlen : Hid ((hs ++ [k]).length = l1) := by unfold Hid; rw [hl1]; simp
            have hl1' : Hid (l1 = hs.length + 1) := hl1
            clear hl1
            have hk1e := hk1'.out
            by_cases hp : 0 < st
            · have hp1 : decide ((0 : Int) < (st : Int)) = true := decide_eq_true (by omega)
              by_cases hq : l1 = st
              · have hq1 : ((l1 : Int) == (st : Int)) = true := by simp; omega
                have hq2 : (l1 == st) = true := by simp; omega
                have hq3 : decide (l1 = st) = true := decide_eq_true hq
                have hgq : Hid (hs ++ [k] = gs) := want_gs hp0'.out (Or.inr ⟨k1, by omega, hhsR.out, by rw [hlen.out]; exact hq, hp⟩) hgs'.out
                have hq4 : Hid (l1 = st) := hq
                clear hq hk1e
                go_wp2_with fail
                go_meet
                case rel => exact ⟨_, _, rfl, rfl, by rw [← hgq.out]; exact hW6.out, hb6.out⟩
              · have hq1 : ((l1 : Int) == (st : Int)) = false := by simp; omega
                have hq2 : (l1 == st) = false := by simp; omega
                have hq3 : decide (l1 = st) = false := decide_eq_false hq
                have hq4 : Hid (¬ l1 = st) := hq
                clear hq hk1e
                go_wp2_with fail
                exact ⟨⟨k1, hs ++ [k], _, _, rfl, rfl, rfl, by have := hk1'.out; omega, hhsR.out, by have h1 := hst'.out; have h2 := hl1'.out; have h3 := hq4.out; rw [hlen.out]; omega, hW6.out, hb6.out⟩, by have := hk1'.out; simp [intOf]; omega⟩
            · have hp1 : decide ((0 : Int) < (st : Int)) = false := decide_eq_false (by omega)
              have hp2 : decide (0 < st) = false := decide_eq_false hp
              have hq4 : Hid (st = 0) := by unfold Hid; omega
              clear hp hk1e
              go_wp2_with fail
              exact ⟨⟨k1, hs ++ [k], _, _, rfl, rfl, rfl, by have := hk1'.out; omega, hhsR.out, Or.inl hq4.out, hW6.out, hb6.out⟩, by have := hk1'.out; simp [intOf]; omega⟩
    · have hd : decide (k < M) = false := decide_eq_false hlt
      obtain rfl : k = M := by omega
      clear hhs hst hw hbel
      go_wp2
      go_meet
      case rel => exact ⟨va, vb, rfl, rfl, by rw [← want_gs hp0'.out (Or.inl ⟨hhs'.out, hst'.out⟩) hgs'.out]; exact hw'.out, hbel'.out⟩
end Go.Proofs.Ybulkeeeq
