import Derived.Test.YbulkeeeqLawT
namespace Go.Proofs.Ybulkeeeq
open Go.RowKit
set_option linter.unusedVariables false

set_option maxHeartbeats 20000000 in
set_option maxRecDepth 1000000 in
theorem sec5 : trunkB.owed.g5 := by
  intro N cap a en vb sh sl eh el sp st s w hN b1 b2 b3 b4 b5 b6 i3 hi3 hz3 hs3 hb3 B hvals' hvn' hkz' hby' hread' hgt b8 m8 _ w1 hB' w2 wc u18 u66 u67 u68 u69 u70 u71 u72 u73 hmf w3 h C hCB hbase3 hC' w4 u21 u82 u83 u84 u85 u86 u87 u88 u89 u90 u91 u92 u93 u94 u95 u96 u97 u98 u99 u100 u101 u102 u103 u104 u105 u106 u107 u108 u109 u110 u111 M g cp u hMN w5 E hgE hMc hCE huq5 hE' l3 e4 e4t hl3b L eL hL0 hL4 u24 u25 u26 u28 u116 u117 u118 u119 u120 u121 u122 u123 u124 u125 u126 u127 u128 u129 u130 u131 u132 u133 u134 u135 u136 u137 u138 u139 u140 u141 u142 u143 u144 u145 u146 u147 u148 u149 u150 u151 u152 u153 u154 u155 u156 u157 u158 u159 u160 u161 u162 u163 u164 u165 u166 r rb rc vr w9 G hEG hbase9 hown9 hruns9 hparts9 hG' _ _ wa hmi0 hba0 hwas _ _ _ _
  go_wp2
  go_loopw [33, 34, 35, 36, 172] (fun _ _ _ _ v172 wr => ∃ (k : Nat) (fo fu fc : MF), v172 = .int .i64 k ∧ k ≤ M ∧ MI wr G k (fun i => en (u i)) fo fu fc ∧ Below G w9 wr ∧ G + 3 ≤ wr.heap.size) (fun _ _ _ _ v172 _ => M - (intOf v172).toNat)
  case atStart => exact ⟨0, _, _, _, rfl, Nat.zero_le _, hmi0.out, hba0.out, by rw [hwas.out]; exact Nat.le_refl _⟩
  case round =>
    obtain ⟨k, fo, fu, fc, rfl, hkM, hmi, hbel, hsz⟩ := hrel
    have hmi' : Hid (MI wr G k (fun i => en (u i)) fo fu fc) := hmi
    have hbel' : Hid (Below G w9 wr) := hbel
    by_cases hlt : k < M
    · have hd : decide (k < M) = true := decide_eq_true hlt
      obtain ⟨x, hx⟩ : ∃ x, x = u k := ⟨_, rfl⟩
      have hxN : x < N := by rw [hx]; exact huq5.out.dom _ hlt
      have cu : wr.cell? ⟨g, k, none⟩ = some (.int .i64 (x : Nat)) := by rw [hx]; exact urow_get (owns_below hown9.out hbel (by omega)) hlt
      have hbw := hbase9.out.step hbel (by omega)
      have cb := hbw.c0
      obtain ⟨b, off, ea, _, c0, c1, c2, c3, c4, c5⟩ := hbw.rd hread'.out hB'.out x hxN
      rw [ea] at cb
      obtain ⟨hb1, hb2, hb3x, hb4x⟩ := hby'.out x hxN
      have hkz1 := hkz'.out x hxN
      obtain ⟨e, he⟩ : ∃ e, e = en x := ⟨_, rfl⟩
      rw [← he] at c0 c1 c2 c3 c4 c5 hb1 hb2 hb3x hb4x hkz1
      have hek : Hid ((fun i => en (u i)) k = e) := by unfold Hid; rw [he, hx]
      obtain ⟨ky, hi, lo, wh, va, vn, vc, ver⟩ := e
      dsimp only at c0 c1 c2 c3 c4 c5 hb1 hb2 hb3x hb4x hkz1
      have hne : Hid (∀ i, i < k → (en (u i)).key.data.toList ≠ (en (u k)).key.data.toList) := fun i hi => huq5.out.key_ne (by omega) hlt (by omega)
      obtain ⟨ms, hms⟩ : ∃ z, z = wh % 7 := ⟨_, rfl⟩
      have ems : (wh : Int) % 7 = (ms : Int) := by omega
      have emst : Int.tmod (wh : Int) 7 = (ms : Int) := by rw [Int.tmod_eq_emod_of_nonneg (by omega)]; exact ems
      obtain ⟨mk, hmk⟩ : ∃ z, z = ms + 1 := ⟨_, rfl⟩
      have emk : (ms : Int) + 1 = (mk : Int) := by omega
      have hmk7 : mk ≤ 7 := by omega
      have hmk1 : 1 ≤ mk := by omega
      have hmo : Hid (mkOf ⟨ky, hi, lo, wh, va, vn, vc, ver⟩ = mk) := by unfold Hid mkOf; rw [hmk, hms]
      have a1 := and1 mk hmk7
      have a2 := and2 mk hmk7
      have a4 := and4 mk hmk7
      obtain ⟨y1, hy1⟩ : ∃ z, z = x1 mk := ⟨_, rfl⟩
      obtain ⟨y2, hy2⟩ : ∃ z, z = x2 mk := ⟨_, rfl⟩
      obtain ⟨y4, hy4⟩ : ∃ z, z = x4 mk := ⟨_, rfl⟩
      rw [← hy1] at a1
      rw [← hy2] at a2
      rw [← hy4] at a4
      have hy1' : Hid (y1 = x1 mk) := hy1
      have hy2' : Hid (y2 = x2 mk) := hy2
      have hy4' : Hid (y4 = x4 mk) := hy4
      obtain ⟨v1, hv1⟩ : ∃ z, z = (ver + 1) % 18446744073709551616 := ⟨_, rfl⟩
      obtain ⟨v2, hv2⟩ : ∃ z, z = (ver + 2) % 18446744073709551616 := ⟨_, rfl⟩
      have ev1 : IntKind.u64.wrap ((ver : Int) + 1) = (v1 : Int) := by rw [wrap_u64]; omega
      have ev2 : IntKind.u64.wrap ((ver : Int) + 2) = (v2 : Int) := by rw [wrap_u64]; omega
      have hvof : Hid (vOf ⟨ky, hi, lo, wh, va, vn, vc, ver⟩ = if y1 ≠ 0 then ver else if y2 ≠ 0 then v1 else v2) := by
        unfold Hid vOf; rw [hmo.out, hy1, hy2, hv1, hv2]
      obtain ⟨k1, hk1⟩ : ∃ z, z = k + 1 := ⟨_, rfl⟩
      have ek1 : (k : Int) + 1 = (k1 : Int) := by omega
      have hk1' : Hid (k1 = k + 1) := hk1
      have hid : Hid (∀ y, Calls Yba.prog 13 #[.int .u8 (hi : Nat), .int .u8 (lo : Nat)] y fun ex w' => ex = .returned (.agg (idA hi lo)) ∧ Below y.heap.size y w') := fun y => bid_calls hi lo y
      clear hmi hbel hx hbw ea he hms hmk hy1 hy2 hy4 hv1 hv2 hk1
      go_upto_region 38 with (first
        | (go_at_call 13; refine (hid.out _).mono ?_; rintro ex wb ⟨rfl, hqb⟩)
        | ((with_reducible refine wpList_store76 _ (o := ⟨none, Op.store 76 _ _, _, _, _, _⟩) ?_ (.tmp 35) (.tmp 184) ?_ wb.heap.size hi lo _ ?_ ?_ (Blk.new _ _ _) ?_ ?_); (· rfl); (· rfl); (· rfl); (· rfl); (· rfl); intro wd r1 r2))
      have hE0a : Blk wb wr.heap.size 71 #[.string ky, .int .u8 (hi : Nat), .int .u8 (lo : Nat), .int .u8 (wh : Nat), .slice va vn vc, .int .u64 (ver : Nat)] := (Blk.new wr 71 _).below hqb (by simp)
      have hbwr : Below wr.heap.size wr wb := ((Below.refl _ wr).alloc (Nat.le_refl _) _).trans (hqb.mono (by simp))
      have hwb1 : wr.heap.size < wb.heap.size := hE0a.lt
      have hE0 : Blk wd wr.heap.size 71 #[.string ky, .int .u8 (hi : Nat), .int .u8 (lo : Nat), .int .u8 (wh : Nat), .slice va vn vc, .int .u64 (ver : Nat)] := r2.blk (hE0a.alloc _) (by omega)
      have hbwd : Below wr.heap.size wr wd := (hbwr.alloc (by omega) _).trans (r2.below (by omega))
      have hE1' : Hid (Blk wd wb.heap.size 76 (idA hi lo)) := r1
      have hE0' : Hid (Blk wd wr.heap.size 71 #[.string ky, .int .u8 (hi : Nat), .int .u8 (lo : Nat), .int .u8 (wh : Nat), .slice va vn vc, .int .u64 (ver : Nat)]) := hE0
      obtain ⟨e0, he0⟩ : ∃ z, z = wr.heap.size := ⟨_, rfl⟩
      obtain ⟨e1, he1⟩ : ∃ z, z = wb.heap.size := ⟨_, rfl⟩
      have hGe : G ≤ e0 := by omega
      have hbG : Below G w9 wd := hbel'.out.trans (hbwd.mono (by omega))
      rw [← he0] at hE0' hE0
      rw [← he1] at hE1'
      rw [← he0, ← he1]
      have hek2 : en (u k) = ⟨ky, hi, lo, wh, va, vn, vc, ver⟩ := hek.out
      have hrs : Hid (RS w9 G k k k k e0 e1 (fun i => en (u i)) fo fu fc fo fu fc wd) := by
        refine ⟨hmi'.out.toJ.below hbwd, ?_, ?_, hbG, Nat.le_trans hsz hbwd.size⟩
        · show Blk wd e0 71 (entA (en (u k)))
          rw [hek2]; exact hE0
        · show Blk wd e1 76 (idA (en (u k)).hi (en (u k)).lo)
          rw [hek2]; exact hE1'.out
      have hek' : Hid (en (u k) = ⟨ky, hi, lo, wh, va, vn, vc, ver⟩) := hek2
      have d3 : wd.cell? ⟨e0, 3, none⟩ = some (.int .u8 (wh : Nat)) := by rw [hE0.cell]; rfl
      have hrc : Hid (∀ (x : World) n1 n2 n3 f1 f2 f3, RS w9 G k n1 n2 n3 e0 e1 (fun i => en (u i)) fo fu fc f1 f2 f3 x → x.cell? ⟨e0, 0, none⟩ = some (.string ky) ∧ x.cell? ⟨e0, 4, none⟩ = some (.slice va vn vc) ∧ x.cell? ⟨e0, 5, none⟩ = some (.int .u64 (ver : Nat)) ∧ Blk x e1 76 (idA hi lo)) := fun x n1 n2 n3 f1 f2 f3 h => by
        have h1 := h.cells
        have h2 : Blk x e1 76 (idA (en (u k)).hi (en (u k)).lo) := h.a1
        rw [hek2] at h1 h2
        exact ⟨h1.1, h1.2.1, h1.2.2, h2⟩
      clear r1 r2 hE0a hbwr hE0 hbwd hqb he0 he1 hwb1 cb c0 c1 c2 c3 c4 c5 cu hid hek hek2 hE0' hE1' hbG
      go_upto_if 191 with fail
      clear d3
      go_cut [] from 189 to 201 (fun wx => ∃ n1 f1, n1 ≤ k + 1 ∧ RS w9 G k n1 k k e0 e1 (fun i => en (u i)) fo fu fc f1 fu fc wx ∧ (y1 ≠ 0 → Has wx f1 ⟨ky, hi, lo, wh, va, vn, vc, ver⟩ ver) ∧ (y1 = 0 → f1 = fo))
      case first =>
        by_cases hy : y1 = 0
        · have hd1 : ((y1 : Int) != 0) = false := by subst hy; rfl
          go_wp2_with fail
          go_meet
          case rel => exact ⟨k, fo, by omega, hrs.out, fun h => absurd hy h, fun _ => rfl⟩
        · have hd1 : ((y1 : Int) != 0) = true := by simp; omega
          obtain ⟨d0, d4, d5, dI⟩ := hrc.out _ _ _ _ _ _ _ hrs.out
          have dI' : Hid (Blk wd e1 76 (idA hi lo)) := dI
          clear dI
          go_upto_region 41 with (first
            | ((with_reducible refine wpList_load76 _ (o := ⟨some 195, _, _, _, _, _⟩) ?_ (.tmp 35) ?_ e1 hi lo ?_ dI'.out ?_); (· rfl); (· rfl); (· rfl))
            | ((with_reducible refine wpList_build84 _ (o := ⟨some 200, _, _, _, _, _⟩) ?_ (.tmp 195) (.tmp 197) (.tmp 199) ?_ hi lo va vn vc ver ?_ ?_ ?_ ?_); (· rfl); (· rfl); (· rfl); (· rfl); (· rfl))
            | ((with_reducible refine wpList_boxed _ (o := ⟨some 201, _, _, _, _, _⟩) ?_ 84 (.tmp 200) ?_ (heldB hi lo va vn vc ver) ?_ ?_); (· rfl); (· rfl); (· rfl); intro wy hwy; have hmy : Hid (MapIs wy G k fo) := by unfold Hid; rw [hwy]; exact hrs.out.j.o.alloc _)
            | ((with_reducible refine wpList_put80 _ (o := ⟨none, _, _, _, _, _⟩) ?_ (.tmp 192) (.tmp 194) (.tmp 201) ?_ G k wd.heap.size fo ky ?_ ?_ ?_ hmy.out ?_ hkz1 ?_); (· rfl); (· rfl); (· rfl); (· rfl); (· rfl); (· unfold maxLen; omega); intro wz hmz hgz; have hmz' : Hid (MapIs wz G (k + 1) (updM fo ky.data.toList wd.heap.size)) := hmz; have hgz' : Hid (wy.grownBy wz (some (G))) := hgz; have hwy' : Hid (wy = wd.alloc (.cells (heldB hi lo va vn vc ver) 84)) := hwy; clear hmz hgz hwy))
          have hfin := hrs.out.put1 hek'.out hwy'.out hmz'.out hgz'.out
          go_meet
          case rel => exact ⟨k + 1, _, Nat.le_refl _, hfin.1, fun _ => ⟨_, updM_self, hfin.2.1⟩, fun h => absurd h hy⟩
      case rest =>
        obtain ⟨n1, f1, hn1, hrs1, hh1, hz1⟩ := hcut
        obtain ⟨wq, rfl⟩ : ∃ x, x = wc := ⟨_, rfl⟩
        have hrs1' : Hid (RS w9 G k n1 k k e0 e1 (fun i => en (u i)) fo fu fc f1 fu fc wq) := hrs1
        have hh1' : Hid (y1 ≠ 0 → Has wq f1 ⟨ky, hi, lo, wh, va, vn, vc, ver⟩ ver) := hh1
        have hz1' : Hid (y1 = 0 → f1 = fo) := hz1
        clear hrs1 hh1 hz1
        go_upto_if 204 with fail
        go_cut [] from 202 to 215 (fun wx => ∃ n2 f2, n2 ≤ k + 1 ∧ RS w9 G k n1 n2 k e0 e1 (fun i => en (u i)) fo fu fc f1 f2 fc wx ∧ (y1 ≠ 0 → Has wx f1 ⟨ky, hi, lo, wh, va, vn, vc, ver⟩ ver) ∧ (y2 ≠ 0 → Has wx f2 ⟨ky, hi, lo, wh, va, vn, vc, ver⟩ v1) ∧ (y2 = 0 → f2 = fu))
        case first =>
          by_cases hy : y2 = 0
          · have hd1 : ((y2 : Int) != 0) = false := by subst hy; rfl
            go_wp2_with fail
            go_meet
            case rel => exact ⟨k, fu, by omega, hrs1'.out, hh1'.out, fun h => absurd hy h, fun _ => rfl⟩
          · have hd1 : ((y2 : Int) != 0) = true := by simp; omega
            obtain ⟨d0, d4, d5, dI⟩ := hrc.out _ _ _ _ _ _ _ hrs1'.out
            have dI' : Hid (Blk wq e1 76 (idA hi lo)) := dI
            clear dI
            go_upto_region 43 with (first
              | ((with_reducible refine wpList_load76 _ (o := ⟨some 208, _, _, _, _, _⟩) ?_ (.tmp 35) ?_ e1 hi lo ?_ dI'.out ?_); (· rfl); (· rfl); (· rfl))
              | ((with_reducible refine wpList_build84 _ (o := ⟨some 214, _, _, _, _, _⟩) ?_ (.tmp 208) (.tmp 210) (.tmp 213) ?_ hi lo va vn vc v1 ?_ ?_ ?_ ?_); (· rfl); (· rfl); (· rfl); (· rfl); (· rfl))
              | ((with_reducible refine wpList_boxed _ (o := ⟨some 215, _, _, _, _, _⟩) ?_ 84 (.tmp 214) ?_ (heldB hi lo va vn vc v1) ?_ ?_); (· rfl); (· rfl); (· rfl); intro wy hwy; have hmy : Hid (MapIs wy (G + 1) k fu) := by unfold Hid; rw [hwy]; exact hrs1'.out.j.u.alloc _)
              | ((with_reducible refine wpList_put80 _ (o := ⟨none, _, _, _, _, _⟩) ?_ (.tmp 205) (.tmp 207) (.tmp 215) ?_ (G + 1) k wq.heap.size fu ky ?_ ?_ ?_ hmy.out ?_ hkz1 ?_); (· rfl); (· rfl); (· rfl); (· rfl); (· rfl); (· unfold maxLen; omega); intro wz hmz hgz; have hmz' : Hid (MapIs wz (G + 1) (k + 1) (updM fu ky.data.toList wq.heap.size)) := hmz; have hgz' : Hid (wy.grownBy wz (some ((G + 1)))) := hgz; have hwy' : Hid (wy = wq.alloc (.cells (heldB hi lo va vn vc v1) 84)) := hwy; clear hmz hgz hwy))
            have hfin := hrs1'.out.put2 hek'.out hwy'.out hmz'.out hgz'.out
            go_meet
            case rel => exact ⟨k + 1, _, Nat.le_refl _, hfin.1, fun h => (hh1'.out h).keep hfin.2.2, fun _ => ⟨_, updM_self, hfin.2.1⟩, fun h => absurd h hy⟩
        case rest =>
          obtain ⟨n2, f2, hn2, hrs2, hh1, hh2, hz2⟩ := hcut
          obtain ⟨wp, rfl⟩ : ∃ x, x = wc := ⟨_, rfl⟩
          have hrs2' : Hid (RS w9 G k n1 n2 k e0 e1 (fun i => en (u i)) fo fu fc f1 f2 fc wp) := hrs2
          have hh1'' : Hid (y1 ≠ 0 → Has wp f1 ⟨ky, hi, lo, wh, va, vn, vc, ver⟩ ver) := hh1
          have hh2' : Hid (y2 ≠ 0 → Has wp f2 ⟨ky, hi, lo, wh, va, vn, vc, ver⟩ v1) := hh2
          have hz2' : Hid (y2 = 0 → f2 = fu) := hz2
          clear hrs2 hh1 hh2 hz2
          by_cases hy : y4 = 0
          · have hd1 : ((y4 : Int) != 0) = false := by subst hy; rfl
            have hmiN := hrs2'.out.fin (w := wr) hek'.out hmi'.out hn1 hn2 (Nat.le_succ k) hne.out hvof.out hh1''.out hz1'.out hh2'.out hz2'.out (fun c1 c2 => absurd (by rw [← hy4'.out]; exact hy) (bits_some mk hmk1 hmk7 (by rw [← hy1'.out]; exact c1) (by rw [← hy2'.out]; exact c2)))
            have hmiN' : Hid (MI wp G (k + 1) (fun i => en (u i)) f1 f2 fc) := hmiN
            clear hmiN
            have hbelN : Hid (Below G w9 wp) := hrs2'.out.bel
            have hszN : Hid (G + 3 ≤ wp.heap.size) := hrs2'.out.sz
            go_wp2_with fail
            exact ⟨⟨k1, f1, f2, fc, rfl, by have := hk1'.out; omega, by rw [hk1'.out]; exact hmiN'.out, hbelN.out, hszN.out⟩, by have := hk1'.out; simp [intOf]; omega⟩
          · have hd1 : ((y4 : Int) != 0) = true := by simp; omega
            obtain ⟨d0, d4, d5, dI⟩ := hrc.out _ _ _ _ _ _ _ hrs2'.out
            have dI' : Hid (Blk wp e1 76 (idA hi lo)) := dI
            clear dI
            go_wp2_with (first
              | ((with_reducible refine wpList_load76 _ (o := ⟨some 222, _, _, _, _, _⟩) ?_ (.tmp 35) ?_ e1 hi lo ?_ dI'.out ?_); (· rfl); (· rfl); (· rfl))
              | ((with_reducible refine wpList_build84 _ (o := ⟨some 228, _, _, _, _, _⟩) ?_ (.tmp 222) (.tmp 224) (.tmp 227) ?_ hi lo va vn vc v2 ?_ ?_ ?_ ?_); (· rfl); (· rfl); (· rfl); (· rfl); (· rfl))
              | ((with_reducible refine wpList_boxed _ (o := ⟨some 229, _, _, _, _, _⟩) ?_ 84 (.tmp 228) ?_ (heldB hi lo va vn vc v2) ?_ ?_); (· rfl); (· rfl); (· rfl); intro wy hwy; have hmy : Hid (MapIs wy (G + 1 + 1) k fc) := by unfold Hid; rw [hwy]; exact hrs2'.out.j.c.alloc _)
              | ((with_reducible refine wpList_put80 _ (o := ⟨none, _, _, _, _, _⟩) ?_ (.tmp 219) (.tmp 221) (.tmp 229) ?_ (G + 1 + 1) k wp.heap.size fc ky ?_ ?_ ?_ hmy.out ?_ hkz1 ?_); (· rfl); (· rfl); (· rfl); (· rfl); (· rfl); (· unfold maxLen; omega); intro wz hmz hgz; have hmz' : Hid (MapIs wz (G + 1 + 1) (k + 1) (updM fc ky.data.toList wp.heap.size)) := hmz; have hgz' : Hid (wy.grownBy wz (some ((G + 1 + 1)))) := hgz; have hwy' : Hid (wy = wp.alloc (.cells (heldB hi lo va vn vc v2) 84)) := hwy; clear hmz hgz hwy; obtain ⟨hrf, hbf, hkf⟩ := hrs2'.out.put3 hek'.out hwy'.out hmz'.out hgz'.out; have hmiN' : Hid (MI wz G (k + 1) (fun i => en (u i)) f1 f2 (updM fc ky.data.toList wp.heap.size)) := hrf.fin (w := wr) hek'.out hmi'.out hn1 hn2 (Nat.le_refl _) hne.out hvof.out (fun h => (hh1''.out h).keep hkf) hz1'.out (fun h => (hh2'.out h).keep hkf) hz2'.out (fun _ _ => ⟨_, updM_self, hbf⟩); have hbelN : Hid (Below G w9 wz) := hrf.bel; have hszN : Hid (G + 3 ≤ wz.heap.size) := hrf.sz; clear hrf hbf hkf))
            exact ⟨⟨k1, f1, f2, _, rfl, by have := hk1'.out; omega, by rw [hk1'.out]; exact hmiN'.out, hbelN.out, hszN.out⟩, by have := hk1'.out; simp [intOf]; omega⟩
    · have hd : decide (k < M) = false := decide_eq_false hlt
      obtain rfl : k = M := by omega
      clear hmi hbel
      go_wp2
      go_meet
      case rel => exact ⟨fo, fu, fc, hmi'.out, hbel'.out, hsz⟩
end Go.Proofs.Ybulkeeeq
