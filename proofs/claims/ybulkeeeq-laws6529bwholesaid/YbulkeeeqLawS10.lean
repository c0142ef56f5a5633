import Derived.Test.YbulkeeeqLawT
namespace Go.Proofs.Ybulkeeeq
open Go.RowKit
set_option linter.unusedVariables false

set_option maxHeartbeats 20000000 in
set_option maxRecDepth 1000000 in
theorem sec10 : trunkB.owed.g10 := by
  intro N cap a en vb sh sl eh el sp st s w hN b1 b2 b3 b4 b5 b6 i3 hi3 hz3 hs3 hb3 B hvals' hvn' hkz' hby' hread' hgt b8 m8 _ w1 hB' w2 wc u18 u66 u67 u68 u69 u70 u71 u72 u73 hmf w3 h C hCB hbase3 hC' w4 u21 u82 u83 u84 u85 u86 u87 u88 u89 u90 u91 u92 u93 u94 u95 u96 u97 u98 u99 u100 u101 u102 u103 u104 u105 u106 u107 u108 u109 u110 u111 M g cp u hMN w5 E hgE hMc hCE huq5 hE' l3 e4 e4t hl3b L eL hL0 hL4 u24 u25 u26 u28 u116 u117 u118 u119 u120 u121 u122 u123 u124 u125 u126 u127 u128 u129 u130 u131 u132 u133 u134 u135 u136 u137 u138 u139 u140 u141 u142 u143 u144 u145 u146 u147 u148 u149 u150 u151 u152 u153 u154 u155 u156 u157 u158 u159 u160 u161 u162 u163 u164 u165 u166 r rb rc w9 G hEG hparts9 hG' wa hmi0 hba0 hwas u33 u34 u35 u36 u172 u173 u174 u175 u176 u177 u178 u179 u180 u181 u182 u183 u184 u185 u186 u187 u188 u189 u190 u191 u192 u193 u194 u195 u196 u197 u198 u199 u200 u201 u202 u203 u204 u205 u206 u207 u208 u209 u210 u211 u212 u213 u214 u215 u216 u217 u218 u219 u220 u221 u222 u223 u224 u225 u226 u227 u228 u229 u230 fo fu fc wm nb hnb' hGnb ra cR hid _ hwn wn wb wd sB hsn wf wh eB hsn2 lB wk hM6 hr6 p0 gR cR' hp0' hlBe' wl gs wt hgs' T hT' hTl hTG u45 u46 u47 u48 u259 u260 u261 u262 u263 u264 u265 u266 u267 u268 u269 u270 u271 u272 u273 u274 u275 u276 u277 u278 u279 u280 u281 u282 u283 u284 u285 u286 u287 u288 u289 u290 u291 u292 u293 u294 u295 u296 u297 u298 u299 u300 u301 u302 u303 u304 u305 u306 u307 u308 u309 u310 u311 u312 u313 u314 wz aa ca ab cb ag cg n hTB hn' hnM Z hZ' hTZ u16 u49 u50 u51 u52 u322 u323 u324 u325 u326 u327 u328 u329 u330 u331 u332 u333 u334 u335 u336 u337 u338 u339 u340 u341 u342 u343 u344 u345 u346 u347 u348 u349 u350 u351 u352 u353 u354 u355 u356 u357 u358 u359 u360 u361 u362 u363 u364 wy Y hZY hbase12 hown12 hruns12 hbw12 z1 z2 z3 hY' _ _ _ _ _ _
  go_wp2
  go_loopw [53, 55, 57, 410] (fun v53 _ _ v410 wr => ∃ q p : Nat, v410 = .int .i64 q ∧ v53 = .int .i64 p ∧ q ≤ r ∧ p = min (q * L) M ∧ Below Y wy wr) (fun _ _ _ v410 _ => r - (intOf v410).toNat)
  case atStart => exact ⟨0, 0, rfl, rfl, Nat.zero_le _, by simp, by rw [hY'.out]; exact Below.refl _ _⟩
  case round =>
    obtain ⟨q, p, rfl, rfl, hqr, hpq, hbel⟩ := hrel
    obtain ⟨wo, rfl⟩ : ∃ x, x = wr := ⟨_, rfl⟩
    have hbel' : Hid (Below Y wy wo) := hbel
    by_cases hlt : q < r
    · have hd : decide (q < r) = true := decide_eq_true hlt
      obtain ⟨gR, cR2, cur, evr, hgb, hgE, hrr⟩ := hruns12.out.rrow (by omega)
      injection evr with e1 e2 e3
      subst e1
      subst e3
      obtain ⟨b, c, hc, hbl, hmc, hkr⟩ := hrr q hlt
      obtain ⟨m, hm⟩ : ∃ z, z = rlen L M q := ⟨_, rfl⟩
      rw [← hm] at hc hmc hkr
      have hgY : gR < Y := by rw [hY'.out]; exact hgb.lt
      have hbY : b < Y := by rw [hY'.out]; exact hbl
      have cr : wo.cell? ⟨gR, q, none⟩ = some (.slice (some ⟨b, 0, none⟩) m c) := by rw [hbel.cell (by exact hgY)]; exact hc
      have hkr' : Hid (KRow wy b m (fun e => en (u (q * L + e)))) := hkr
      have hqL : q * L < M := hparts9.out.each q hlt
      have hpv : p = q * L := by omega
      have hpv' : Hid (p = q * L) := hpv
      have hpmM : p + m ≤ M := by rw [hm]; unfold rlen; omega
      obtain ⟨pm, hpm⟩ : ∃ z, z = p + m := ⟨_, rfl⟩
      have hpm2 : Hid (pm = min ((q + 1) * L) M) := by
        have h1 : (q + 1) * L = q * L + L := by rw [Nat.add_mul, Nat.one_mul]
        unfold Hid; rw [hpm, hm, h1]; unfold rlen; omega
      have hpm' : Hid (pm = p + m) := hpm
      obtain ⟨q1, hq1⟩ : ∃ z, z = q + 1 := ⟨_, rfl⟩
      have eq1 : (q : Int) + 1 = (q1 : Int) := by omega
      have hq1' : Hid (q1 = q + 1) := hq1
      have hM6' : Hid (M ≤ 65536) := hM6
      clear hbel hpq hgb hgE hrr hc hbl hkr hm hqL hpv hpm hq1 e2
      go_upto_block 16 with fail
      clear cr
      go_wp2
      go_loopw [53, 57, 416] (fun v53 _ v416 wr => ∃ e f : Nat, v416 = .int .i64 e ∧ v53 = .int .i64 f ∧ e ≤ m ∧ f = p + e ∧ Below Y wy wr) (fun _ _ v416 _ => m - (intOf v416).toNat)
      case atStart => exact ⟨0, p, rfl, rfl, Nat.zero_le _, rfl, hbel'.out⟩
      case round =>
        obtain ⟨e, f, rfl, rfl, hem, hfe, hbx⟩ := hrel
        have hbx' : Hid (Below Y wy wr) := hbx
        have hfe' : Hid (f = p + e) := hfe
        by_cases hle : e < m
        · have hde : decide (e < m) = true := decide_eq_true hle
          have hfM : f < M := by omega
          have hge1 : decide ((M : Int) ≤ (f : Int)) = false := decide_eq_false (by omega)
          have hge2 : decide (M ≤ f) = false := decide_eq_false (by omega)
          obtain ⟨x, hx⟩ : ∃ z, z = u f := ⟨_, rfl⟩
          have hxN : x < N := by rw [hx]; exact huq5.out.dom _ hfM
          have hld : Hid (wr.rangeAt b (e * 21) (kidA (en x).key (en x).hi (en x).lo).toList) := by
            have h1 := (hkr'.out.below hbx hbY) e hle
            have h2 : q * L + e = f := by rw [hfe, hpv'.out]
            dsimp only at h1
            rw [h2, ← hx] at h1
            exact h1
          have hYr : Y ≤ wr.heap.size := by have := hbx.size; rw [← hY'.out] at this; exact this
          obtain ⟨ky, hky⟩ : ∃ z, z = (en x).key := ⟨_, rfl⟩
          obtain ⟨hi, hhi⟩ : ∃ z, z = (en x).hi := ⟨_, rfl⟩
          obtain ⟨lo, hlo⟩ : ∃ z, z = (en x).lo := ⟨_, rfl⟩
          rw [← hky, ← hhi, ← hlo] at hld
          obtain ⟨b0, off, ea, hbl0, _⟩ := (hbase12.out.step hbx (by omega)).rd hread'.out hB'.out x hxN
          have hkR : Hid (∀ y, Below wr.heap.size wr y → y.cell? ⟨B, 0, none⟩ = some (.slice (some ⟨b0, off, none⟩) N cap) ∧ y.cell? ⟨g, f, none⟩ = some (.int .i64 (x : Nat)) ∧ y.cell? ⟨b0, off + x * 6, none⟩ = some (.string ky)) := fun y hy => by
            have h3 : Below Y wy y := hbx'.out.trans (hy.mono hYr)
            have h4 := hbase12.out.step h3 (by omega)
            have h5 := h4.c0
            obtain ⟨b1, off1, ea1, _, c0, _⟩ := h4.rd hread'.out hB'.out x hxN
            rw [ea] at ea1 h5
            injection ea1 with ea1
            injection ea1 with e1 e2
            subst e1 e2
            exact ⟨h5, by rw [hx]; exact urow_get (owns_below hown12.out h3 (by omega)) hfM, by rw [hky]; exact c0⟩
          obtain ⟨e1, he1⟩ : ∃ z, z = e + 1 := ⟨_, rfl⟩
          have ee1 : (e : Int) + 1 = (e1 : Int) := by omega
          have he1' : Hid (e1 = e + 1) := he1
          obtain ⟨f1, hf1⟩ : ∃ z, z = f + 1 := ⟨_, rfl⟩
          have ef1 : (f : Int) + 1 = (f1 : Int) := by omega
          have hf1' : Hid (f1 = f + 1) := hf1
          clear hbx hfe hx hky hhi hlo ea hbl0 he1 hf1
          go_upto_region 93 with (first
            | ((with_reducible refine wpList_load79 _ (o := ⟨some 419, _, _, _, _, _⟩) ?_ (.tmp 418) ?_ b (e * 21) hi lo ky ?_ hld.out ?_); (· rfl); (· rfl); (· (first | rfl | simp [Act.eval])))
            | ((with_reducible refine wpList_store79 _ (o := ⟨none, Op.store 79 _ _, _, _, _, _⟩) ?_ (.tmp 57) (.tmp 419) ?_ wr.heap.size hi lo ky _ ?_ ?_ (Blk.new _ _ _) ?_ ?_); (· rfl); (· rfl); (· rfl); (· rfl); (· rfl); intro w5 r1 r2))
          have hb5 : Below wr.heap.size wr w5 := ((Below.refl _ wr).alloc (Nat.le_refl _) _).trans (r2.below (Nat.le_refl _))
          have hb5' : Hid (Below wr.heap.size wr w5) := hb5
          obtain ⟨cb, cu, c0⟩ := hkR.out w5 hb5
          obtain ⟨e0, he0⟩ : ∃ z, z = wr.heap.size := ⟨_, rfl⟩
          rw [← he0] at r1
          rw [← he0]
          have f0 : w5.cell? ⟨e0, 0, none⟩ = some (.string ky) := by rw [r1.cell]; rfl
          clear hb5 r1 r2 he0
          go_region_held3 (fun y => y.cell? ⟨B, 0, none⟩ = some (.slice (some ⟨b0, off, none⟩) N cap) ∧ y.cell? ⟨g, f, none⟩ = some (.int .i64 (x : Nat)) ∧ y.cell? ⟨b0, off + x * 6, none⟩ = some (.string ky) ∧ y.cell? ⟨e0, 0, none⟩ = some (.string ky)) (exact ⟨cb, cu, c0, f0⟩) (fail)
          clear cb cu c0 f0
          have hbv : Hid (Below Y wy w5.drew) := (hbx'.out.trans (hb5'.out.mono hYr)).drew
          go_wp2_with fail
          exact ⟨⟨e1, f1, rfl, rfl, by have := he1'.out; omega, by have h1 := he1'.out; have h2 := hf1'.out; have h3 := hfe'.out; omega, hbv.out⟩, by have := he1'.out; simp [intOf]; omega⟩
        · have hde : decide (e < m) = false := decide_eq_false hle
          obtain rfl : e = m := by omega
          have hfp : Hid (f = pm) := by unfold Hid; rw [hpm'.out]; exact hfe
          clear hbx hfe
          go_wp2
          exact ⟨⟨q1, f, rfl, rfl, by have := hq1'.out; omega, by rw [hq1'.out, hfp.out]; exact hpm2.out, hbx'.out⟩, by have := hq1'.out; simp [intOf]; omega⟩
    · have hd : decide (q < r) = false := decide_eq_false hlt
      obtain rfl : q = r := by omega
      have hpM : Hid (p = M) := by have := hparts9.out.all; unfold Hid; omega
      clear hbel hpq
      go_wp2
      go_meet
      case rel => exact ⟨by rw [hpM.out], hbel'.out⟩
end Go.Proofs.Ybulkeeeq
