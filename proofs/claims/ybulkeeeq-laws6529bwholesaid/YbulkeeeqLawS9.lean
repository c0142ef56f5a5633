import Derived.Test.YbulkeeeqLawT
namespace Go.Proofs.Ybulkeeeq
open Go.RowKit
set_option linter.unusedVariables false

set_option maxHeartbeats 20000000 in
set_option maxRecDepth 1000000 in
theorem sec9 : trunkB.owed.g9 := by
  intro N cap a en vb sh sl eh el sp st s w hN b1 b2 b3 b4 b5 b6 i3 hi3 hz3 hs3 hb3 B hvals' hvn' hkz' hby' hread' hgt b8 m8 _ w1 hB' w2 wc u18 u66 u67 u68 u69 u70 u71 u72 u73 hmf w3 h C hCB hbase3 hC' w4 u21 u82 u83 u84 u85 u86 u87 u88 u89 u90 u91 u92 u93 u94 u95 u96 u97 u98 u99 u100 u101 u102 u103 u104 u105 u106 u107 u108 u109 u110 u111 M g cp u hMN w5 E hgE hMc hCE huq5 hE' l3 e4 e4t hl3b L eL hL0 hL4 u24 u25 u26 u28 u116 u117 u118 u119 u120 u121 u122 u123 u124 u125 u126 u127 u128 u129 u130 u131 u132 u133 u134 u135 u136 u137 u138 u139 u140 u141 u142 u143 u144 u145 u146 u147 u148 u149 u150 u151 u152 u153 u154 u155 u156 u157 u158 u159 u160 u161 u162 u163 u164 u165 u166 r rb rc w9 G hEG hparts9 hG' wa hmi0 hba0 hwas u33 u34 u35 u36 u172 u173 u174 u175 u176 u177 u178 u179 u180 u181 u182 u183 u184 u185 u186 u187 u188 u189 u190 u191 u192 u193 u194 u195 u196 u197 u198 u199 u200 u201 u202 u203 u204 u205 u206 u207 u208 u209 u210 u211 u212 u213 u214 u215 u216 u217 u218 u219 u220 u221 u222 u223 u224 u225 u226 u227 u228 u229 u230 fo fu fc wm nb hnb' hGnb ra cR hid _ hwn wn wb wd sB hsn wf wh eB hsn2 lB wk hM6 hr6 p0 gR cR' hp0' hlBe' wl gs wt hgs' T hT' hTl hTG u45 u46 u47 u48 u259 u260 u261 u262 u263 u264 u265 u266 u267 u268 u269 u270 u271 u272 u273 u274 u275 u276 u277 u278 u279 u280 u281 u282 u283 u284 u285 u286 u287 u288 u289 u290 u291 u292 u293 u294 u295 u296 u297 u298 u299 u300 u301 u302 u303 u304 u305 u306 u307 u308 u309 u310 u311 u312 u313 u314 wz aa ca ab cb ag cg n hTB hwi' hn' hbase11 hown11 hruns11 hmi11 hnode11 hgot11 hgown11 hbw11 hnM Z hZ' hTZ _ _ _ _ _ _
  go_wp2
  go_loopw [49, 50, 51, 52, 322] (fun _ _ _ _ v322 wr => ∃ k : Nat, v322 = .int .i64 k ∧ k ≤ n ∧ Below Z wz wr) (fun _ _ _ _ v322 _ => n - (intOf v322).toNat)
  case atStart => exact ⟨0, rfl, Nat.zero_le _, by rw [hZ'.out]; exact Below.refl _ _⟩
  case round =>
    obtain ⟨k, rfl, hkn, hbel⟩ := hrel
    have hbel' : Hid (Below Z wz wr) := hbel
    by_cases hlt : k < n
    · have hd : decide (k < n) = true := decide_eq_true hlt
      obtain ⟨i, ga, gb, gg, hgi, rfl, rfl, rfl, la, lb, lg, ka, kb, k0, k1, k2⟩ := round_reads hn'.out hwi'.out hgown11.out hlt
      rw [← hZ'.out] at la lb lg
      obtain ⟨x, hx⟩ : ∃ x, x = u i := ⟨_, rfl⟩
      have hxN : x < N := by rw [hx]; exact huq5.out.dom _ (gs_lt hgs'.out k i hgi)
      have hbw := hbase11.out.step hbel (by omega)
      have cb0 := hbw.c0
      obtain ⟨b, off, ea, hbl, c0, c1, c2, c3, c4, c5⟩ := hbw.rd hread'.out hB'.out x hxN
      rw [ea] at cb0
      have hvn1 := hvn'.out x hxN
      have hval1 : Hid (Reads wr (en x).va (en x).vn (fun j => .int .u8 (vb x j : Nat))) := (hvals'.out x hxN).below (hbw11.out.trans (hbel.mono (by rw [← hB'.out]; omega)))
      have hex : (fun i => en (u i)) i = en x := by rw [hx]
      (try dsimp only at ka kb k0 k1 k2)
      rw [← hx] at ka kb k0 k1 k2
      obtain ⟨vv, hvv⟩ : ∃ z, z = vOf (en x) := ⟨_, rfl⟩
      rw [← hvv] at kb k2
      obtain ⟨e, he⟩ : ∃ e, e = en x := ⟨_, rfl⟩
      rw [← he] at c0 c1 c2 c3 c4 c5 k0 k1 hvn1 hval1
      obtain ⟨ky, hi, lo, wh, va4, vn, vc, ver⟩ := e
      dsimp only at c0 c1 c2 c3 c4 c5 k0 k1 hvn1 hval1
      have cu : wr.cell? ⟨ga, k, none⟩ = some (.int .i64 (x : Nat)) := by rw [hbel.cell (by exact la)]; exact ka
      obtain ⟨j1, hj1⟩ : ∃ z, z = k + 1 := ⟨_, rfl⟩
      have ej1 : (k : Int) + 1 = (j1 : Int) := by omega
      have hj1' : Hid (j1 = k + 1) := hj1
      have hZr : Z ≤ wr.heap.size := by have := hbel.size; rw [← hZ'.out] at this; exact this
      have hkR : Hid (∀ y, Below wr.heap.size wr y → y.cell? ⟨lB + 1, 0, none⟩ = some (.slice (some ⟨gg, 0, none⟩) n cg) ∧ y.cell? ⟨gg, k * 3, none⟩ = some (.string ky) ∧ y.cell? ⟨gg, k * 3 + 1, none⟩ = some (.slice va4 vn vc) ∧ y.cell? ⟨gg, k * 3 + 2, none⟩ = some (.int .u64 (vv : Nat)) ∧ y.cell? ⟨gb, k, none⟩ = some (.int .u64 (vv : Nat))) := fun y hy => by
        have h3 : Below Z wz y := hbel'.out.trans (hy.mono hZr)
        have hl1 : lB + 1 < Z := by omega
        exact ⟨by rw [(hgot11.out.below h3 hl1).cell]; rfl, by rw [h3.cell (by exact lg)]; exact k0, by rw [h3.cell (by exact lg)]; exact k1, by rw [h3.cell (by exact lg)]; exact k2, by rw [h3.cell (by exact lb)]; exact kb⟩
      have heq : Hid (∀ y, Below wr.heap.size wr y → Calls Yba.prog 18 #[.slice va4 vn vc, .slice va4 vn vc] y fun ex w' => ex = .returned (.bool true) ∧ Draws y w') := fun y hy => equal_same va4 vn vc vc (fun j => vb x j) y hvn1 (hval1.out.below hy)
      clear hbel hx hbw ea hbl hvv he hj1 hex ka kb k0 k1 k2 hgi hvn1 hval1
      go_upto_region 78 with fail
      obtain ⟨e0, he0⟩ : ∃ z, z = wr.heap.size := ⟨_, rfl⟩
      obtain ⟨wq, hwq⟩ : ∃ z, z = wr.alloc (.cells #[.string ky, .int .u8 (hi : Nat), .int .u8 (lo : Nat), .int .u8 (wh : Nat), .slice va4 vn vc, .int .u64 (ver : Nat)] 71) := ⟨_, rfl⟩
      rw [← hwq, ← he0]
      have hbrq : Below wr.heap.size wr wq := by rw [hwq]; exact (Below.refl _ wr).alloc (Nat.le_refl _) _
      have hbox : Blk wq e0 71 #[.string ky, .int .u8 (hi : Nat), .int .u8 (lo : Nat), .int .u8 (wh : Nat), .slice va4 vn vc, .int .u64 (ver : Nat)] := by rw [hwq, he0]; exact Blk.new _ _ _
      obtain ⟨cg0, d0, d1, d2, _⟩ := hkR.out wq hbrq
      have hbox' : Hid (Blk wq e0 71 #[.string ky, .int .u8 (hi : Nat), .int .u8 (lo : Nat), .int .u8 (wh : Nat), .slice va4 vn vc, .int .u64 (ver : Nat)]) := hbox
      have hbrq' : Hid (Below wr.heap.size wr wq) := hbrq
      clear hwq he0 hbrq hbox cb0 c0 c1 c2 c3 c4 c5 cu
      go_upto_region 79 with fail
      obtain ⟨e1, he1⟩ : ∃ z, z = wq.heap.size := ⟨_, rfl⟩
      obtain ⟨ws, hws⟩ : ∃ z, z = wq.alloc (.cells #[.string ky, .slice va4 vn vc, .int .u64 (vv : Nat)] 125) := ⟨_, rfl⟩
      rw [← hws, ← he1]
      have hbqs : Below wq.heap.size wq ws := by rw [hws]; exact (Below.refl _ wq).alloc (Nat.le_refl _) _
      have hbox1 : Blk ws e1 125 #[.string ky, .slice va4 vn vc, .int .u64 (vv : Nat)] := by rw [hws, he1]; exact Blk.new _ _ _
      have hbox0 : Blk ws e0 71 #[.string ky, .int .u8 (hi : Nat), .int .u8 (lo : Nat), .int .u8 (wh : Nat), .slice va4 vn vc, .int .u64 (ver : Nat)] := hbox'.out.below hbqs hbox'.out.lt
      have hbrs : Below wr.heap.size wr ws := hbrq'.out.trans (hbqs.mono hbrq'.out.size)
      obtain ⟨_, _, _, _, f5⟩ := hkR.out ws hbrs
      have f0 : ws.cell? ⟨e1, 0, none⟩ = some (.string ky) := by rw [hbox1.cell]; rfl
      have f1 : ws.cell? ⟨e1, 1, none⟩ = some (.slice va4 vn vc) := by rw [hbox1.cell]; rfl
      have f2 : ws.cell? ⟨e1, 2, none⟩ = some (.int .u64 (vv : Nat)) := by rw [hbox1.cell]; rfl
      have f3 : ws.cell? ⟨e0, 0, none⟩ = some (.string ky) := by rw [hbox0.cell]; rfl
      have f4 : ws.cell? ⟨e0, 4, none⟩ = some (.slice va4 vn vc) := by rw [hbox0.cell]; rfl
      have hbrs' : Hid (Below wr.heap.size wr ws) := hbrs
      clear hws he1 hbqs hbox1 hbox0 hbrs cg0 d0 d1 d2 hbox'
      go_quiet (fail)
      generalize hwv : World.drewN ws _ = wv
      have hbrv : Hid (Below wr.heap.size wr wv) := by rw [← hwv]; exact below_drewN hbrs'.out _
      have f1v : wv.cell? ⟨e1, 1, none⟩ = some (.slice va4 vn vc) := by rw [← hwv]; exact f1
      have f4v : wv.cell? ⟨e0, 4, none⟩ = some (.slice va4 vn vc) := by rw [← hwv]; exact f4
      clear hwv f0 f1 f2 f3 f4 f5
      obtain ⟨zn, hzn⟩ : ∃ z, z = va4.isNone := ⟨_, rfl⟩
      have hnil : ∀ y, (binOp .eql 69 (.slice va4 vn vc) (.slice none 0 0)).run Yba.prog y = .ok (.bool zn) y := fun y => by rw [hzn]; exact nil69 va4 vn vc y
      clear hzn
      go_wp2_with (go_at_call 18; refine (heq.out _ hbrv.out).mono ?_; rintro ex wx ⟨rfl, hdr⟩; have hbx : Hid (Below wr.heap.size wr wx) := hdr.below hbrv.out; clear hdr)
      exact ⟨⟨j1, rfl, by have := hj1'.out; omega, hbel'.out.trans (hbx.out.mono hZr)⟩, by have := hj1'.out; simp [intOf]; omega⟩
    · have hd : decide (k < n) = false := decide_eq_false hlt
      clear hbel
      go_wp2
      go_meet
      case rel => exact hbel'.out
end Go.Proofs.Ybulkeeeq
