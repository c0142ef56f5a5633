import Derived.Test.YbulkeeeqLawT
namespace Go.Proofs.Ybulkeeeq
open Go.RowKit
set_option linter.unusedVariables false

set_option maxHeartbeats 20000000 in
set_option maxRecDepth 1000000 in
theorem sec4 : trunkB.owed.g4 := by
  intro N cap a en vb sh sl eh el sp st s w hN b1 b2 b3 b4 b5 b6 i3 hi3 hz3 hs3 hb3 B hvals' hvn' hkz' hby' hread' hgt b8 m8 _ w1 hB' w2 wc u18 u66 u67 u68 u69 u70 u71 u72 u73 hmf w3 h C hCB hbase3 hC' w4 u21 u82 u83 u84 u85 u86 u87 u88 u89 u90 u91 u92 u93 u94 u95 u96 u97 u98 u99 u100 u101 u102 u103 u104 u105 u106 u107 u108 u109 u110 u111 M g cp u hMN w5 E hgE hMc hCE hbase5 hown5 huq5 hE' l3 e4 e4t hl3b L eL hL0 hL4 _ _ _ _ _ _ u25 u26 u28 u116 u117 u118 u119 u120 u121 u122 u123 u124 u125 u126 u127 u128 u129 u130 u131 u132 u133 u134 u135 u136 u137 u138 u139 u140 u141 u142 u143 u144 u145 u146 u147 u148 u149 u150 u151 u152 u153 u154 u155 u156 u157 u158 u159 u160 u161 u162 u163 u164 u165 u166 r p rb rc vr hpM wo hruns' hpr' hq0' hbel' hlt hd pl epl q eq1 hqM hpq m em hmr hm4 hplb i79 hi79 hz79 hs79 hb79 i74 hi74 hz74 hs74 hb74 b79 m79 hsl hpl' hpm F hEF hF' _ _ _ w6 _ _ hr0 hB6 _ _ _ _
  go_wp2
  go_loopw [26, 28, 138] (fun v26 _ v138 wx => ∃ k gr cr : Nat, v138 = .int .i64 k ∧ k ≤ m ∧ v26 = .slice (some ⟨gr, 0, none⟩) k cr ∧ wx.ownsRow F 79 21 (.slice (some ⟨gr, 0, none⟩) k cr) k (kids (fun i => en (u i)) p k) ∧ Below F wo wx) (fun _ _ v138 _ => m - (intOf v138).toNat)
  case atStart => exact ⟨0, F, m, rfl, Nat.zero_le _, rfl, hr0.out, hB6.out⟩
  case round =>
    obtain ⟨k, gr, cr, rfl, hkm, rfl, hown, hbx⟩ := hrel
    have hown' : Hid (wr.ownsRow F 79 21 (.slice (some ⟨gr, 0, none⟩) k cr) k (kids (fun i => en (u i)) p k)) := hown
    have hbx' : Hid (Below F wo wr) := hbx
    have hbE : Below E w5 wr := hbel'.out.trans (hbx.mono hEF)
    have hbE' : Hid (Below E w5 wr) := hbE
    have hFw : F ≤ wr.heap.size := by have := hbx.size; rw [← hF'.out] at this; exact this
    by_cases hkl : k < m
    · have hdk : decide (k < m) = true := decide_eq_true hkl
      obtain ⟨x, hx⟩ : ∃ x, x = u (p + k) := ⟨_, rfl⟩
      have hpk : p + k < M := by have := hpm.out; omega
      have hxN : x < N := by rw [hx]; exact huq5.out.dom _ hpk
      have cu : wr.cell? ⟨g, p + k, none⟩ = some (.int .i64 (x : Nat)) := by rw [hx]; exact urow_get (owns_below hown5.out hbE hgE) hpk
      have hbw := hbase5.out.step hbE (by omega)
      have hbB : Hid (∀ y, Below F wo y → Base N cap a w y B) := fun y hy => hbase5.out.step (hbel'.out.trans (hy.mono hEF)) (by omega)
      have hkS : Hid (∀ y, Below F wo y → ∃ b off, a = some ⟨b, off, none⟩ ∧ y.cell? ⟨B, 0, none⟩ = some (.slice (some ⟨b, off, none⟩) N cap) ∧ y.cell? ⟨b, off + x * 6, none⟩ = some (.string (en x).key) ∧ y.cell? ⟨b, off + x * 6 + 1, none⟩ = some (.int .u8 (en x).hi) ∧ y.cell? ⟨b, off + x * 6 + 2, none⟩ = some (.int .u8 (en x).lo)) := fun y hy => by
        have h1 := hbB.out y hy
        have h2 := h1.c0
        obtain ⟨b, off, ea, _, c0, c1, c2, _⟩ := h1.rd hread'.out hB'.out x hxN
        rw [ea] at h2
        exact ⟨b, off, ea, h2, c0, c1, c2⟩
      obtain ⟨b, off, ea, _⟩ := hkS.out wr hbx
      have hkS2 : Hid (∀ y, Below F wo y → y.cell? ⟨B, 0, none⟩ = some (.slice (some ⟨b, off, none⟩) N cap) ∧ y.cell? ⟨b, off + x * 6, none⟩ = some (.string (en x).key) ∧ y.cell? ⟨b, off + x * 6 + 1, none⟩ = some (.int .u8 (en x).hi) ∧ y.cell? ⟨b, off + x * 6 + 2, none⟩ = some (.int .u8 (en x).lo)) := fun y hy => by
        obtain ⟨b', off', ea', h1⟩ := hkS.out y hy
        rw [ea] at ea'
        injection ea' with ea'; injection ea' with e1 e2; subst e1 e2
        exact h1
      obtain ⟨k1, hk1⟩ : ∃ x, x = k + 1 := ⟨_, rfl⟩
      have ek1 : (k : Int) + 1 = (k1 : Int) := by omega
      have hk1' : Hid (k1 = k + 1) := hk1
      obtain ⟨ky, hky⟩ : ∃ z, z = (en x).key := ⟨_, rfl⟩
      obtain ⟨hy, hhy⟩ : ∃ z, z = (en x).hi := ⟨_, rfl⟩
      obtain ⟨ly, hly⟩ : ∃ z, z = (en x).lo := ⟨_, rfl⟩
      rw [← hky, ← hhy, ← hly] at hkS2
      have hkid : Hid (kids (fun i => en (u i)) p k ++ (kidA ky hy ly).toList = kids (fun i => en (u i)) p (k + 1)) := by unfold Hid; rw [kids, hky, hhy, hly, hx]
      have hid : Hid (∀ y, Calls Yba.prog 13 #[.int .u8 (hy : Nat), .int .u8 (ly : Nat)] y fun ex w' => ex = .returned (.agg (idA hy ly)) ∧ Below y.heap.size y w') := fun y => bid_calls hy ly y
      have hxi0 : (0 : Int) ≤ (x : Int) := by omega
      have hxi1 : (x : Int) < (N : Int) := by omega
      have hbld := run_build79 ky hy ly
      clear hown hbx hbE hx hbw hbB hkS hk1 hky hhy hly ea
      go_upto_region 27 with fail
      have hx0 : Hid (Below F wo wr.drew) := hbx'.out.drew
      refine wp_region_held_drew (S := fun y => y.cell? ⟨B, 0, none⟩ = some (.slice (some ⟨b, off, none⟩) N cap) ∧ y.cell? ⟨b, off + x * 6, none⟩ = some (.string ky) ∧ y.cell? ⟨b, off + x * 6 + 1, none⟩ = some (.int .u8 (hy : Nat)) ∧ y.cell? ⟨b, off + x * 6 + 2, none⟩ = some (.int .u8 (ly : Nat))) (by kernel_rfl) (hkS2.out _ hx0.out) (fun hHeld => ?_)
      refine wpAnyH_take (i := 0) (oi := ⟨some 142, _, _, _, _, _⟩) (v := .slice (some ⟨gr, 0, none⟩) k cr) rfl (by kernel_rfl) (by kernel_rfl) (by kernel_rfl) (fun _ _ _ h => h) (Or.inl ⟨by rfl, ?_⟩) hHeld ?_
      · intro wz hSz
        obtain ⟨s1, s2, s3, s4⟩ := hSz
        go_simp
      dsimp only [Act.put, List.setIfInBounds_toArray, List.set_cons_succ, List.set_cons_zero]
      refine wpAnyH_take (i := 1) (oi := ⟨some 143, _, _, _, _, _⟩) (v := .slice (some ⟨b, off, none⟩) N cap) rfl (by kernel_rfl) (by kernel_rfl) (by kernel_rfl) (fun _ _ _ h => h) (Or.inl ⟨by rfl, ?_⟩) hHeld ?_
      · intro wz hSz
        obtain ⟨s1, s2, s3, s4⟩ := hSz
        go_simp
      dsimp only [Act.put, List.setIfInBounds_toArray, List.set_cons_succ, List.set_cons_zero]
      refine wpAnyH_take (i := 2) (oi := ⟨some 144, _, _, _, _, _⟩) (v := .int .i64 (x : Nat)) rfl (by kernel_rfl) (by kernel_rfl) (by kernel_rfl) (fun _ _ _ h => h) (Or.inl ⟨by rfl, ?_⟩) hHeld ?_
      · intro wz hSz
        obtain ⟨s1, s2, s3, s4⟩ := hSz
        go_simp
      dsimp only [Act.put, List.setIfInBounds_toArray, List.set_cons_succ, List.set_cons_zero]
      refine wpAnyH_take (i := 3) (oi := ⟨some 145, _, _, _, _, _⟩) (v := .pointer (some ⟨b, off + x * 6, none⟩)) rfl (by kernel_rfl) (by kernel_rfl) (by kernel_rfl) (fun _ _ _ h => h) (Or.inl ⟨by rfl, ?_⟩) hHeld ?_
      · intro wz hSz
        obtain ⟨s1, s2, s3, s4⟩ := hSz
        go_simp
      dsimp only [Act.put, List.setIfInBounds_toArray, List.set_cons_succ, List.set_cons_zero]
      refine wpAnyH_take (i := 4) (oi := ⟨some 146, _, _, _, _, _⟩) (v := .pointer (some ⟨b, off + x * 6, none⟩)) rfl (by kernel_rfl) (by kernel_rfl) (by kernel_rfl) (fun _ _ _ h => h) (Or.inl ⟨by rfl, ?_⟩) hHeld ?_
      · intro wz hSz
        obtain ⟨s1, s2, s3, s4⟩ := hSz
        go_simp
      dsimp only [Act.put, List.setIfInBounds_toArray, List.set_cons_succ, List.set_cons_zero]
      refine wpAnyH_take (i := 5) (oi := ⟨some 147, _, _, _, _, _⟩) (v := .string ky) rfl (by kernel_rfl) (by kernel_rfl) (by kernel_rfl) (fun _ _ _ h => h) (Or.inl ⟨by rfl, ?_⟩) hHeld ?_
      · intro wz hSz
        obtain ⟨s1, s2, s3, s4⟩ := hSz
        go_simp
      dsimp only [Act.put, List.setIfInBounds_toArray, List.set_cons_succ, List.set_cons_zero]
      refine wpAnyH_take (i := 6) (oi := ⟨some 148, _, _, _, _, _⟩) (v := .slice (some ⟨b, off, none⟩) N cap) rfl (by kernel_rfl) (by kernel_rfl) (by kernel_rfl) (fun _ _ _ h => h) (Or.inl ⟨by rfl, ?_⟩) hHeld ?_
      · intro wz hSz
        obtain ⟨s1, s2, s3, s4⟩ := hSz
        go_simp
      dsimp only [Act.put, List.setIfInBounds_toArray, List.set_cons_succ, List.set_cons_zero]
      refine wpAnyH_take (i := 7) (oi := ⟨some 149, _, _, _, _, _⟩) (v := .int .i64 (x : Nat)) rfl (by kernel_rfl) (by kernel_rfl) (by kernel_rfl) (fun _ _ _ h => h) (Or.inl ⟨by rfl, ?_⟩) hHeld ?_
      · intro wz hSz
        obtain ⟨s1, s2, s3, s4⟩ := hSz
        go_simp
      dsimp only [Act.put, List.setIfInBounds_toArray, List.set_cons_succ, List.set_cons_zero]
      refine wpAnyH_take (i := 8) (oi := ⟨some 150, _, _, _, _, _⟩) (v := .pointer (some ⟨b, off + x * 6, none⟩)) rfl (by kernel_rfl) (by kernel_rfl) (by kernel_rfl) (fun _ _ _ h => h) (Or.inl ⟨by rfl, ?_⟩) hHeld ?_
      · intro wz hSz
        obtain ⟨s1, s2, s3, s4⟩ := hSz
        go_simp
      dsimp only [Act.put, List.setIfInBounds_toArray, List.set_cons_succ, List.set_cons_zero]
      refine wpAnyH_take (i := 9) (oi := ⟨some 151, _, _, _, _, _⟩) (v := .pointer (some ⟨b, off + x * 6 + 1, none⟩)) rfl (by kernel_rfl) (by kernel_rfl) (by kernel_rfl) (fun _ _ _ h => h) (Or.inl ⟨by rfl, ?_⟩) hHeld ?_
      · intro wz hSz
        obtain ⟨s1, s2, s3, s4⟩ := hSz
        go_simp
      dsimp only [Act.put, List.setIfInBounds_toArray, List.set_cons_succ, List.set_cons_zero]
      refine wpAnyH_take (i := 10) (oi := ⟨some 152, _, _, _, _, _⟩) (v := .int .u8 (hy : Nat)) rfl (by kernel_rfl) (by kernel_rfl) (by kernel_rfl) (fun _ _ _ h => h) (Or.inl ⟨by rfl, ?_⟩) hHeld ?_
      · intro wz hSz
        obtain ⟨s1, s2, s3, s4⟩ := hSz
        go_simp
      dsimp only [Act.put, List.setIfInBounds_toArray, List.set_cons_succ, List.set_cons_zero]
      refine wpAnyH_take (i := 11) (oi := ⟨some 153, _, _, _, _, _⟩) (v := .slice (some ⟨b, off, none⟩) N cap) rfl (by kernel_rfl) (by kernel_rfl) (by kernel_rfl) (fun _ _ _ h => h) (Or.inl ⟨by rfl, ?_⟩) hHeld ?_
      · intro wz hSz
        obtain ⟨s1, s2, s3, s4⟩ := hSz
        go_simp
      dsimp only [Act.put, List.setIfInBounds_toArray, List.set_cons_succ, List.set_cons_zero]
      refine wpAnyH_take (i := 12) (oi := ⟨some 154, _, _, _, _, _⟩) (v := .int .i64 (x : Nat)) rfl (by kernel_rfl) (by kernel_rfl) (by kernel_rfl) (fun _ _ _ h => h) (Or.inl ⟨by rfl, ?_⟩) hHeld ?_
      · intro wz hSz
        obtain ⟨s1, s2, s3, s4⟩ := hSz
        go_simp
      dsimp only [Act.put, List.setIfInBounds_toArray, List.set_cons_succ, List.set_cons_zero]
      refine wpAnyH_take (i := 13) (oi := ⟨some 155, _, _, _, _, _⟩) (v := .pointer (some ⟨b, off + x * 6, none⟩)) rfl (by kernel_rfl) (by kernel_rfl) (by kernel_rfl) (fun _ _ _ h => h) (Or.inl ⟨by rfl, ?_⟩) hHeld ?_
      · intro wz hSz
        obtain ⟨s1, s2, s3, s4⟩ := hSz
        go_simp
      dsimp only [Act.put, List.setIfInBounds_toArray, List.set_cons_succ, List.set_cons_zero]
      refine wpAnyH_take (i := 14) (oi := ⟨some 156, _, _, _, _, _⟩) (v := .pointer (some ⟨b, off + x * 6 + 2, none⟩)) rfl (by kernel_rfl) (by kernel_rfl) (by kernel_rfl) (fun _ _ _ h => h) (Or.inl ⟨by rfl, ?_⟩) hHeld ?_
      · intro wz hSz
        obtain ⟨s1, s2, s3, s4⟩ := hSz
        go_simp
      dsimp only [Act.put, List.setIfInBounds_toArray, List.set_cons_succ, List.set_cons_zero]
      refine wpAnyH_take (i := 15) (oi := ⟨some 157, _, _, _, _, _⟩) (v := .int .u8 (ly : Nat)) rfl (by kernel_rfl) (by kernel_rfl) (by kernel_rfl) (fun _ _ _ h => h) (Or.inl ⟨by rfl, ?_⟩) hHeld ?_
      · intro wz hSz
        obtain ⟨s1, s2, s3, s4⟩ := hSz
        go_simp
      dsimp only [Act.put, List.setIfInBounds_toArray, List.set_cons_succ, List.set_cons_zero]
      simp only [List.setIfInBounds_toArray, List.set_cons_zero, List.set_cons_succ]
      obtain ⟨iv, hiv⟩ : ∃ z, z = idA hy ly := ⟨_, rfl⟩
      obtain ⟨kv, hkv⟩ : ∃ z, z = kidA ky hy ly := ⟨_, rfl⟩
      rw [← hiv] at hid hbld
      rw [← hkv] at hbld
      have hkv' : Hid (kv = kidA ky hy ly) := hkv
      have hbld' : Hid (∀ w, (Instr.build 79 #[(0, .string ky), (1, .agg iv)]).run Yba.prog w = .ok (.agg kv) w) := hbld
      clear hiv hkv hbld
      refine wpAnyH_all (rs := [16]) (by kernel_rfl) (by simp) ?_
      intro ii hii
      obtain rfl : ii = 16 := by simpa using hii
      refine wpOp_enter (o := ⟨some 158, _, _, _, _, _⟩) (f := 13) (args := #[.int .u8 (hy : Nat), .int .u8 (ly : Nat)]) rfl (by rfl) (by go_simp) (hid.out _) ?_
      rintro ex w7 ⟨rfl, hq7⟩
      have hx1 : Hid (Below F wo w7) := hx0.out.trans (hq7.mono hFw)
      have hq7' : Hid (Below wr.heap.size wr w7) := ((Below.refl wr.heap.size wr).drew).trans hq7
      have hF7 : Hid (F ≤ w7.heap.size) := Nat.le_trans hFw hq7.size
      have hHeld2 := hkS2.out _ hx1.out
      clear hq7 hHeld
      refine ⟨_, rfl, hHeld2, ?_⟩
      simp only [Act.put, List.setIfInBounds_toArray, List.set_cons_zero, List.set_cons_succ]
      refine wpAnyH_ready (rs := [17]) (by kernel_rfl) (by simp) ?_
      refine AllReadyH.cons (o := ⟨some 159, _, _, _, _, _⟩) rfl (fun K hK => ?_) AllReadyH.nil
      refine step_op79 hbld'.out rfl (.tmp 147) (.tmp 158) rfl rfl rfl ?_
      refine hK.out _ _ hHeld2 (fun _ => ?_)
      clear hK K
      simp only [Act.put, List.setIfInBounds_toArray, List.set_cons_zero, List.set_cons_succ]
      rw [hkv'.out]
      refine wpAnyH_ready (rs := [18]) (by kernel_rfl) (by simp) ?_
      refine AllReadyH.cons (o := ⟨some 160, _, _, _, _, _⟩) rfl (fun K hK => ?_) AllReadyH.nil
      refine step_slice79 (k := ky) (hi := hy) (lo := ly) rfl (.tmp 159) rfl rfl ?_
      refine hK.out _ _ (hkS2.out _ (hx1.out.alloc (hF7.out) _)) (fun hHeld3 => ?_)
      clear hK K hHeld2
      simp only [Act.put, List.setIfInBounds_toArray, List.set_cons_zero, List.set_cons_succ]
      refine wpAnyH_ready (rs := [19]) (by kernel_rfl) (by simp) ?_
      refine AllReadyH.cons (o := ⟨some 161, _, _, _, _, _⟩) rfl (fun K hK => ?_) AllReadyH.nil
      refine step_append_lies _ (by rfl) _ _ _ (by rfl) F 79 i79 _ 21 40 Yba.underlying74 hi79 hz79 hs79 hb79 rfl (by omega) (.slice (some ⟨gr, 0, none⟩) k cr) k (kids (fun i => en (u i)) p k) (by rfl) (by exact (owns_below hown'.out hq7'.out (own_cap hown'.out).2.2).alloc _) ⟨w7.heap.size, 0, none⟩ 1 1 (kidA ky hy ly).toList (by rfl) (by rfl) (World.news_of_block (cs := kidA ky hy ly) (t := 79) (fr := (0, 0)) (heap_alloc_new w7 _)) (kidA_one ky hy ly) (by omega) (by unfold maxLen; omega) (by omega) (by simp; have := hF7.out; omega) (w7.heap.size + 1) (by simp) ?_
      intro g' cr' w8 ho8 hgr8 hat8 hlt8
      have hx2 : Hid (Below F wo w8) := (hx1.out.alloc hF7.out _).grown hgr8 (by simp; have := hF7.out; omega) (fun q e => by simp [Value.ownBlock] at e; subst e; exact (own_cap hown'.out).1)
      refine hK.out _ _ (hkS2.out _ hx2.out) (fun hHeld4 => ?_)
      clear hK K hHeld3
      simp only [Act.put, List.setIfInBounds_toArray, List.set_cons_zero, List.set_cons_succ]
      refine wpAnyH_take (i := 20) (oi := ⟨some 26, _, _, _, _, _⟩) (v := .slice (some ⟨g', 0, none⟩) (k + 1) cr') rfl (by kernel_rfl) (by kernel_rfl) (by kernel_rfl) (fun _ _ _ h => h) (Or.inl ⟨by rfl, ?_⟩) hHeld4 ?_
      · intro wz hSz
        obtain ⟨s1, s2, s3, s4⟩ := hSz
        go_simp
      dsimp only [Act.put, List.setIfInBounds_toArray, List.set_cons_succ, List.set_cons_zero]
      refine wpAnyH_done (by kernel_rfl) ?_ _
      simp only [List.setIfInBounds_toArray, List.set_cons_succ, List.set_cons_zero]
      clear hHeld4
      have ho9 : Hid (w8.ownsRow F 79 21 (.slice (some ⟨g', 0, none⟩) (k + 1) cr') (k + 1) (kids (fun i => en (u i)) p (k + 1))) := by rw [← hkid.out]; exact ho8
      clear ho8 hgr8 hat8 hlt8
      go_wp2
      go_roundw
      case rel => first | exact ⟨k1, g', cr', rfl, by have := hk1'.out; omega, by rw [hk1'.out], by rw [hk1'.out]; exact ho9.out, hx2.out⟩ | ((repeat apply Exists.intro); exact ⟨⟨k1, g', cr', rfl, by have := hk1'.out; omega, by rw [hk1'.out], by rw [hk1'.out]; exact ho9.out, hx2.out⟩, rfl⟩)
      case measure => have := hk1'.out; simp [intOf]; omega
    · have hdk : decide (k < m) = false := decide_eq_false hkl
      obtain rfl : k = m := by omega
      clear hown hbx hbE
      go_wp2
      go_meet
      case rel => exact ⟨gr, cr, rfl, hown'.out, hbx'.out⟩
end Go.Proofs.Ybulkeeeq
