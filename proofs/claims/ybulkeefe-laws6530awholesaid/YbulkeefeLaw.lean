import Derived.Test.YbulkeefeSt
namespace Go.Proofs.Ybulkeefe
open Go.RowKit

set_option maxRecDepth 100000 in
set_option maxHeartbeats 4000000 in
theorem law_walk (x : In) (kind : Int) (hv hd : Bool) (fm fg : Nat → ByteArray) (bt : Nat → UInt8) (w : World) (hk0 : 0 ≤ kind) (hk1 : kind ≤ 255)
    (hsz : x.nm + x.ng + x.np ≤ 1048576) (hm : Reads w x.am x.nm (fun i => .string (fm i))) (hg : Reads w x.ag x.ng (fun i => .string (fg i))) (hp : Reads w x.ap x.np (fun i => .int .u8 ((bt i).toNat : Int)))
    (zm : Hid (x.am = none → x.nm = 0 ∧ x.cm = 0)) (zg : Hid (x.ag = none → x.ng = 0 ∧ x.cg = 0)) (zp : Hid (x.ap = none → x.np = 0 ∧ x.cp = 0)) :
    Calls Yba.prog 3 #[.agg #[.int .u8 kind, .bool hv, .bool hd, .string x.vgroup, .string x.vid, .slice x.am x.nm x.cm, .slice x.ag x.ng x.cg, .string x.mgroup, .string x.sender, .slice x.ap x.np x.cp, .string x.name]] w fun e w' => e = .returned (.bool true) ∧ Below w.heap.size w w' := by
  obtain ⟨am, nm, cm, ag, ng, cg, ap, np, cp, vgroup, vid, mgroup, sender, name⟩ := x
  dsimp only at *
  have hd1 : decide ((1048576 : Int) < (nm : Int) + (ng : Int) + (np : Int)) = false := decide_eq_false (by omega)
  go_enter Yba.func3, Yba.ntmps3
  go_wp2_with fail
  have hbA : ∀ o, Below w.heap.size w (w.alloc o) := fun o => (Below.refl _ w).alloc (Nat.le_refl _) o
  have hblk := Blk.new w 25 #[Value.int IntKind.u8 kind, Value.bool hv, Value.bool hd, Value.string vgroup, Value.string vid, Value.slice am nm cm, Value.slice ag ng cg, Value.string mgroup, Value.string sender, Value.slice ap np cp, Value.string name]
  refine (clone_strs_any am nm cm fm _ (by omega) zm (hm.below (hbA _))).mono ?_
  rintro e w1 ⟨am', cm', rfl, enm, rm', hb1⟩
  have hblk1 := hblk.below hb1 (by simp)
  have rm1 := (hm.below (hbA _)).below hb1
  have rg1 := (hg.below (hbA _)).below hb1
  have rp1 := (hp.below (hbA _)).below hb1
  have hbel1 : Below w.heap.size w w1 := (hbA _).trans (hb1.mono (by simp))
  clear hb1 hblk
  have f6 := hblk1.cell 6
  simp at f6
  go_wp2_with fail
  refine (clone_strs_any ag ng cg fg _ (by omega) zg rg1).mono ?_
  rintro e w2 ⟨ag', cg', rfl, eng, rg', hb2⟩
  have hblk2 := hblk1.below hb2 hblk1.lt
  have rm2 := rm1.below hb2
  have rm2' := rm'.below hb2
  have rg2 := rg1.below hb2
  have rp2 := rp1.below hb2
  have hbel2 := hbel1.trans (hb2.mono hbel1.size)
  clear hb2 hblk1 f6 rm1 rm' rg1 rp1 hbel1
  have f9 := hblk2.cell 9
  simp at f9
  go_wp2_with fail
  refine (clone_bytes_any ap np cp bt _ (by omega) zp rp2).mono ?_
  rintro e w3 ⟨ap', cp', rfl, sp3, hb3⟩
  have hblk3 := hblk2.below hb3 hblk2.lt
  have rm3 := rm2.below hb3
  have rm3' := rm2'.below hb3
  have rg3 := rg2.below hb3
  have rg3' := rg'.below hb3
  have hbel3 := hbel2.trans (hb3.mono hbel2.size)
  have hlt3 := hblk3.lt
  clear hb3 hblk2 f9 rm2 rm2' rg2 rp2 hbel2 rg'
  have f0 := hblk3.cell 0
  have f1 := hblk3.cell 1
  have f2 := hblk3.cell 2
  have f3 := hblk3.cell 3
  have f4 := hblk3.cell 4
  have f5 := hblk3.cell 5
  have f6 := hblk3.cell 6
  have f7 := hblk3.cell 7
  have f8 := hblk3.cell 8
  have f9 := hblk3.cell 9
  have f10 := hblk3.cell 10
  simp at f0 f1 f2 f3 f4 f5 f6 f7 f8 f9 f10
  have s1 : w.heap.size < w3.heap.size + 1 := by omega
  have s2 : w.heap.size < w3.heap.size + 1 + 1 := by omega
  have s3 : w.heap.size < w3.heap.size + 1 + 1 + 1 := by omega
  have s4 : w.heap.size < w3.heap.size + 1 + 1 + 1 + 1 := by omega
  have s5 : w.heap.size < w3.heap.size + 1 + 1 + 1 + 1 + 1 := by omega
  have s6 : w.heap.size < w3.heap.size + 1 + 1 + 1 + 1 + 1 + 1 := by omega
  go_upto_region 14 with fail
  go_cut [61] from 20 (fun s wc => s = .bool hv ∧ St w3 wc w.heap.size w3.heap.size #[Value.int IntKind.u8 kind, Value.bool hv, Value.bool hd, Value.string vgroup, Value.string vid, Value.slice am nm cm, Value.slice ag ng cg, Value.string mgroup, Value.string sender, Value.slice ap np cp, Value.string name] #[Value.string vgroup, Value.string vid, Value.slice am nm cm, Value.slice ag ng cg] #[Value.string mgroup, Value.string sender, Value.slice ap np cp] .nilFunc .nilFunc)
  case first =>
    go_wp2
    go_meet
    case rel =>
      refine ⟨rfl, ⟨by simp, ?_, ?_, ?_, ?_, ?_, ?_, ?_, ?_, ?_⟩⟩
      · exact ((((((hblk3.alloc _).alloc _).alloc _).alloc _).alloc _).alloc _).alloc _
      · exact ((((((Blk.new w3 30 _).alloc _).alloc _).alloc _).alloc _).alloc _).alloc _
      · exact (((((Blk.new' _ _ (by simp) 32 _).alloc _).alloc _).alloc _).alloc _).alloc _
      · exact ((((Blk.new' _ _ (by simp) 3 _).alloc _).alloc _).alloc _).alloc _
      · exact (((Blk.new' _ _ (by simp) 30 _).alloc _).alloc _).alloc _
      · exact ((Blk.new' _ _ (by simp) 3 _).alloc _).alloc _
      · exact (Blk.new' _ _ (by simp) 32 _).alloc _
      · exact Blk.new' _ _ (by simp) 36 _
      · exact ((((((((Below.refl _ w3).alloc (Nat.le_refl _) _).alloc (by simp) _).alloc (by simp; omega) _).alloc (by simp; omega) _).alloc (by simp; omega) _).alloc (by simp; omega) _).alloc (by simp; omega) _)
  case rest =>
    obtain ⟨rfl, hs⟩ := hcut
    clear f0 f1 f2 f3 f4 f5 f6 f7 f8 f9 f10 hblk3
    go_upto_if 61 with fail
    go_cut [] from 20 (fun wc => St w3 wc w.heap.size w3.heap.size #[Value.int IntKind.u8 kind, Value.bool hv, Value.bool hd, Value.string vgroup, Value.string vid, Value.slice am nm cm, Value.slice ag ng cg, Value.string mgroup, Value.string sender, Value.slice ap np cp, Value.string name] #[Value.string vgroup, Value.string vid, Value.slice am nm cm, Value.slice ag ng cg] #[Value.string mgroup, Value.string sender, Value.slice ap np cp] (fvOf w3.heap.size hv) .nilFunc)
    case first =>
      have c0 := hs.b13.cell 0
      have z0 := hs.b13.frozen 0
      simp at c0
      cases hv
      · go_wp2
        go_meet
        case rel => exact hs
      · go_wp2
        go_meet
        case rel => exact hs.setFv hlt3 _
    case rest =>
      clear hs
      have hs := hcut
      clear hcut
      have f2 := hs.hin.cell 2
      simp at f2
      go_upto_if 65 with fail
      go_cut [] from 20 (fun wc => St w3 wc w.heap.size w3.heap.size #[Value.int IntKind.u8 kind, Value.bool hv, Value.bool hd, Value.string vgroup, Value.string vid, Value.slice am nm cm, Value.slice ag ng cg, Value.string mgroup, Value.string sender, Value.slice ap np cp, Value.string name] #[Value.string vgroup, Value.string vid, Value.slice am nm cm, Value.slice ag ng cg] #[Value.string mgroup, Value.string sender, Value.slice ap np cp] (fvOf w3.heap.size hv) (fdOf w3.heap.size hd))
      case first =>
        have c0 := hs.b13.cell 1
        have z0 := hs.b13.frozen 1
        simp at c0
        cases hd
        · go_wp2
          go_meet
          case rel => exact hs
        · go_wp2
          go_meet
          case rel => exact hs.setFd hlt3 _
      case rest =>
        clear hs f2
        have hs := hcut
        clear hcut
        have hmc := mkChan
        have f10 := hs.hin.cell 10
        simp at f10
        have l13 := hs.b13.lt
        have h0 := hs.b13.cell 0
        have h1 := hs.b13.cell 1
        simp at h0 h1
        have hsize := hs.size
        have s7 : w.heap.size < w3.heap.size + 1 + 1 + 1 + 1 + 1 + 1 + 1 := by omega
        have hk : 0 ≤ kind % 6 ∧ kind % 6 ≤ 5 := by omega
        generalize kind % 6 = k at *
        have hcls : k = 1 ∨ k = 2 ∨ k = 3 ∨ (k ≠ 1 ∧ k ≠ 2 ∧ k ≠ 3) := by omega
        rcases hcls with hc | hc | hc | ⟨hc1, hc2, hc3⟩
        · subst hc
          cases hv
          · have b7 := hs.b7.cell
            have b8 := hs.b8.cell
            have b70 := b7 0
            have b71 := b7 1
            have b72 := b7 2
            have b73 := b7 3
            have b80 := b8 0
            have b81 := b8 1
            have b82 := b8 2
            clear b7 b8
            simp at b70 b71 b72 b73 b80 b81 b82
            go_wp2_with fail
            refine (handle_view_nil _ vgroup vid mgroup sender _ _ am ag ap nm cm ng cg np cp _ (hs.five _).grp.lt (by rw [(hs.five _).grp.cell]; rfl)).mono ?_
            rintro e w4 ⟨rfl, hb4⟩
            have h5 := (hs.five _).below hb4
            clear hb4
            clear hs hmc f10 l13 h0 h1 hsize s7 b70 b71 b72 b73 b80 b81 b82 s1 s2 s3 s4 s5 s6
            have f1 := h5.hin.cell 1
            have f2 := h5.hin.cell 2
            have f3 := h5.hin.cell 3
            have f4 := h5.hin.cell 4
            have f5 := h5.hin.cell 5
            have f6 := h5.hin.cell 6
            have f7 := h5.hin.cell 7
            have f8 := h5.hin.cell 8
            have f9 := h5.hin.cell 9
            have f10 := h5.hin.cell 10
            have e9 := h5.b9.cell 0
            have e11 := h5.b11.cell 0
            have g1 := h5.grp.cell 1
            have g7 := h5.grp.cell 7
            simp at f1 f2 f3 f4 f5 f6 f7 f8 f9 f10 e9 e11 g1 g7
            go_upto_region 23 with fail
            refine wp_select_default (c := w3.heap.size + 1 + 1 + 1 + 1 + 1 + 1 + 1) (z := .agg #[]) rfl (by simp [go_sem, execOp, Conc.rcase, Act.eval]) h5.ch ?_
            have kch := neq37_same
            go_upto_region 43 with fail
            go_quiet (fail)
            have q1 := below_drewN h5.bel nq
            go_wp2_with fail
            refine (same_strs am am' nm cm cm' fm _ (by omega) enm.symm (rm3.below q1) (rm3'.below q1)).mono ?_
            rintro e w5 ⟨rfl, hd5⟩
            have q2 := hd5.below q1
            have f6' := hd5.cell f6
            have f9' := hd5.cell f9
            clear f6 f9
            go_wp2_with fail
            refine (same_strs ag ag' ng cg cg' fg _ (by omega) eng.symm (rg3.below q2) (rg3'.below q2)).mono ?_
            rintro e w6 ⟨rfl, hd6⟩
            have q3 := hd6.below q2
            have f9 := hd6.cell f9'
            clear f9' f6'
            go_wp2_with fail
            refine (same_bytes ap ap' np cp cp' bt _ (sp3.below q3)).mono ?_
            rintro e w7 ⟨rfl, hw7⟩
            subst hw7
            go_wp2
            go_ret
            exact ⟨rfl, hbel3.trans (q3.mono hbel3.size)⟩
          · have b7 := hs.b7.cell
            have b8 := hs.b8.cell
            have b70 := b7 0
            have b71 := b7 1
            have b72 := b7 2
            have b73 := b7 3
            have b80 := b8 0
            have b81 := b8 1
            have b82 := b8 2
            clear b7 b8
            simp at b70 b71 b72 b73 b80 b81 b82
            go_wp2_with fail
            refine (handle_view _ (w3.heap.size + 1 + 1) (w3.heap.size + 1 + 1 + 1) vgroup vid mgroup sender _ _ am ag ap nm cm ng cg np cp _ _ _ _ _ (hs.five _).grp.lt (by rw [(hs.five _).grp.cell]; rfl) (hs.five _).b9 (hs.five _).b10 (by omega)).mono ?_
            rintro e w4 ⟨rfl, hb9, hb10, hb4⟩
            have h5 := (hs.five _).chgV hlt3 hb4 hb9 hb10
            clear hb4 hb9 hb10
            clear hs hmc f10 l13 h0 h1 hsize s7 b70 b71 b72 b73 b80 b81 b82 s1 s2 s3 s4 s5 s6
            have f1 := h5.hin.cell 1
            have f2 := h5.hin.cell 2
            have f3 := h5.hin.cell 3
            have f4 := h5.hin.cell 4
            have f5 := h5.hin.cell 5
            have f6 := h5.hin.cell 6
            have f7 := h5.hin.cell 7
            have f8 := h5.hin.cell 8
            have f9 := h5.hin.cell 9
            have f10 := h5.hin.cell 10
            have e9 := h5.b9.cell 0
            have e11 := h5.b11.cell 0
            have g1 := h5.grp.cell 1
            have g7 := h5.grp.cell 7
            simp at f1 f2 f3 f4 f5 f6 f7 f8 f9 f10 e9 e11 g1 g7
            have x0 := h5.b10.cell 0
            have x1 := h5.b10.cell 1
            have x2 := h5.b10.cell 2
            have x3 := h5.b10.cell 3
            simp at x0 x1 x2 x3
            go_upto_region 23 with fail
            refine wp_select_default (c := w3.heap.size + 1 + 1 + 1 + 1 + 1 + 1 + 1) (z := .agg #[]) rfl (by simp [go_sem, execOp, Conc.rcase, Act.eval]) h5.ch ?_
            have kch := neq37_same
            go_wp2_with fail
            refine (same_strs am am' nm cm cm' fm _ (by omega) enm.symm (rm3.below h5.bel) (rm3'.below h5.bel)).mono ?_
            rintro e w8 ⟨rfl, hd8⟩
            have q8 := hd8.below h5.bel
            have x3' := hd8.cell x3
            clear x3
            go_wp2_with fail
            refine (same_strs ag ag' ng cg cg' fg _ (by omega) eng.symm (rg3.below q8) (rg3'.below q8)).mono ?_
            rintro e w9 ⟨rfl, hd9⟩
            have q9 := hd9.below q8
            have y5 := hd9.cell (hd8.cell f5)
            have y6 := hd9.cell (hd8.cell f6)
            have y9 := hd9.cell (hd8.cell f9)
            have y10 := hd9.cell (hd8.cell f10)
            have z1 := hd9.cell (hd8.cell g1)
            have z7 := hd9.cell (hd8.cell g7)
            clear f1 f2 f3 f4 f5 f6 f7 f8 f9 f10 e9 e11 g1 g7 x0 x1 x2 x3'
            have f6 := y6
            have f9 := y9
            clear y6 y9
            go_upto_region 43 with fail
            go_quiet (fail)
            have q1 := below_drewN q9 nq
            go_wp2_with fail
            refine (same_strs am am' nm cm cm' fm _ (by omega) enm.symm (rm3.below q1) (rm3'.below q1)).mono ?_
            rintro e w5 ⟨rfl, hd5⟩
            have q2 := hd5.below q1
            have f6' := hd5.cell f6
            have f9' := hd5.cell f9
            clear f6 f9
            go_wp2_with fail
            refine (same_strs ag ag' ng cg cg' fg _ (by omega) eng.symm (rg3.below q2) (rg3'.below q2)).mono ?_
            rintro e w6 ⟨rfl, hd6⟩
            have q3 := hd6.below q2
            have f9 := hd6.cell f9'
            clear f9' f6'
            go_wp2_with fail
            refine (same_bytes ap ap' np cp cp' bt _ (sp3.below q3)).mono ?_
            rintro e w7 ⟨rfl, hw7⟩
            subst hw7
            go_wp2
            go_ret
            exact ⟨rfl, hbel3.trans (q3.mono hbel3.size)⟩
        · subst hc
          cases hd
          · have b7 := hs.b7.cell
            have b8 := hs.b8.cell
            have b70 := b7 0
            have b71 := b7 1
            have b72 := b7 2
            have b73 := b7 3
            have b80 := b8 0
            have b81 := b8 1
            have b82 := b8 2
            clear b7 b8
            simp at b70 b71 b72 b73 b80 b81 b82
            go_wp2_with fail
            refine (handle_msg_nil _ vgroup vid mgroup sender _ _ am ag ap nm cm ng cg np cp _ (hs.five _).grp.lt (by rw [(hs.five _).grp.cell]; rfl)).mono ?_
            rintro e w4 ⟨rfl, hb4⟩
            have h5 := (hs.five _).below hb4
            clear hb4
            clear hs hmc f10 l13 h0 h1 hsize s7 b70 b71 b72 b73 b80 b81 b82 s1 s2 s3 s4 s5 s6
            have f1 := h5.hin.cell 1
            have f2 := h5.hin.cell 2
            have f3 := h5.hin.cell 3
            have f4 := h5.hin.cell 4
            have f5 := h5.hin.cell 5
            have f6 := h5.hin.cell 6
            have f7 := h5.hin.cell 7
            have f8 := h5.hin.cell 8
            have f9 := h5.hin.cell 9
            have f10 := h5.hin.cell 10
            have e9 := h5.b9.cell 0
            have e11 := h5.b11.cell 0
            have g1 := h5.grp.cell 1
            have g7 := h5.grp.cell 7
            simp at f1 f2 f3 f4 f5 f6 f7 f8 f9 f10 e9 e11 g1 g7
            go_upto_region 23 with fail
            refine wp_select_default (c := w3.heap.size + 1 + 1 + 1 + 1 + 1 + 1 + 1) (z := .agg #[]) rfl (by simp [go_sem, execOp, Conc.rcase, Act.eval]) h5.ch ?_
            have kch := neq37_same
            go_upto_region 43 with fail
            go_quiet (fail)
            have q1 := below_drewN h5.bel nq
            go_wp2_with fail
            refine (same_strs am am' nm cm cm' fm _ (by omega) enm.symm (rm3.below q1) (rm3'.below q1)).mono ?_
            rintro e w5 ⟨rfl, hd5⟩
            have q2 := hd5.below q1
            have f6' := hd5.cell f6
            have f9' := hd5.cell f9
            clear f6 f9
            go_wp2_with fail
            refine (same_strs ag ag' ng cg cg' fg _ (by omega) eng.symm (rg3.below q2) (rg3'.below q2)).mono ?_
            rintro e w6 ⟨rfl, hd6⟩
            have q3 := hd6.below q2
            have f9 := hd6.cell f9'
            clear f9' f6'
            go_wp2_with fail
            refine (same_bytes ap ap' np cp cp' bt _ (sp3.below q3)).mono ?_
            rintro e w7 ⟨rfl, hw7⟩
            subst hw7
            go_wp2
            go_ret
            exact ⟨rfl, hbel3.trans (q3.mono hbel3.size)⟩
          · have b7 := hs.b7.cell
            have b8 := hs.b8.cell
            have b70 := b7 0
            have b71 := b7 1
            have b72 := b7 2
            have b73 := b7 3
            have b80 := b8 0
            have b81 := b8 1
            have b82 := b8 2
            clear b7 b8
            simp at b70 b71 b72 b73 b80 b81 b82
            go_wp2_with fail
            refine (handle_msg _ (w3.heap.size + 1 + 1 + 1 + 1) (w3.heap.size + 1 + 1 + 1 + 1 + 1) vgroup vid mgroup sender _ _ am ag ap nm cm ng cg np cp _ _ _ _ (hs.five _).grp.lt (by rw [(hs.five _).grp.cell]; rfl) (hs.five _).b11 (hs.five _).b12 (by omega)).mono ?_
            rintro e w4 ⟨rfl, hb9, hb10, hb4⟩
            have h5 := (hs.five _).chgM hlt3 hb4 hb9 hb10
            clear hb4 hb9 hb10
            clear hs hmc f10 l13 h0 h1 hsize s7 b70 b71 b72 b73 b80 b81 b82 s1 s2 s3 s4 s5 s6
            have f1 := h5.hin.cell 1
            have f2 := h5.hin.cell 2
            have f3 := h5.hin.cell 3
            have f4 := h5.hin.cell 4
            have f5 := h5.hin.cell 5
            have f6 := h5.hin.cell 6
            have f7 := h5.hin.cell 7
            have f8 := h5.hin.cell 8
            have f9 := h5.hin.cell 9
            have f10 := h5.hin.cell 10
            have e9 := h5.b9.cell 0
            have e11 := h5.b11.cell 0
            have g1 := h5.grp.cell 1
            have g7 := h5.grp.cell 7
            simp at f1 f2 f3 f4 f5 f6 f7 f8 f9 f10 e9 e11 g1 g7
            have x0 := h5.b12.cell 0
            have x1 := h5.b12.cell 1
            have x2 := h5.b12.cell 2
            simp at x0 x1 x2
            go_upto_region 23 with fail
            refine wp_select_default (c := w3.heap.size + 1 + 1 + 1 + 1 + 1 + 1 + 1) (z := .agg #[]) rfl (by simp [go_sem, execOp, Conc.rcase, Act.eval]) h5.ch ?_
            have kch := neq37_same
            go_wp2_with fail
            refine (same_bytes ap ap' np cp cp' bt _ (sp3.below h5.bel)).mono ?_
            rintro e w9 ⟨rfl, hw9⟩
            subst hw9
            have q9 := h5.bel
            go_upto_region 43 with fail
            go_quiet (fail)
            have q1 := below_drewN q9 nq
            go_wp2_with fail
            refine (same_strs am am' nm cm cm' fm _ (by omega) enm.symm (rm3.below q1) (rm3'.below q1)).mono ?_
            rintro e w5 ⟨rfl, hd5⟩
            have q2 := hd5.below q1
            have f6' := hd5.cell f6
            have f9' := hd5.cell f9
            clear f6 f9
            go_wp2_with fail
            refine (same_strs ag ag' ng cg cg' fg _ (by omega) eng.symm (rg3.below q2) (rg3'.below q2)).mono ?_
            rintro e w6 ⟨rfl, hd6⟩
            have q3 := hd6.below q2
            have f9 := hd6.cell f9'
            clear f9' f6'
            go_wp2_with fail
            refine (same_bytes ap ap' np cp cp' bt _ (sp3.below q3)).mono ?_
            rintro e w7 ⟨rfl, hw7⟩
            subst hw7
            go_wp2
            go_ret
            exact ⟨rfl, hbel3.trans (q3.mono hbel3.size)⟩
        · subst hc
          have b7 := hs.b7.cell
          have b8 := hs.b8.cell
          have b70 := b7 0
          have b71 := b7 1
          have b72 := b7 2
          have b73 := b7 3
          have b80 := b8 0
          have b81 := b8 1
          have b82 := b8 2
          clear b7 b8
          simp at b70 b71 b72 b73 b80 b81 b82
          go_wp2_with fail
          refine (handle_left _ (w3.heap.size + 1 + 1 + 1 + 1 + 1 + 1 + 1) vgroup vid mgroup sender _ _ am ag ap nm cm ng cg np cp _ (hs.five _).grp.lt (by rw [(hs.five _).grp.cell]; rfl) (hs.five _).ch).mono ?_
          rintro e w4 ⟨rfl, hcc, hb4⟩
          have h5 := (hs.five _).chgC hlt3 hb4 hcc
          clear hb4 hcc
          clear hs hmc f10 l13 h0 h1 hsize s7 b70 b71 b72 b73 b80 b81 b82 s1 s2 s3 s4 s5 s6
          have f1 := h5.hin.cell 1
          have f2 := h5.hin.cell 2
          have f3 := h5.hin.cell 3
          have f4 := h5.hin.cell 4
          have f5 := h5.hin.cell 5
          have f6 := h5.hin.cell 6
          have f7 := h5.hin.cell 7
          have f8 := h5.hin.cell 8
          have f9 := h5.hin.cell 9
          have f10 := h5.hin.cell 10
          have e9 := h5.b9.cell 0
          have e11 := h5.b11.cell 0
          have g1 := h5.grp.cell 1
          have g7 := h5.grp.cell 7
          simp at f1 f2 f3 f4 f5 f6 f7 f8 f9 f10 e9 e11 g1 g7
          go_upto_region 23 with fail
          refine wp_select_shut (c := w3.heap.size + 1 + 1 + 1 + 1 + 1 + 1 + 1) (z := .agg #[]) rfl (by simp [go_sem, execOp, Conc.rcase, Act.eval]) h5.ch ?_
          have kch := neq37_same
          go_upto_region 43 with fail
          go_quiet (fail)
          have q1 := below_drewN h5.bel nq
          go_wp2_with fail
          refine (same_strs am am' nm cm cm' fm _ (by omega) enm.symm (rm3.below q1) (rm3'.below q1)).mono ?_
          rintro e w5 ⟨rfl, hd5⟩
          have q2 := hd5.below q1
          have f6' := hd5.cell f6
          have f9' := hd5.cell f9
          clear f6 f9
          go_wp2_with fail
          refine (same_strs ag ag' ng cg cg' fg _ (by omega) eng.symm (rg3.below q2) (rg3'.below q2)).mono ?_
          rintro e w6 ⟨rfl, hd6⟩
          have q3 := hd6.below q2
          have f9 := hd6.cell f9'
          clear f9' f6'
          go_wp2_with fail
          refine (same_bytes ap ap' np cp cp' bt _ (sp3.below q3)).mono ?_
          rintro e w7 ⟨rfl, hw7⟩
          subst hw7
          go_wp2
          go_ret
          exact ⟨rfl, hbel3.trans (q3.mono hbel3.size)⟩
        · have k1 : (k == 1) = false := by simpa using hc1
          have k2 : (k == 2) = false := by simpa using hc2
          have k3 : (k == 3) = false := by simpa using hc3
          have k3n : (k != 3) = true := by simpa using hc3
          clear hc1 hc2 hc3
          have b7 := hs.b7.cell
          have b8 := hs.b8.cell
          have b70 := b7 0
          have b71 := b7 1
          have b72 := b7 2
          have b73 := b7 3
          have b80 := b8 0
          have b81 := b8 1
          have b82 := b8 2
          clear b7 b8
          simp at b70 b71 b72 b73 b80 b81 b82
          go_wp2_with fail
          refine (handle_other _ k vgroup vid mgroup sender _ _ am ag ap nm cm ng cg np cp _ k1 k2 k3).mono ?_
          rintro e w4 ⟨rfl, hb4⟩
          have h5 := (hs.five _).below hb4
          clear hb4
          clear hs hmc f10 l13 h0 h1 hsize s7 b70 b71 b72 b73 b80 b81 b82 s1 s2 s3 s4 s5 s6
          have f1 := h5.hin.cell 1
          have f2 := h5.hin.cell 2
          have f3 := h5.hin.cell 3
          have f4 := h5.hin.cell 4
          have f5 := h5.hin.cell 5
          have f6 := h5.hin.cell 6
          have f7 := h5.hin.cell 7
          have f8 := h5.hin.cell 8
          have f9 := h5.hin.cell 9
          have f10 := h5.hin.cell 10
          have e9 := h5.b9.cell 0
          have e11 := h5.b11.cell 0
          have g1 := h5.grp.cell 1
          have g7 := h5.grp.cell 7
          simp at f1 f2 f3 f4 f5 f6 f7 f8 f9 f10 e9 e11 g1 g7
          go_upto_region 23 with fail
          refine wp_select_default (c := w3.heap.size + 1 + 1 + 1 + 1 + 1 + 1 + 1) (z := .agg #[]) rfl (by simp [go_sem, execOp, Conc.rcase, Act.eval]) h5.ch ?_
          have kch := neq37_same
          go_upto_region 43 with fail
          go_quiet (fail)
          have q1 := below_drewN h5.bel nq
          go_wp2_with fail
          refine (same_strs am am' nm cm cm' fm _ (by omega) enm.symm (rm3.below q1) (rm3'.below q1)).mono ?_
          rintro e w5 ⟨rfl, hd5⟩
          have q2 := hd5.below q1
          have f6' := hd5.cell f6
          have f9' := hd5.cell f9
          clear f6 f9
          go_wp2_with fail
          refine (same_strs ag ag' ng cg cg' fg _ (by omega) eng.symm (rg3.below q2) (rg3'.below q2)).mono ?_
          rintro e w6 ⟨rfl, hd6⟩
          have q3 := hd6.below q2
          have f9 := hd6.cell f9'
          clear f9' f6'
          go_wp2_with fail
          refine (same_bytes ap ap' np cp cp' bt _ (sp3.below q3)).mono ?_
          rintro e w7 ⟨rfl, hw7⟩
          subst hw7
          go_wp2
          go_ret
          exact ⟨rfl, hbel3.trans (q3.mono hbel3.size)⟩

end Go.Proofs.Ybulkeefe
