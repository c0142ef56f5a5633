import Derived.Test.YbulkeefeDoorBuilt
import Derived.Test.YbulkeefeDoorModel
import Derived.LaidEqlPtr
namespace Go.Proofs.YbulkeefeDoor
open Go.RowKit

theorem sum_facts (S T : Nat) (h : S ≤ 140737488355328) (hT : T ≤ 1048576) : ∃ P Q : Nat, P = S + 10 ∧ Q = T + P ∧ wrap64 ((S : Int) + 10) = (P : Int) ∧ wrap64 ((T : Int) + (P : Int)) = (Q : Int) :=
  ⟨S + 10, T + (S + 10), rfl, rfl, by unfold wrap64; omega, by unfold wrap64; omega⟩

theorem ifaceComp : (Ybad.prog.info? 49).map (·.comparable) = some true := by kernel_rfl
theorem neq_err (w : World) (a : Addr) : (binOp .neq 33 (.iface 49 (.pointer (some a))) (.iface 49 (.pointer (some a)))).run Ybad.prog w = .ok (.bool false) w := by
  obtain ⟨i, hi, hc⟩ := Option.map_eq_some_iff.1 ifaceComp
  obtain ⟨j, hj⟩ : ∃ j, Ybad.prog.info? (Ybad.prog.pointee 49) = some j := Option.isSome_iff_exists.1 (by kernel_rfl)
  simp only [binOp]
  simp [Op.equal, Op.maxDepth, run_equalIn_iface_ptr_same w 9998 a Ybad.underlying33 Ybad.underlying49 hi hc hj]

theorem Reads.draws {w w' : World} {a : Option Addr} {n : Nat} {f : Nat → Value} (hd : Draws w w') (h : Reads w a n f) : Reads w' a n f := by
  obtain ⟨m, rfl⟩ := hd
  exact h
theorem cntS_big {l : List UInt8} {n : Nat} {st1 : Option (List UInt8)} (h : cntS (some l) = (n, st1)) (hb : l.length ≤ 4194304) : n ≤ 4194304 := by
  simp only [cntS] at h
  cases hc : cnt l with
  | none =>
    rw [hc] at h
    obtain ⟨rfl, _⟩ := Prod.mk.inj h
    omega
  | some x =>
    obtain ⟨m, r⟩ := x
    rw [hc] at h
    obtain ⟨rfl, _⟩ := Prod.mk.inj h
    have := cnt_le hc
    omega

theorem strOf_data (s : ByteArray) : strOf s.data.toList = s := by
  unfold strOf
  simp

/-- What was written is read back. -/
theorem names_back (nm : Nat → ByteArray) (k : Nat) (lr l : List UInt8) (n : Nat) (st1 : Option (List UInt8)) (hl : l = encAll (ssOf nm k) lr) (h : cntS (some l) = (n, st1)) (hk : k < 9223372036854775808) (hs : ∀ i, i < k → (nm i).size < 9223372036854775808) :
    n = k ∧ stN st1 n = some lr ∧ ∀ i, i < k → nmV st1 i = .string (nm i) := by
  subst hl
  have hlen : (ssOf nm k).length = k := by simp [ssOf]
  have hall : ∀ s ∈ ssOf nm k, s.length < 9223372036854775808 := by
    intro s hs'
    obtain ⟨i, hi, rfl⟩ := List.mem_map.1 hs'
    exact hs i (List.mem_range.1 hi)
  have hc := cnt_all (ssOf nm k) lr (by omega)
  simp only [cntS, hc] at h
  obtain ⟨h1, rfl⟩ := Prod.mk.inj h
  rw [hlen] at h1
  subst h1
  refine ⟨rfl, ?_, fun i hi => ?_⟩
  · rw [stN_back _ _ hall _ (by omega), List.drop_eq_nil_of_le (by omega)]
    rfl
  · unfold nmV
    rw [nameN_back _ _ hall i (by omega)]
    have : (ssOf nm k)[i]'(by omega) = (nm i).data.toList := by simp [ssOf]
    rw [this, strOf_data]

/-- The world behind NewReader, and what is kept from it on. -/
theorem step3 {w wc w1 w2 w3 : World} {a a1 : Option Addr} {l : List UInt8} {c R g1 n : Nat} {sv : Value} {f : Nat → Value}
    (hbel : Below w.heap.size w wc) (hbys : Bys wc a l) (hby1 : Bys w1 a1 l) (hg : wc.cell? ⟨0, 0, none⟩ = some sv) (hw0 : 0 < w.heap.size) (hoff : ∀ R, wc.heap.size ≤ R → Off a l.length R) (hcap : l.length ≤ c) (hbig : l.length ≤ 4194304)
    (hbel1 : Below wc.heap.size wc w1) (hbel2 : Below w1.heap.size w1 w2) (hrd1 : Reads w2 (some ⟨g1, 0, none⟩) n f) (hR : R = w2.heap.size) (hblk3 : Blk w3 R 42 #[.slice a l.length c, .nilIface]) (hbel3 : Below R w2 w3) :
    (0 < R ∧ w3.cell? ⟨0, 0, none⟩ = some sv ∧ RS w3 R sv (some l)) ∧
    ∀ w4, Below R w3 w4 → Reads w4 (some ⟨g1, 0, none⟩) n f ∧ Bys w4 a1 l ∧ Bys w4 a l ∧ w4.cell? ⟨0, 0, none⟩ = some sv ∧ Below w.heap.size w w4 := by
  have s1 := hbel.size
  have s2 := hbel1.size
  have s3 := hbel2.size
  have hc3 : Below wc.heap.size wc w3 := (hbel1.trans (hbel2.mono s2)).trans (hbel3.mono (by omega))
  have g3 : w3.cell? ⟨0, 0, none⟩ = some sv := by
    have : w3.cell? ⟨0, 0, none⟩ = wc.cell? ⟨0, 0, none⟩ := hc3.cell (by show 0 < wc.heap.size; omega)
    exact this.trans hg
  refine ⟨⟨by omega, g3, a, c, hblk3, hbys.below hc3, hoff R (by omega), hcap, hbig⟩, fun w4 h4 => ?_⟩
  have h24 : Below R w2 w4 := hbel3.trans h4
  have hc4 : Below wc.heap.size wc w4 := hc3.trans (h4.mono (by omega))
  refine ⟨hrd1.below (by rw [← hR]; exact h24), hby1.below (hbel2.trans (h24.mono (by omega))), hbys.below hc4, ?_, hbel.trans (hc4.mono s1)⟩
  have : w4.cell? ⟨0, 0, none⟩ = wc.cell? ⟨0, 0, none⟩ := hc4.cell (by show 0 < wc.heap.size; omega)
  exact this.trans hg

/-- What stands when b is made. -/
structure Made (w wc : World) (nm : Nat → ByteArray) (nn : Nat) (lr : List UInt8) (u : Bool) (vb : Value) (a : Option Addr) (l : List UInt8) (c : Nat) : Prop where
  val : vb = .slice a l.length c
  bys : Bys wc a l
  cap : l.length ≤ c
  nil : a = none → c = 0
  big : l.length ≤ 4194304
  bel : Below w.heap.size w wc
  back : u = true → l = encAll (ssOf nm nn) lr

set_option maxHeartbeats 2000000 in
set_option maxRecDepth 100000 in
theorem law_calls (ar : Option Addr) (cr : Nat) (lr : List UInt8) (nr : Nat) (an : Option Addr) (nn cn : Nat) (nm : Nat → ByteArray) (u : Bool) (am : Addr) (w : World)
    (hnr : Hid (nr = lr.length)) (hr : Bys w ar lr) (hcr : nr ≤ cr) (hnil : Hid (ar = none → cr = 0)) (hn : Reads w an nn (fun i => .string (nm i))) (hrbig : nr ≤ 140737488355328) (hnbig : ∀ i, i < nn → (nm i).size ≤ 140737488355328)
    (hg : w.cell? ⟨0, 0, none⟩ = some (.iface 49 (.pointer (some am)))) :
    Calls Ybad.prog 3 #[.slice ar nr cr, .slice an nn cn, .bool u] w fun e w' => e = .returned (.bool true) ∧ Below w.heap.size w w' := by
  have hw0 : 0 < w.heap.size := lt_of_cell hg
  go_enter Ybad.func3, Ybad.ntmps3
  by_cases hbig : nr > 1048576
  · go_wp2
    go_ret
    exact ⟨rfl, Below.refl _ _⟩
  go_wp2
  go_loop [7, 25] (fun vt vi => ∃ k : Nat, vi = .int .i64 k ∧ vt = .int .i64 (tot nm nr k) ∧ k ≤ nn ∧ tot nm nr k ≤ 1048576)
    (fun _ vi => nn - (intOf vi).toNat)
  case atStart => exact ⟨0, rfl, rfl, Nat.zero_le _, by simp [tot]; omega⟩
  case round =>
    obtain ⟨k, rfl, rfl, hk, ht⟩ := hrel
    by_cases hkn : k < nn
    · obtain ⟨b1, o1, rfl, _, c1'⟩ := hn k hkn
      have hkb : k ≤ 1048576 := by have := tot_len nm nr k; omega
      have hs1 := hnbig k hkn
      have htk : tot nm nr (k + 1) = tot nm nr k + ((nm k).size + 10) := rfl
      obtain ⟨T, hT⟩ : ∃ T, T = tot nm nr k := ⟨_, rfl⟩
      have hT' : Hid (tot nm nr k = T) := hT.symm
      rw [← hT] at ht htk
      rw [← hT]
      have htk' : Hid (tot nm nr (k + 1) = T + ((nm k).size + 10)) := htk
      clear hT htk
      have c1 : w.cell? ⟨b1, o1 + k, none⟩ = some (.string (nm k)) := c1'
      clear c1'
      generalize nm k = s at c1 hs1 htk'
      obtain ⟨P, Q, hP, hQ, hw1, hw2⟩ := sum_facts s.size T hs1 ht
      rw [← hP, ← hQ] at htk'
      clear hs1 hP hQ
      by_cases hbig2 : Q > 1048576
      · go_wp2
        go_ret
        exact ⟨rfl, Below.refl _ _⟩
      · go_wp2
        refine ⟨⟨k + 1, by simp, ?_, by omega, by rw [htk'.out]; omega⟩, by simp [intOf]; omega⟩
        rw [htk'.out, hw2]
    · have hkn' : k = nn := by omega
      subst hkn'
      clear hkn hk
      have htot : Hid (tot nm nr k ≤ 1048576) := ht
      have hlen : k ≤ 1048576 := by have := tot_len nm nr k; omega
      have hsz : ∀ i, i < k → (nm i).size ≤ 1048576 := fun i hi => by have := tot_size nm nr hi; omega
      generalize tot nm nr k = T
      clear ht hnbig
      go_upto_if 37 with fail
      go_cut [10, 12] from 19 (fun vb _ wc => ∃ a l c, Made w wc nm k lr u vb a l c)
      case first =>
        cases u
        · go_wp2
          go_meet
          case rel => exact ⟨ar, lr, cr, by rw [hnr.out], hr, by have := hnr.out; omega, hnil.out, by have := hnr.out; omega, Below.refl _ _, fun e => by cases e⟩
        · obtain ⟨i0, hi, hz0, hz1, hz2⟩ := info_parts info5
          go_wp2_with (go_at_call 4; refine (put_calls w.heap.size 0 k (by omega) (.slice none 0 0) [] _ (World.ownsRow_nil _ _ _ _) (Nat.le_refl _) (by omega)).mono ?_; rintro e w1 ⟨v1, rfl, hown1, hb1⟩)
          go_loopw [10, 44] (fun vb vi wr => ∃ j : Nat, vi = .int .i64 j ∧ j ≤ k ∧ wr.ownsRow w.heap.size 5 1 vb (preK nm k j).length (Lib.byteCells (preK nm k j)) ∧ Below w.heap.size w wr)
            (fun _ vi _ => k - (intOf vi).toNat)
          case atStart => exact ⟨0, rfl, Nat.zero_le _, by simpa [preK, ssOf, encs] using hown1, hb1⟩
          case round =>
            obtain ⟨j, rfl, hj, hownj, hbj⟩ := hrel
            clear hown1 hb1
            have hpl : (preK nm k j).length + nr ≤ 1048586 := by
              have h1 := preK_le nm k nr (by omega) j (fun i hi => by have := hsz i (by omega); omega)
              have h2 := tot_mono nm nr j k hj
              have h3 := htot.out
              omega
            by_cases hjk : j < k
            · obtain ⟨b1, o1, rfl, hb1lt, c1'⟩ := hn j hjk
              have c1 : wr.cell? ⟨b1, o1 + j, none⟩ = some (.string (nm j)) := by rw [hbj.cell (by exact hb1lt)]; exact c1'
              have hs1 := hsz j hjk
              have hpre : Hid (preK nm k (j + 1) = preK nm k j ++ Lib.uvarint (nm j).size ++ (nm j).data.toList) := preK_succ nm k j
              clear c1' hsz
              generalize nm j = s at c1 hs1 hpre
              generalize hpj : preK nm k j = pj at *
              have hBw : w.heap.size ≤ wr.heap.size := hbj.size
              have hul : (Lib.uvarint s.size).length ≤ 10 := Lib.uvarint_length64 (by omega)
              go_wp2_with (first
                | (go_at_call 4; refine (put_calls w.heap.size pj.length s.size (by omega) _ (Lib.byteCells pj) _ hownj hBw (by omega)).mono ?_; rintro e w2 ⟨v2, rfl, hown2, hb2⟩)
                | (at_builtin; refine Lib.wpList_append_own_string _ rfl _ _ 22 9 rfl w.heap.size 5 i0 Ybad.underlying22 Ybad.underlying9 hi hz0 hz1 hz2 _ _ _ rfl hown2 s rfl ?h63 ?hby ?base ?_))
              case h63 => unfold maxLen; omega
              case hby => omega
              case base => have := hb2.size; omega
              intro v3 w3 hown3 hgrow3 _
              have hb3 : Below w.heap.size w w3 := (hbj.trans hb2).grown hgrow3 (by have := hb2.size; omega) (fun q hq => (hown2.lt q hq).1)
              clear hown2 hgrow3
              go_wp2
              have hown4 : w3.ownsRow w.heap.size 5 1 v3 (preK nm k (j + 1)).length (Lib.byteCells (preK nm k (j + 1))) := by
                rw [hpre.out, List.length_append, List.length_append, byteCells_append, byteCells_append, ← strCells_eq, List.append_assoc]
                exact hown3
              first
                | exact ⟨⟨j + 1, by simp, by omega, hown4, hb3⟩, by simp [intOf]; omega⟩
                | ((repeat apply Exists.intro); exact ⟨⟨j + 1, by simp, by omega, hown4, hb3⟩, rfl⟩)
            · have hjk' : j = k := by omega
              subst hjk'
              have hBw : w.heap.size ≤ wr.heap.size := hbj.size
              cases ar with
              | none =>
                have hl0 : lr = [] := by
                  cases lr with
                  | nil => rfl
                  | cons b t => obtain ⟨_, _, e, _⟩ := hr 0 (by simp); cases e
                subst hl0
                have hnr0 : nr = 0 := hnr.out
                subst hnr0
                obtain rfl := hnil.out rfl
                go_wp2_with (at_builtin; refine wpList_append_own_none rfl _ _ 22 rfl w.heap.size 5 i0 1 Ybad.underlying22 hi _ _ _ rfl hownj rfl ?_)
                go_wp2
                go_meet
                case rel =>
                  have he := preK_all nm j []
                  rw [List.append_nil] at he
                  obtain ⟨a, c, hv, hby, hc, hn0⟩ := owns_bys hownj
                  exact ⟨a, preK nm j j, c, hv, hby, hc, hn0, by omega, hbj, fun _ => he⟩
              | some x =>
                have hrr : Reads wr (some x) nr (fun i => .int .u8 ((lr.getD i 0).toNat : Int)) := by rw [hnr.out]; exact hr.below hbj
                go_wp2_with (at_builtin; refine wpList_append_own _ rfl _ _ 22 rfl w.heap.size 5 i0 _ 1 1 Ybad.underlying22 hi hz0 hz1 hz2 rfl (by decide) _ _ _ rfl hownj x nr cr ((List.range nr).map fun i => Value.int .u8 ((lr.getD i 0).toNat : Int)) rfl ?len ?news ?one ?h63 ?hby ?base ?_)
                case len => simp
                case news => exact hrr.news
                case one => exact oneCell_map fun _ => rfl
                case h63 => unfold maxLen; omega
                case hby => omega
                case base => exact hBw
                intro v3 w3 hown3 hgrow3 _
                have hb3 : Below w.heap.size w w3 := hbj.grown hgrow3 hBw (fun q hq => (hownj.lt q hq).1)
                clear hgrow3
                go_wp2
                go_meet
                case rel =>
                  have he := preK_all nm j lr
                  have hown4 : w3.ownsRow w.heap.size 5 1 v3 (preK nm j j ++ lr).length (Lib.byteCells (preK nm j j ++ lr)) := by
                    rw [List.length_append, byteCells_append, byteCells_range lr, ← hnr.out]
                    exact hown3
                  have hln := hnr.out
                  obtain ⟨a, c, hv, hby, hc, hn0⟩ := owns_bys hown4
                  exact ⟨a, preK nm j j ++ lr, c, hv, hby, hc, hn0, by rw [List.length_append]; omega, hb3, fun _ => he⟩
      case rest =>
        obtain ⟨a, l, c, hmade⟩ := hcut
        obtain ⟨rfl, hbys, hcap, hnil2, hbigl, hbel, hback⟩ := hmade
        obtain ⟨n, st1, hst⟩ : ∃ n st1, cntS (some l) = (n, st1) := ⟨_, _, rfl⟩
        have hst' : Hid (cntS (some l) = (n, st1)) := hst
        have hnil2' : Hid (a = none → c = 0) := hnil2
        have hnb : n ≤ 4194304 := cntS_big hst hbigl
        have hk : Hid (u = true → n = k ∧ stN st1 n = some lr ∧ ∀ i, i < k → nmV st1 i = .string (nm i)) := fun e => names_back nm k lr l n st1 (hback e) hst (by omega) (fun i hi => by have := hsz i hi; omega)
        have hwR : Hid (w.heap.size ≤ wc.heap.size) := hbel.size
        have hsz' : Hid (∀ i, i < k → (nm i).size ≤ 1048576) := hsz
        have hback' : Hid (u = true → l = encAll (ssOf nm k) lr) := hback
        clear hst hnil2 hback hsz
        have q23 := fun (w : World) (a : Option Addr) (n c : Nat) => Lib.run_eql_slice_nil (P := Ybad.prog) w 23 9 a n c 0 0 Ybad.underlying23
        have hgc : Hid (wc.cell? ⟨0, 0, none⟩ = some (.iface 49 (.pointer (some am)))) := by
          have : wc.cell? ⟨0, 0, none⟩ = w.cell? ⟨0, 0, none⟩ := hbel.cell (by exact hw0)
          exact this.trans hg
        clear hg
        have hneq := fun w => neq_err w am
        have hoff : ∀ R, wc.heap.size ≤ R → Off a l.length R := by
          intro R hR h0 x hx
          obtain ⟨b, off, e, hlt, _⟩ := hbys 0 h0
          rw [hx] at e
          cases e
          exact Nat.lt_of_lt_of_le hlt hR
        have hoff' : Hid (∀ R, wc.heap.size ≤ R → Off a l.length R) := hoff
        clear hoff
        cases hfin0 : stN st1 n with
        | none =>
         cases u
         · skip
           have hfin : Hid (stN st1 n = none) := hfin0
           clear hfin0 hk
           go_wp2_with (first
             | (go_at_call 5; refine (clone_calls a c l _ hbigl hbys hnil2'.out).mono ?_; rintro e w1 ⟨a1, c1, rfl, hby1, hc1, hbel1⟩)
             | (go_at_call 6; refine (model_calls a1 c1 l n st1 _ hby1 hc1 hbigl hst'.out).mono ?_; rintro e w2 ⟨g1, he2, hrd1, hbel2⟩; rw [hfin.out] at he2; subst he2)
             | (go_at_call 7; refine (newReader_calls a l.length c _).mono ?_; rintro e w3 ⟨rfl, hblk3, hbel3, hsz3⟩; obtain ⟨R, hR⟩ : ∃ R, R = w2.heap.size := ⟨_, rfl⟩; rw [← hR] at hblk3 hbel3 hsz3; rw [← hR]; have hR' : Hid (R = w2.heap.size) := hR; clear hR; have hst3 := step3 hbel hbys hby1 hgc.out hw0 hoff'.out hcap hbigl hbel1 hbel2 hrd1 hR'.out hblk3 hbel3; obtain ⟨hRpos, hg3, hrs3⟩ := hst3.1; have hst3' : Hid _ := hst3.2; clear hst3)
             | (go_at_call 8; refine (readNames_calls R (some l) st1 n 49 (.pointer (some am)) _ hRpos hg3 hrs3 hst' hnb).mono ?_; rintro e w4 ⟨g2, rfl, hrd4, hrs4, hbel4⟩; rw [hfin.out] at hrs4; have hb4 : Blk w4 R 42 #[.slice none 0 0, .iface 49 (.pointer (some am))] := hrs4; clear hrs4)
             | (go_at_call 9; refine (err_calls R _ _ _ hb4).mono ?_; rintro e w5 ⟨rfl, hw5⟩; obtain rfl := hw5.symm; clear hw5; obtain ⟨hrd1', hby1', hbysc', hg4, hbelw⟩ := hst3'.out w4 hbel4)
             | (go_at_call 10; refine (eq_strs (some ⟨g2, 0, none⟩) (some ⟨g1, 0, none⟩) n n n (fun i => strOf (nameN st1 i)) _ hnb hrd4 hrd1').mono ?_; rintro e w6 ⟨rfl, hdr6⟩; have hg6 := hdr6.cell hg4)
             | (go_at_call 11; refine (eq_bytes a a1 c c1 l _ (Reads.draws hdr6 hbysc') (Reads.draws hdr6 hby1')).mono ?_; rintro e w8 ⟨rfl, rfl⟩))
           go_ret
           exact ⟨rfl, hdr6.below hbelw⟩
         · skip
           obtain ⟨hnk, hfs, hnames0⟩ := hk.out rfl
           subst hnk
           have hnames : ∀ i, i < n → nmV st1 i = .string (nm i) := hnames0
           rw [hfs] at hfin0
           cases hfin0
        | some r =>
         cases u
         · skip
           have hfin : Hid (stN st1 n = some r) := hfin0
           clear hfin0 hk
           go_wp2_with (first
             | (go_at_call 5; refine (clone_calls a c l _ hbigl hbys hnil2'.out).mono ?_; rintro e w1 ⟨a1, c1, rfl, hby1, hc1, hbel1⟩)
             | (go_at_call 6; refine (model_calls a1 c1 l n st1 _ hby1 hc1 hbigl hst'.out).mono ?_; rintro e w2 ⟨g1, he2, hrd1, hbel2⟩; rw [hfin.out] at he2; subst he2)
             | (go_at_call 7; refine (newReader_calls a l.length c _).mono ?_; rintro e w3 ⟨rfl, hblk3, hbel3, hsz3⟩; obtain ⟨R, hR⟩ : ∃ R, R = w2.heap.size := ⟨_, rfl⟩; rw [← hR] at hblk3 hbel3 hsz3; rw [← hR]; have hR' : Hid (R = w2.heap.size) := hR; clear hR; have hst3 := step3 hbel hbys hby1 hgc.out hw0 hoff'.out hcap hbigl hbel1 hbel2 hrd1 hR'.out hblk3 hbel3; obtain ⟨hRpos, hg3, hrs3⟩ := hst3.1; have hst3' : Hid _ := hst3.2; clear hst3)
             | (go_at_call 8; refine (readNames_calls R (some l) st1 n 49 (.pointer (some am)) _ hRpos hg3 hrs3 hst' hnb).mono ?_; rintro e w4 ⟨g2, rfl, hrd4, hrs4, hbel4⟩; rw [hfin.out] at hrs4; obtain ⟨a4, c4, hb4, _⟩ := hrs4)
             | (go_at_call 9; refine (err_calls R _ _ _ hb4).mono ?_; rintro e w5 ⟨rfl, hw5⟩; obtain rfl := hw5.symm; clear hw5; obtain ⟨hrd1', hby1', hbysc', hg4, hbelw⟩ := hst3'.out w4 hbel4)
             | (go_at_call 10; refine (eq_strs (some ⟨g2, 0, none⟩) (some ⟨g1, 0, none⟩) n n n (fun i => strOf (nameN st1 i)) _ hnb hrd4 hrd1').mono ?_; rintro e w6 ⟨rfl, hdr6⟩; have hg6 := hdr6.cell hg4)
             | (go_at_call 11; refine (eq_bytes a a1 c c1 l _ (Reads.draws hdr6 hbysc') (Reads.draws hdr6 hby1')).mono ?_; rintro e w8 ⟨rfl, rfl⟩))
           go_ret
           exact ⟨rfl, hdr6.below hbelw⟩
         · skip
           obtain ⟨hnk, hfs, hnames0⟩ := hk.out rfl
           subst hnk
           have hnames : ∀ i, i < n → nmV st1 i = .string (nm i) := hnames0
           clear hnames0 hfs
           have hnames' : Hid (∀ i, i < n → nmV st1 i = .string (nm i)) := hnames
           clear hnames
           have hfin : Hid (stN st1 n = some r) := hfin0
           clear hfin0 hk
           go_wp2_with (first
             | (go_at_call 5; refine (clone_calls a c l _ hbigl hbys hnil2'.out).mono ?_; rintro e w1 ⟨a1, c1, rfl, hby1, hc1, hbel1⟩)
             | (go_at_call 6; refine (model_calls a1 c1 l n st1 _ hby1 hc1 hbigl hst'.out).mono ?_; rintro e w2 ⟨g1, he2, hrd1, hbel2⟩; rw [hfin.out] at he2; subst he2)
             | (go_at_call 7; refine (newReader_calls a l.length c _).mono ?_; rintro e w3 ⟨rfl, hblk3, hbel3, hsz3⟩; obtain ⟨R, hR⟩ : ∃ R, R = w2.heap.size := ⟨_, rfl⟩; rw [← hR] at hblk3 hbel3 hsz3; rw [← hR]; have hR' : Hid (R = w2.heap.size) := hR; clear hR; have hst3 := step3 hbel hbys hby1 hgc.out hw0 hoff'.out hcap hbigl hbel1 hbel2 hrd1 hR'.out hblk3 hbel3; obtain ⟨hRpos, hg3, hrs3⟩ := hst3.1; have hst3' : Hid _ := hst3.2; clear hst3)
             | (go_at_call 8; refine (readNames_calls R (some l) st1 n 49 (.pointer (some am)) _ hRpos hg3 hrs3 hst' hnb).mono ?_; rintro e w4 ⟨g2, rfl, hrd4, hrs4, hbel4⟩; rw [hfin.out] at hrs4; obtain ⟨a4, c4, hb4, _⟩ := hrs4)
             | (go_at_call 9; refine (err_calls R _ _ _ hb4).mono ?_; rintro e w5 ⟨rfl, hw5⟩; obtain rfl := hw5.symm; clear hw5; obtain ⟨hrd1', hby1', hbysc', hg4, hbelw⟩ := hst3'.out w4 hbel4)
             | (go_at_call 10; refine (eq_strs (some ⟨g2, 0, none⟩) an n n cn nm _ hnb (Reads.draws hdr6 (hrd4.congr hnames'.out)) (Reads.draws hdr6 (hn.below hbelw))).mono ?_; rintro e w7 ⟨rfl, hdr7⟩)
             | (go_at_call 10; refine (eq_strs (some ⟨g2, 0, none⟩) (some ⟨g1, 0, none⟩) n n n (fun i => strOf (nameN st1 i)) _ hnb hrd4 hrd1').mono ?_; rintro e w6 ⟨rfl, hdr6⟩; have hg6 := hdr6.cell hg4)
             | (go_at_call 11; refine (eq_bytes a a1 c c1 l _ (Reads.draws hdr7 (Reads.draws hdr6 hbysc')) (Reads.draws hdr7 (Reads.draws hdr6 hby1'))).mono ?_; rintro e w8 ⟨rfl, rfl⟩))
           go_ret
           exact ⟨rfl, hdr7.below (hdr6.below hbelw)⟩
end Go.Proofs.YbulkeefeDoor
