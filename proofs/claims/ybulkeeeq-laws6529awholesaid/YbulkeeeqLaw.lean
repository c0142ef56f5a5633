import Derived.Test.YbulkeeeqPreE
namespace Go.Proofs.Ybulkeeeq
open Go.RowKit
set_option linter.unusedVariables false

set_option maxHeartbeats 0 in
set_option maxRecDepth 100000 in
theorem law_main (M : Mdl) (a : Option Addr) (cap k nlb : Nat) (w : World) (hN : M.N ≤ 1024) (hnlb : nlb ≤ 255) (hnl : M.nl = nlb % 4) (hk : k ≤ 255) (hread : IRead M w a) (hla : ∀ i, M.lane i ≤ 255) (hde : ∀ i, M.delta i ≤ 255) (hdd : ∀ i, M.d i ≤ 255) :
    Calls Yba.prog 3 #[.slice a M.N cap, .int .u8 nlb, .int .u8 k, .int .i64 M.start] w fun e w' => e = .returned (.bool true) ∧ Below w.heap.size w w' := by
  obtain ⟨i40, hi40, hz40, hs40, hb40⟩ := info_parts info40
  obtain ⟨i25, hi25, hz25, hs25, hb25⟩ := info_parts info25
  obtain ⟨i4, hi4, hz4, hs4, hb4⟩ := info_parts info4
  obtain ⟨N, hNv⟩ : ∃ x, x = M.N := ⟨_, rfl⟩
  obtain ⟨nl, hnlv⟩ : ∃ x, x = M.nl := ⟨_, rfl⟩
  obtain ⟨start, hstv⟩ : ∃ x, x = M.start := ⟨_, rfl⟩
  rw [← hnlv] at hnl
  rw [← hNv] at hN
  rw [← hNv, ← hstv]
  have hread' : Hid (IRead M w a) := hread
  have hla' : Hid (∀ i, M.lane i ≤ 255) := hla
  have hde' : Hid (∀ i, M.delta i ≤ 255) := hde
  have hdd' : Hid (∀ i, M.d i ≤ 255) := hdd
  have hNv' : Hid (N = M.N) := hNv
  have hnlv' : Hid (nl = M.nl) := hnlv
  have hstv' : Hid (start = M.start) := hstv
  have hnl3 : nl ≤ 3 := by omega
  have e1 : (nlb : Int) % 4 = (nl : Int) := by omega
  have e1t : Int.tmod (nlb : Int) 4 = (nl : Int) := by rw [Int.tmod_eq_emod_of_nonneg (by omega)]; exact e1
  have hgt : decide ((1024 : Int) < (N : Int)) = false := decide_eq_false (by omega)
  obtain ⟨B, hB⟩ : ∃ x, x = w.heap.size := ⟨_, rfl⟩
  clear hread hla hde hdd hNv hnlv hstv hnl
  go_enter Yba.func3, Yba.ntmps3
  go_upto_region 8 with (go_at_call 5; refine (newClock_calls _).mono ?_; rintro ex w1 ⟨rfl, rfl⟩)
  have hB0 : Blk w.drew 0 0 #[] → True := fun _ => trivial
  clear hB0
  have p1 : Blk (((w.alloc (.cells #[.int .i64 start, .slice none 0 0, .slice none 0 0, .int .u64 0, .pointer none, .slice none 0 0] 33)).alloc (.cells #[.pointer (some ⟨w.heap.size, 0, none⟩), .slice none 0 0, .int .i64 N] 37)).alloc (.cells #[.pointer (some ⟨w.heap.size + 1, 0, none⟩)] 34)) w.heap.size 33 #[.int .i64 start, .slice none 0 0, .slice none 0 0, .int .u64 0, .pointer none, .slice none 0 0] := ((Blk.new w _ _).alloc _).alloc _
  have p2 : Blk (((w.alloc (.cells #[.int .i64 start, .slice none 0 0, .slice none 0 0, .int .u64 0, .pointer none, .slice none 0 0] 33)).alloc (.cells #[.pointer (some ⟨w.heap.size, 0, none⟩), .slice none 0 0, .int .i64 N] 37)).alloc (.cells #[.pointer (some ⟨w.heap.size + 1, 0, none⟩)] 34)) (w.heap.size + 1) 37 #[.pointer (some ⟨w.heap.size, 0, none⟩), .slice none 0 0, .int .i64 N] := by
    have := (Blk.new (w.alloc (.cells #[.int .i64 start, .slice none 0 0, .slice none 0 0, .int .u64 0, .pointer none, .slice none 0 0] 33)) 37 #[.pointer (some ⟨w.heap.size, 0, none⟩), .slice none 0 0, .int .i64 N]).alloc (.cells #[.pointer (some ⟨w.heap.size + 1, 0, none⟩)] 34)
    simp at this; exact this
  have p3 : Blk (((w.alloc (.cells #[.int .i64 start, .slice none 0 0, .slice none 0 0, .int .u64 0, .pointer none, .slice none 0 0] 33)).alloc (.cells #[.pointer (some ⟨w.heap.size, 0, none⟩), .slice none 0 0, .int .i64 N] 37)).alloc (.cells #[.pointer (some ⟨w.heap.size + 1, 0, none⟩)] 34)) (w.heap.size + 2) 34 #[.pointer (some ⟨w.heap.size + 1, 0, none⟩)] := by
    have := Blk.new ((w.alloc (.cells #[.int .i64 start, .slice none 0 0, .slice none 0 0, .int .u64 0, .pointer none, .slice none 0 0] 33)).alloc (.cells #[.pointer (some ⟨w.heap.size, 0, none⟩), .slice none 0 0, .int .i64 N] 37)) 34 #[.pointer (some ⟨w.heap.size + 1, 0, none⟩)]
    simp at this; exact this
  have p4 : Below w.heap.size w (((w.alloc (.cells #[.int .i64 start, .slice none 0 0, .slice none 0 0, .int .u64 0, .pointer none, .slice none 0 0] 33)).alloc (.cells #[.pointer (some ⟨w.heap.size, 0, none⟩), .slice none 0 0, .int .i64 N] 37)).alloc (.cells #[.pointer (some ⟨w.heap.size + 1, 0, none⟩)] 34)) := (((Below.refl _ w).alloc (Nat.le_refl _) _).alloc (by simp) _).alloc (by simp; omega) _
  have p5 : (((w.alloc (.cells #[.int .i64 start, .slice none 0 0, .slice none 0 0, .int .u64 0, .pointer none, .slice none 0 0] 33)).alloc (.cells #[.pointer (some ⟨w.heap.size, 0, none⟩), .slice none 0 0, .int .i64 N] 37)).alloc (.cells #[.pointer (some ⟨w.heap.size + 1, 0, none⟩)] 34)).heap.size = w.heap.size + 3 := by simp
  obtain ⟨w3, hw3⟩ : ∃ x, x = (((w.alloc (.cells #[.int .i64 start, .slice none 0 0, .slice none 0 0, .int .u64 0, .pointer none, .slice none 0 0] 33)).alloc (.cells #[.pointer (some ⟨w.heap.size, 0, none⟩), .slice none 0 0, .int .i64 N] 37)).alloc (.cells #[.pointer (some ⟨w.heap.size + 1, 0, none⟩)] 34)) := ⟨_, rfl⟩
  rw [← hw3] at p1 p2 p3 p4 p5 ⊢
  clear hw3
  rw [← hB] at p1 p2 p3 p4 p5 ⊢
  have hB' : Hid (B = w.heap.size) := hB
  clear hB
  have b1 : i40.bytes * nl ≤ 281474976710656 := by rw [hb40]; omega
  have b2 : i25.bytes * nl ≤ 281474976710656 := by rw [hb25]; omega
  have b3 : i4.bytes * nl ≤ 281474976710656 := by rw [hb4]; omega
  have b4 : nl ≤ maxLen := by unfold maxLen; omega
  go_upto_region 9 with (at_make; refine wpList_make_blk (P := Yba.prog) _ rfl _ _ 28 rfl 40 i40 _ 1 Yba.underlying28 hi40 hz40 hs40 .i64 .i64 (nl : Int) (nl : Int) nl nl rfl rfl rfl rfl (Nat.le_refl _) b1 b4 ?_; intro w4 hb4' hs4' hbel4)
  go_upto_region 10 with (at_make; refine wpList_make_blk (P := Yba.prog) _ rfl _ _ 38 rfl 25 i25 _ 1 Yba.underlying38 hi25 hz25 hs25 .i64 .i64 (nl : Int) (nl : Int) nl nl rfl rfl rfl rfl (Nat.le_refl _) b2 b4 ?_; intro w5 hb5' hs5' hbel5)
  go_upto_block 0 with (at_make; refine wpList_make_blk (P := Yba.prog) _ rfl _ _ 39 rfl 4 i4 _ 1 Yba.underlying39 hi4 hz4 hs4 .i64 .i64 (nl : Int) (nl : Int) nl nl rfl rfl rfl rfl (Nat.le_refl _) b3 b4 ?_; intro w6 hb6' hs6' hbel6)
  rw [hs5', hs4', p5] at hb6' hbel6 hs6'
  rw [hs4', p5] at hb5' hbel5 hs5'
  rw [p5] at hb4' hbel4 hs4'
  (try simp only [Nat.add_assoc, Nat.reduceAdd])
  have hpre : Hid (Pre1 B N nl start w w6 0) := by
    have st : ∀ {g : Nat} {T : TypeId} {cs : Array Value}, Blk w3 g T cs → Blk w6 g T cs := fun hb => by
      have h0 := hb.lt
      rw [p5] at h0
      exact ((hb.below hbel4 h0).below hbel5 (by omega)).below hbel6 (by omega)
    refine ⟨st p1, st p2, st p3, ⟨_, hb5'.below hbel6 (by omega), ?_⟩, ⟨_, hb6', ?_, fun j hj => ?_⟩, ⟨_, (hb4'.below hbel5 (by omega)).below hbel6 (by omega), ?_, fun j hj => by omega⟩, fun j hj => by omega, by omega, ((p4.trans (hbel4.mono (by omega))).trans (hbel5.mono (by omega))).trans (hbel6.mono (by omega))⟩
    · show (madeCells #[_] _).size = _; rw [made_size]; omega
    · show (madeCells #[_] _).size = _; rw [made_size]; omega
    · show (madeCells #[_] _)[j]? = _; rw [made_get _ _ _ (by omega)]
    · show (madeCells #[_] _).size = _; rw [made_size]; omega
  clear hb4' hb5' hb6' hbel4 hbel5 hbel6 hs4' hs5' hs6' p1 p2 p3 p4 p5 b1 b2 b3 b4 hi40 hz40 hs40 hb40 hi25 hz25 hs25 hb25 hi4 hz4 hs4 hb4
  go_cut [16] from 62 to 73 (fun _ wc => Pre1 B N nl start w wc nl)
  case first =>
    --[[
    go_wp2
    go_loopw [16] (fun v16 wr => ∃ i : Nat, v16 = .int .i64 i ∧ i ≤ nl ∧ Pre1 B N nl start w wr i) (fun v16 _ => nl - (intOf v16).toNat)
    case atStart => exact ⟨0, rfl, Nat.zero_le _, hpre.out⟩
    case round =>
      obtain ⟨i, rfl, hin, hp⟩ := hrel
      have hp' : Hid (Pre1 B N nl start w wr i) := hp
      by_cases hi : i < nl
      · have hdi : decide (i < nl) = true := decide_eq_true hi
        obtain ⟨_, _, _, _, _, ⟨c6, h6, h6s, _⟩, _, h8, _⟩ := hp
        obtain ⟨y, hy⟩ : ∃ y, wr.cell? ⟨B + 3, i, none⟩ = some y := ⟨_, by rw [h6.cell]; exact Array.getElem?_eq_getElem (by omega)⟩
        have hf := h6.frozen i
        have hlt : B + 3 < wr.heap.size := by omega
        obtain ⟨i1, hi1⟩ : ∃ x, x = i + 1 := ⟨_, rfl⟩
        have ei1 : (i : Int) + 1 = (i1 : Int) := by omega
        have hnext : Hid (Pre1 B N nl start w ((wr.setCell ⟨B + 3, i, none⟩ (.pointer (some ⟨wr.heap.size, 0, none⟩))).alloc (.cells #[.int .i64 i1, .slice none 0 0, .int .i64 0] 42)) (i + 1)) := by have := hp'.out.step hi; rw [← hi1] at this; rw [← hi1]; exact this
        have hsz : Hid (wr.heap.size = B + 6 + i) := h8
        have hi1' : Hid (i1 = i + 1) := hi1
        clear h8 hi1 h6 hp'
        go_wp2
        exact ⟨⟨i + 1, by rw [hi1'.out], hi, hnext.out⟩, by have := hi1'.out; simp [intOf]; omega⟩
      · have hdi : decide (i < nl) = false := decide_eq_false hi
        obtain rfl : i = nl := by omega
        clear hp
        go_wp2
        go_meet
        case rel => exact hp'.out
    --]]
  case rest =>
    have hpre3 : Hid (Pre1 B N nl start w wc nl) := hcut
    have h1 := hcut.1
    have h8 := hcut.2.2.2.2.2.2.2.1
    clear hcut
    have y2 := h1.cell 2
    have f2 := h1.frozen 2
    have hl2 := h1.lt
    simp at y2
    obtain ⟨i56, hi56, hz56, hs56, hb56⟩ := info_parts info56
    obtain ⟨n2, hn2⟩ : ∃ x, x = 2 * N := ⟨_, rfl⟩
    have en2 : 2 * (N : Int) = (n2 : Int) := by omega
    have b56 : i56.bytes * n2 ≤ 281474976710656 := by rw [hb56]; omega
    have m56 : n2 ≤ maxLen := by unfold maxLen; omega
    have hn2' : Hid (n2 = 2 * N) := hn2
    have hn2b : n2 ≤ 2048 := by omega
    obtain ⟨pb, hpb⟩ : ∃ x, x = B + 6 + nl := ⟨_, rfl⟩
    rw [← hpb] at h8
    have hpb' : Hid (pb = B + 6 + nl) := hpb
    have hBpb : B + 6 ≤ pb := by omega
    clear hn2 hpb h1 hpre
    go_upto_block 2 with (at_make; refine wpList_make_blk (P := Yba.prog) _ rfl _ _ 43 rfl 56 i56 _ 5 Yba.underlying43 hi56 hz56 hs56 .i64 .i64 (0 : Int) (n2 : Int) 0 n2 rfl rfl rfl rfl (Nat.zero_le _) b56 m56 ?_; intro w7 hb7 hs7 hbel7)
    have hst : Hid (∃ lcs, (mkX B nl lcs).Ok ∧ L2 M (mkX B nl lcs) B pb w w7 0 mkY) := by
      have hp := hpre3.out
      have hz : (wc.setCell ⟨B, 2, none⟩ (.slice (some ⟨B + 3, 0, none⟩) nl nl)).heap.size = wc.heap.size := by simp [World.setCell]
      rw [hz] at hb7 hs7 hbel7
      have h9 := start_L2 M (by rw [← hNv'.out, ← hnlv'.out, ← hstv'.out]; exact hp) (by rw [← hnlv'.out]; exact hnl3) (by rw [← hnlv'.out]; exact hbel7) hs7 hb7 (by simp [madeCells, Value.cells, ← hNv'.out, hn2'.out])
      rw [← hnlv'.out, ← hpb'.out] at h9
      exact h9
    obtain ⟨lcs, hXo, hL0⟩ := hst.out
    have hXo' : Hid (mkX B nl lcs).Ok := hXo
    have hL0' : Hid (L2 M (mkX B nl lcs) B pb w w7 0 mkY) := hL0
    clear hst hXo hL0 hb7 hs7 hbel7 hi56 hz56 hs56 hb56 b56 m56 y2 f2 hl2 h8 hpre3
    go_cut [17, 18, 19, 20, 21, 22, 23] from 84 to 170 (fun v17 _ _ _ _ _ _ wc => v17 = .slice (some ⟨pb, 0, none⟩) N n2 ∧ ∃ Y, L2 M (mkX B nl lcs) B pb w wc N Y)
    case first =>
      --[[
      go_wp2
      go_loopw [17, 18, 19, 20, 21, 22, 23, 84] (fun v17 _ _ _ _ _ _ v84 wr => ∃ (i : Nat) (Y : Hp), v84 = .int .i64 i ∧ i ≤ N ∧ v17 = .slice (some ⟨pb, 0, none⟩) i n2 ∧ L2 M (mkX B nl lcs) B pb w wr i Y) (fun _ _ _ _ _ _ _ v84 _ => N - (intOf v84).toNat)
      case atStart => exact ⟨0, mkY, rfl, Nat.zero_le _, rfl, hL0'.out⟩
      case round =>
        obtain ⟨i, Y, rfl, hin, rfl, hL⟩ := hrel
        have hL' : Hid (L2 M (mkX B nl lcs) B pb w wr i Y) := hL
        by_cases hi : i < N
        · have hdi : decide (i < N) = true := decide_eq_true hi
          obtain ⟨ib, off, rfl, hibl, r0, r1, r2, r3, r4⟩ := hread'.out i (by rw [← hNv'.out]; exact hi)
          have hBw := hL.2.2.1
          have c0 : wr.cell? ⟨ib, off + i * 5, none⟩ = some (.int .u8 (M.lane i)) := by rw [hBw.cell (by show ib < B; rw [hB'.out]; exact hibl)]; exact r0
          have c1 : wr.cell? ⟨ib, off + i * 5 + 1, none⟩ = some (.int .i64 (M.tm i)) := by rw [hBw.cell (by show ib < B; rw [hB'.out]; exact hibl)]; exact r1
          have c2 : wr.cell? ⟨ib, off + i * 5 + 2, none⟩ = some (.int .u8 (M.delta i)) := by rw [hBw.cell (by show ib < B; rw [hB'.out]; exact hibl)]; exact r2
          have c3 : wr.cell? ⟨ib, off + i * 5 + 3, none⟩ = some (.bool (M.child i)) := by rw [hBw.cell (by show ib < B; rw [hB'.out]; exact hibl)]; exact r3
          have c4 : wr.cell? ⟨ib, off + i * 5 + 4, none⟩ = some (.int .u8 (M.d i)) := by rw [hBw.cell (by show ib < B; rw [hB'.out]; exact hibl)]; exact r4
          have s0 : wr.cell? ⟨B + 2, 0, none⟩ = some (.pointer (some ⟨B + 1, 0, none⟩)) := hL.2.2.2.cell 0
          have hs2 := hL.2.2.2.lt
          have hlane := hla'.out i
          have hdel := hde'.out i
          have hdv := hdd'.out i
          obtain ⟨ln, hln⟩ : ∃ x, x = M.lane i := ⟨_, rfl⟩
          obtain ⟨tm, htm⟩ : ∃ x, x = M.tm i := ⟨_, rfl⟩
          obtain ⟨dl, hdl⟩ : ∃ x, x = M.delta i := ⟨_, rfl⟩
          obtain ⟨ch, hch⟩ : ∃ x, x = M.child i := ⟨_, rfl⟩
          obtain ⟨dv, hdvv⟩ : ∃ x, x = M.d i := ⟨_, rfl⟩
          rw [← hln] at c0 hlane
          rw [← htm] at c1
          rw [← hdl] at c2 hdel
          rw [← hch] at c3
          rw [← hdvv] at c4 hdv
          have hln' : Hid (ln = M.lane i) := hln
          have htm' : Hid (tm = M.tm i) := htm
          have hdl' : Hid (dl = M.delta i) := hdl
          have hch' : Hid (ch = M.child i) := hch
          have hdvv' : Hid (dv = M.d i) := hdvv
          clear r0 r1 r2 r3 r4 hL hL0' hBw hibl hln htm hdl hch hdvv
          go_upto_region 21 with fail
          have hb2 : Below wr.heap.size wr ((wr.alloc (.cells #[.int .u8 ln, .int .i64 tm, .int .u8 dl, .bool ch, .int .u8 dv] 45)).alloc (.cells #[.pointer (some ⟨B + 1, 0, none⟩), .int .i64 i, .bool ch, .int .u8 dv] 48)) := ((Below.refl _ wr).alloc (Nat.le_refl _) _).alloc (by simp) _
          have hE : Blk ((wr.alloc (.cells #[.int .u8 ln, .int .i64 tm, .int .u8 dl, .bool ch, .int .u8 dv] 45)).alloc (.cells #[.pointer (some ⟨B + 1, 0, none⟩), .int .i64 i, .bool ch, .int .u8 dv] 48)) wr.heap.size 45 #[.int .u8 ln, .int .i64 tm, .int .u8 dl, .bool ch, .int .u8 dv] := (Blk.new wr _ _).alloc _
          have hO : Blk ((wr.alloc (.cells #[.int .u8 ln, .int .i64 tm, .int .u8 dl, .bool ch, .int .u8 dv] 45)).alloc (.cells #[.pointer (some ⟨B + 1, 0, none⟩), .int .i64 i, .bool ch, .int .u8 dv] 48)) (wr.heap.size + 1) 48 #[.pointer (some ⟨B + 1, 0, none⟩), .int .i64 i, .bool ch, .int .u8 dv] := by
            have := Blk.new (wr.alloc (.cells #[.int .u8 ln, .int .i64 tm, .int .u8 dl, .bool ch, .int .u8 dv] 45)) 48 #[.pointer (some ⟨B + 1, 0, none⟩), .int .i64 i, .bool ch, .int .u8 dv]
            simp at this; exact this
          obtain ⟨w2, hw2⟩ : ∃ x, x = ((wr.alloc (.cells #[.int .u8 ln, .int .i64 tm, .int .u8 dl, .bool ch, .int .u8 dv] 45)).alloc (.cells #[.pointer (some ⟨B + 1, 0, none⟩), .int .i64 i, .bool ch, .int .u8 dv] 48)) := ⟨_, rfl⟩
          obtain ⟨E, hEv⟩ : ∃ x, x = wr.heap.size := ⟨_, rfl⟩
          have hL2 : Hid (L2 M (mkX B nl lcs) B pb w w2 i Y) := by rw [hw2]; exact hL'.out.below hb2
          rw [← hw2] at hE hO ⊢
          rw [← hEv] at hE hO ⊢
          have z0 := hE.cell 0
          have z1 := hE.cell 1
          have z2 := hE.cell 2
          have z3 := hE.cell 3
          have z4 := hE.cell 4
          simp at z0 z1 z2 z3 z4
          clear hb2 hw2 hEv hL' c0 c1 c2 c3 c4 s0 hs2
          obtain ⟨nl1, hnl1⟩ : ∃ x, x = nl + 1 := ⟨_, rfl⟩
          have enl1 : (nl : Int) + 1 = (nl1 : Int) := by omega
          have hnl1b : nl1 ≤ 4 := by omega
          have hnl1p : 0 < nl1 := by omega
          obtain ⟨sel, hsel⟩ : ∃ x, x = ln % nl1 := ⟨_, rfl⟩
          have esel : (ln : Int) % (nl1 : Int) = (sel : Int) := by rw [hsel]; omega
          have eselt : Int.tmod (ln : Int) (nl1 : Int) = (sel : Int) := by rw [Int.tmod_eq_emod_of_nonneg (by omega)]; exact esel
          have hselb : sel ≤ nl := by rw [hsel]; have := Nat.mod_lt ln hnl1p; omega
          have hselM : Hid (M.sel i = sel) := by unfold Mdl.sel; rw [← hln'.out, ← hnlv'.out, ← hnl1]; exact hsel.symm
          clear hsel hnl1
          go_upto_if 104 with fail
          go_cut [22, 23] from 104 to 156 (fun v22 _ wx => v22 = .int .i64 (M.ev i).t ∧ L2b M (mkX B nl lcs) B pb w wx i ∧ Blk wx E 45 #[.int .u8 ln, .int .i64 tm, .int .u8 dl, .bool ch, .int .u8 dv])
          case first =>
            by_cases hs0 : sel = 0
            · have hds : ((sel : Int) == 0) = true := by simp; omega
              have hcall := it_heap hXo'.out (by show nl = M.nl; exact hnlv'.out) hL2.out.1 (by omega) (by rw [hselM.out]; exact hs0) (E + 1) tm htm'.out (by show Blk w2 (E + 1) 48 _; rw [← hch'.out, ← hdvv'.out]; exact hO)
              have hcall' : Hid (Calls Yba.prog 6 #[.pointer (some ⟨B, 0, none⟩), .int .i64 tm, .iface 46 (.pointer (some ⟨E + 1, 0, none⟩))] w2 fun ex w' => ex = .returned (.tuple #[]) ∧ Hid (∃ Y', Inv2 M (mkX B nl lcs) (B + 4) (B + 5) w' (i + 1) Y' ∧ Kept (mkX B nl lcs) Y Y' w2 w') ∧ Hid (tm = (M.ev i).t)) := hcall
              clear hcall hs0
              go_wp2_with (go_at_call 6; refine hcall'.out.mono ?_; rintro ex w5 ⟨rfl, hpost, hat⟩)
              go_meet
              case rel =>
                obtain ⟨Y', hI, hk'⟩ := hpost.out
                obtain ⟨q1, q2⟩ := hL2.out.called hI hk' (fun g T cs hg _ _ _ => hg) (Below.refl _ _) hE
                exact ⟨by rw [hat.out], q1, q2⟩
            · have hds : ((sel : Int) == 0) = false := by simp; omega
              obtain ⟨j, hj⟩ : ∃ x, x = sel - 1 := ⟨_, rfl⟩
              have ej : (sel : Int) - 1 = (j : Int) := by omega
              have hjnl : j < nl := by omega
              have hselj : Hid (M.sel i = j + 1) := by unfold Hid; rw [hselM.out]; omega
              obtain ⟨ls2, hl1, hl2, hl3⟩ := hL2.out.1.hlb
              obtain ⟨us2, hu1, hu2, hu3⟩ := hL2.out.1.hub
              have hcB : Blk w2 B 33 #[.int .i64 M.start, Y.v, .slice (some ⟨B + 3, 0, none⟩) nl nl, .int .u64 i, .pointer none, .slice none 0 0] := hL2.out.1.S.hc
              have hlB : Blk w2 (B + 3) 40 lcs := hL2.out.1.S.hlb
              have hjX : j < (mkX B nl lcs).nl := hjnl
              obtain ⟨us, hus⟩ : ∃ b, b = (M.la i j).isSome := ⟨_, rfl⟩
              have uc : w2.cell? ⟨B + 5, j, none⟩ = some (.bool us) := by rw [hu1.cell, hus]; exact hu3 j hjX
              obtain ⟨at', hat'⟩ : ∃ x, x = M.atV i (M.la i) := ⟨_, rfl⟩
              have hat2 : Hid (at' = M.atV i (M.la i)) := hat'
              have hl3' : Hid (∀ j, j < (mkX B nl lcs).nl → ∀ x, M.la i j = some x → ls2[j]? = some (.int .i64 x)) := hl3
              have hus' : Hid (us = (M.la i j).isSome) := hus
              clear hj hs0 hl3 hu3 hat' hus
              go_upto_if 117 with fail
              go_cut [22] from 117 to 129 (fun v22 wx => v22 = .int .i64 at' ∧ ∃ nq, wx = w2.drewN nq)
              case first =>
                cases us with
                | true =>
                  obtain ⟨x, hx⟩ : ∃ x, M.la i j = some x := Option.isSome_iff_exists.1 hus'.out.symm
                  have hxb := M.la_bound hde'.out i j x hx
                  have lc : w2.cell? ⟨B + 4, j, none⟩ = some (.int .i64 x) := by rw [hl1.cell]; exact hl3'.out j hjX x hx
                  have ed : IntKind.i64.wrap (dl : Int) = (dl : Int) := by rw [w64_wrap]; unfold w64; omega
                  have eat : x + (dl : Int) = at' := by
                    rw [hat2.out]; unfold Mdl.atV
                    rw [if_neg (by rw [hselj.out]; omega), hselj.out, Nat.add_sub_cancel, hx, ← hdl'.out]
                  have ew : IntKind.i64.wrap (x + (dl : Int)) = at' := by rw [w64_wrap, ← eat]; unfold w64; omega
                  have ew2 : IntKind.i64.wrap at' = at' := by rw [w64_wrap, ← eat]; unfold w64; omega
                  clear hx hxb eat
                  go_upto_region 28 with fail
                  go_quiet (fail)
                  go_wp2
                  go_meet
                  case rel => exact ⟨by first | rfl | (simp only [ew, ew2]), _, rfl⟩
                | false =>
                  have hx : M.la i j = none := by have := hus'.out; cases h : M.la i j with
                    | none => rfl
                    | some x => rw [h] at this; simp at this
                  have eat : IntKind.i32.wrap tm = at' := by
                    rw [hat2.out]; unfold Mdl.atV
                    rw [if_neg (by rw [hselj.out]; omega), hselj.out, Nat.add_sub_cancel, hx, ← htm'.out]
                  have hbnd := wrap32 tm
                  rw [eat] at hbnd
                  have ew2 : IntKind.i64.wrap at' = at' := by rw [w64_wrap]; unfold w64; omega
                  have ew3 : IntKind.i32.wrap at' = at' := by
                    unfold IntKind.wrap
                    have e1 : (2 ^ IntKind.i32.bits : Int) = 4294967296 := by decide
                    have e2 : (2 ^ (IntKind.i32.bits - 1) : Int) = 2147483648 := by decide
                    have e3 : IntKind.i32.signed = true := rfl
                    simp only [e1, e2, e3]
                    by_cases h : at' % 4294967296 ≥ 2147483648
                    · rw [if_pos (by simpa using h)]; omega
                    · rw [if_neg (by simpa using h)]; omega
                  clear hx hbnd
                  go_wp2
                  go_meet
                  case rel => exact ⟨by first | rfl | (simp only [eat, ew2, ew3]), 0, rfl⟩
              case rest =>
                obtain ⟨rfl, nq, hwx⟩ := hcut
                have gl1 : Blk wc (B + 4) 25 ls2 := by rw [hwx]; exact hl1
                have gu1 : Blk wc (B + 5) 4 us2 := by rw [hwx]; exact hu1
                have gc1 : Blk wc B 33 #[.int .i64 M.start, Y.v, .slice (some ⟨B + 3, 0, none⟩) nl nl, .int .u64 i, .pointer none, .slice none 0 0] := by rw [hwx]; exact hcB
                have gb1 : Blk wc (B + 3) 40 lcs := by rw [hwx]; exact hlB
                have gE : Blk wc E 45 #[.int .u8 ln, .int .i64 tm, .int .u8 dl, .bool ch, .int .u8 dv] := by rw [hwx]; exact hE
                have hb0 : Below w2.heap.size w2 wc := by rw [hwx]; exact below_drewN (Below.refl _ w2) nq
                have hL3 : Hid (L2 M (mkX B nl lcs) B pb w wc i Y) := hL2.out.below hb0
                have gO : Blk wc (E + 1) 48 #[.pointer (some ⟨B + 1, 0, none⟩), .int .i64 i, .bool ch, .int .u8 dv] := by rw [hwx]; exact hO
                clear hwx hl1 hu1 hcB hlB hE hO z0 z1 z2 z3 z4 uc hL2 hb0
                obtain ⟨i1, hi1⟩ : ∃ x, x = i + 1 := ⟨_, rfl⟩
                have ei1 : (i : Int) + 1 = (i1 : Int) := by omega
                have hi1b : i1 ≤ 1024 := by omega
                have hcall : Hid (∀ w5, Below wc.heap.size (((wc.setCell ⟨B + 5, j, none⟩ (.bool true)).setCell ⟨B + 4, j, none⟩ (.int .i64 at')).setCell ⟨B, 3, none⟩ (.int .u64 i1)) w5 → Calls Yba.prog 7 #[.pointer (some ⟨B + 6 + j, 0, none⟩), .agg #[.int .i64 at', .int .u64 i1, .iface 46 (.pointer (some ⟨E + 1, 0, none⟩))]] w5 fun ex w' => ex = .returned (.tuple #[]) ∧ Hid (at' = (M.ev i).t) ∧
                    Hid (L2b M (mkX B nl lcs) B pb w w' i ∧ Blk w' E 45 #[.int .u8 ln, .int .i64 tm, .int .u8 dl, .bool ch, .int .u8 dv])) := by
                  intro w5 hb5
                  rw [hi1] at hb5 ⊢
                  have hc7 := it_lane hXo'.out (by show nl = M.nl; exact hnlv'.out) hde'.out hL3.out.1 (by omega) j hselj.out (E + 1) at' hat2.out (by show Blk wc (E + 1) 48 _; rw [← hch'.out, ← hdvv'.out]; exact gO) hb5
                  refine hc7.mono ?_
                  rintro ex w' ⟨rfl, hpost, hat⟩
                  obtain ⟨Y', hI, hk'⟩ := hpost.out
                  obtain ⟨t1, t2⟩ := three_sets gu1 gl1 gc1 hb5
                  exact ⟨rfl, hat, hL3.out.called hI hk' t1 t2 gE⟩
                have gu2 := gu1.set j (.bool true)
                obtain ⟨yu, hyu⟩ : ∃ y, wc.cell? ⟨B + 5, j, none⟩ = some y := ⟨_, by rw [gu1.cell]; exact Array.getElem?_eq_getElem (by have : us2.size = nl := hu2; omega)⟩
                have fu := gu1.frozen j
                have gl2 := gl1.setOther ⟨B + 5, j, none⟩ (.bool true) (by show B + 4 ≠ B + 5; omega)
                obtain ⟨yl, hyl⟩ : ∃ y, (wc.setCell ⟨B + 5, j, none⟩ (.bool true)).cell? ⟨B + 4, j, none⟩ = some y := ⟨_, by rw [gl2.cell]; exact Array.getElem?_eq_getElem (by have : ls2.size = nl := hl2; omega)⟩
                have fl := gl2.frozen j
                have gc3 := (gc1.setOther ⟨B + 5, j, none⟩ (.bool true) (by show B ≠ B + 5; omega)).setOther ⟨B + 4, j, none⟩ (.int .i64 at') (by show B ≠ B + 4; omega)
                have yc : ((wc.setCell ⟨B + 5, j, none⟩ (.bool true)).setCell ⟨B + 4, j, none⟩ (.int .i64 at')).cell? ⟨B, 3, none⟩ = some (.int .u64 i) := gc3.cell 3
                have fc := gc3.frozen 3
                have gc4 := gc3.set 3 (.int .u64 i1)
                have gb4 := ((gb1.setOther ⟨B + 5, j, none⟩ (.bool true) (by show B + 3 ≠ B + 5; omega)).setOther ⟨B + 4, j, none⟩ (.int .i64 at') (by show B + 3 ≠ B + 4; omega)).setOther ⟨B, 3, none⟩ (.int .u64 i1) (by show B + 3 ≠ B; omega)
                have hlj : lcs[j]? = some (.pointer (some ⟨B + 6 + j, 0, none⟩)) := hXo'.out.hlcs j hjX
                clear hi1 gu2 gl1 gu1 gc1 gb1 gE gO hL3 gl2 gc3 hl2 hu2
                go_upto_region 33 with fail
                obtain ⟨w8, hw8⟩ : ∃ x, x = (((wc.setCell ⟨B + 5, j, none⟩ (.bool true)).setCell ⟨B + 4, j, none⟩ (.int .i64 at')).setCell ⟨B, 3, none⟩ (.int .u64 i1)) := ⟨_, rfl⟩
                rw [← hw8] at hcall gc4 gb4 ⊢
                have x1 : w8.cell? ⟨B, 3, none⟩ = some (.int .u64 i1) := gc4.cell 3
                have x2 : w8.cell? ⟨B + 3, j, none⟩ = some (.pointer (some ⟨B + 6 + j, 0, none⟩)) := by rw [gb4.cell]; exact hlj
                have hsz8 : Hid (wc.heap.size ≤ w8.heap.size) := by rw [hw8]; unfold Hid; simp [World.setCell]
                have hcall2 : Hid (∀ nq, Calls Yba.prog 7 #[.pointer (some ⟨B + 6 + j, 0, none⟩), .agg #[.int .i64 at', .int .u64 i1, .iface 46 (.pointer (some ⟨E + 1, 0, none⟩))]] (w8.drewN nq) fun ex w' => ex = .returned (.tuple #[]) ∧ Hid (at' = (M.ev i).t) ∧
                    Hid (L2b M (mkX B nl lcs) B pb w w' i ∧ Blk w' E 45 #[.int .u8 ln, .int .i64 tm, .int .u8 dl, .bool ch, .int .u8 dv])) := fun nq => hcall.out _ (below_drewN (Below.refl _ w8) nq)
                clear hw8 hcall gc4 gb4 yc fc hyl fl hyu fu
                go_region_with (go_at_call 7; refine (hcall2.out 1).mono ?_; rintro ex w5 ⟨rfl, hat, hpost⟩)
                all_goals
                  go_wp2
                  go_meet
                  case rel => exact ⟨by rw [hat.out], hpost.out.1, hpost.out.2⟩
          case rest =>
            obtain ⟨rfl, hLb, hE5⟩ := hcut
            have hLb' : Hid (L2b M (mkX B nl lcs) B pb w wc i) := hLb
            obtain ⟨Y9, _, ⟨ps, hp1, hp2, hp3, hp4⟩, _, _⟩ := hLb
            obtain ⟨i56b, hi56b, hz56b, hs56b, hb56b⟩ := info_parts info56
            have z3 := hE5.cell 3
            have z4 := hE5.cell 4
            simp at z3 z4
            obtain ⟨i1, hi1⟩ : ∃ x, x = i + 1 := ⟨_, rfl⟩
            have ei1 : (i : Int) + 1 = (i1 : Int) := by omega
            have hi1b : i1 ≤ 1024 := by omega
            obtain ⟨ti, hti⟩ : ∃ x, x = (M.ev i).t := ⟨_, rfl⟩
            rw [← hti]
            have hi1' : Hid (i1 = i + 1) := hi1
            have hti' : Hid (ti = (M.ev i).t) := hti
            have hp1' : Hid (Blk wc pb 56 ps) := hp1
            have hp2' : Hid (ps.size = n2 * 5) := by unfold Hid; rw [hp2, hn2'.out, hNv'.out]
            have hpl := hp1.lt
            have hE5l := hE5.lt
            have h1c : Hid (∀ u ∈ [Value.int .i64 ti, .int .u64 i1, .int .i64 i, .bool ch, .int .u8 dv], u.oneCell' = true) := by
              intro u hu
              simp only [List.mem_cons, List.not_mem_nil, or_false] at hu
              rcases hu with rfl | rfl | rfl | rfl | rfl <;> rfl
            have hnw : Hid (∀ j u, [Value.int .i64 ti, .int .u64 i1, .int .i64 i, .bool ch, .int .u8 dv][j]? = some u → (wc.alloc (.cells #[.int .i64 ti, .int .u64 i1, .int .i64 i, .bool ch, .int .u8 dv] 56)).cell? ((⟨wc.heap.size, 0, none⟩ : Addr).add j) = some u) := by
              intro j u hj
              rw [WideShapes.add_plain, Nat.zero_add, (Blk.new wc 56 _).cell]
              simpa using hj
            have hroom : i + 1 ≤ n2 := by have := hn2'.out; omega
            clear hp1 hp2 hp3 hp4 hi1 hti
            go_wp2_with (at_builtin; refine wpList_append_room _ rfl _ _ 43 rfl 56 i56b 5 Yba.underlying43 hi56b hs56b pb i n2 ps rfl (hp1'.out.alloc _) hp2'.out ⟨wc.heap.size, 0, none⟩ 1 1 [.int .i64 ti, .int .u64 i1, .int .i64 i, .bool ch, .int .u8 dv] rfl rfl hnw.out h1c.out hroom ?_; intro w9 cs9 q1 q2 q3 q4 q5)
            have hnews : [Value.int .i64 ti, .int .u64 i1, .int .i64 i, .bool ch, .int .u8 dv] = [Value.int .i64 (M.ev i).t, .int .u64 (M.ev i).seq, .int .i64 (M.ev i).id, .bool (M.ev i).child, .int .u8 (M.ev i).d] := by rw [hti'.out, hi1'.out, hch'.out, hdvv'.out]; rfl
            have q3' := q3.out
            rw [hnews] at q3'
            obtain ⟨Y', hY'⟩ := hLb'.out.appended ((Below.refl _ wc).alloc (Nat.le_refl _) _) q5 hp1'.out q1 (by rw [q2, hn2'.out, hNv'.out]) (by rw [← hNv'.out]; exact hi) (by omega) q3' q4.out
            exact ⟨⟨i + 1, Y', by rw [hi1'.out], hi, rfl, hY'⟩, by have := hi1'.out; simp [intOf]; omega⟩
        · have hdi : decide (i < N) = false := decide_eq_false hi
          obtain rfl : i = N := by omega
          clear hL
          go_wp2
          go_meet
          case rel => exact ⟨rfl, Y, hL'.out⟩
      --]]
    case rest =>
      obtain ⟨rfl, Y2, hL2⟩ := hcut
      have hL2' : Hid (L2 M (mkX B nl lcs) B pb w wc N Y2) := hL2
      have hcB : Blk wc B 33 #[.int .i64 M.start, Y2.v, .slice (some ⟨B + 3, 0, none⟩) nl nl, .int .u64 N, .pointer none, .slice none 0 0] := hL2.1.S.hc
      have hBl := hcB.lt
      obtain ⟨i57, hi57, hz57, hs57, hb57⟩ := info_parts info57
      have b57 : i57.bytes * k ≤ 281474976710656 := by rw [hb57]; omega
      have m57 : k ≤ maxLen := by unfold maxLen; omega
      clear hL2 hL0'
      go_upto_block 4 with (at_make; refine wpList_make_blk (P := Yba.prog) _ rfl _ _ 31 rfl 57 i57 _ 1 Yba.underlying31 hi57 hz57 hs57 .i64 .i64 (k : Int) (k : Int) k k rfl rfl rfl rfl (Nat.le_refl _) b57 m57 ?_; intro w8 hb8 hs8 hbel8; have hc8 := hcB.below hbel8 hBl; have y8 := hc8.cell 5; have f8 := hc8.frozen 5; simp at y8)
      have hL3 : Hid (L3 M (mkX B nl lcs) B pb wc.heap.size k w (w8.setCell ⟨B, 5, none⟩ (.slice (some ⟨wc.heap.size, 0, none⟩) k k)) Y2 0 (fun _ => 0) (fun _ => 0)) := by
        have hl := hL2'.out
        rw [hNv'.out] at hl
        exact start_L3 hl hbel8 hb8 (by show (madeCells #[_] _).size = _; rw [made_size]; omega)
      obtain ⟨ib, hibv⟩ : ∃ x, x = wc.heap.size := ⟨_, rfl⟩
      have hibB : B + 2 ≤ ib := by rw [hibv]; have := hL2'.out.2.2.2.lt; omega
      have hibS : ib < w8.heap.size := by rw [hibv]; exact hb8.lt
      rw [← hibv] at hL3 ⊢
      obtain ⟨w9, hw9⟩ : ∃ x, x = w8.setCell ⟨B, 5, none⟩ (.slice (some ⟨ib, 0, none⟩) k k) := ⟨_, rfl⟩
      rw [← hw9] at hL3 ⊢
      clear hw9 hibv hL2' hcB hBl hb8 hs8 hbel8 hc8 y8 f8 hi57 hz57 hs57 hb57 b57 m57 hibS
      go_cut [24, 25] from 176 to 190 (fun _ _ wc => ∃ wk ix, L3 M (mkX B nl lcs) B pb ib k w wc Y2 k wk ix)
      case first =>
        --[[
        go_wp2
        go_loopw [24, 25] (fun v24 _ wr => ∃ (i : Nat) (wk ix : Nat → Nat), v24 = .int .i64 i ∧ i ≤ k ∧ L3 M (mkX B nl lcs) B pb ib k w wr Y2 i wk ix) (fun v24 _ _ => k - (intOf v24).toNat)
        case atStart => exact ⟨0, _, _, rfl, Nat.zero_le _, hL3.out⟩
        case round =>
          obtain ⟨i, wk, ix, rfl, hin, hL⟩ := hrel
          have hL' : Hid (L3 M (mkX B nl lcs) B pb ib k w wr Y2 i wk ix) := hL
          by_cases hi : i < k
          · have hdi : decide (i < k) = true := decide_eq_true hi
            obtain ⟨ics, h1, h2, _⟩ := hL.hi
            have hcB : Blk wr B 33 #[.int .i64 M.start, Y2.v, .slice (some ⟨B + 3, 0, none⟩) nl nl, .int .u64 M.N, .pointer none, .slice (some ⟨ib, 0, none⟩) k k] := hL.S.hc
            have y5 := hcB.cell 5
            simp at y5
            obtain ⟨y, hy⟩ : ∃ y, wr.cell? ⟨ib, i, none⟩ = some y := ⟨_, by rw [h1.cell]; exact Array.getElem?_eq_getElem (by omega)⟩
            have hf := h1.frozen i
            have hlt := h1.lt
            have hlB := hcB.lt
            have hibB' : B ≤ ib := by omega
            obtain ⟨i1, hi1⟩ : ∃ x, x = i + 1 := ⟨_, rfl⟩
            have ei1 : (i : Int) + 1 = (i1 : Int) := by omega
            have hi1' : Hid (i1 = i + 1) := hi1
            clear hL hi1 hcB h1 hL3
            go_wp2
            exact ⟨⟨i + 1, _, _, by rw [hi1'.out], hi, hL'.out.step hi hibB'⟩, by have := hi1'.out; simp [intOf]; omega⟩
          · have hdi : decide (i < k) = false := decide_eq_false hi
            obtain rfl : i = k := by omega
            clear hL
            go_wp2
            go_meet
            case rel => exact ⟨wk, ix, hL'.out⟩
        --]]
      case rest =>
        obtain ⟨wk, ix, hL3k⟩ := hcut
        have hL3' : Hid (L3 M (mkX B nl lcs) B pb ib k w wc Y2 k wk ix) := hL3k
        obtain ⟨i59, hi59, hz59, hs59, hb59⟩ := info_parts info59
        obtain ⟨wn, hwn⟩ : ∃ x, x = n2 + k := ⟨_, rfl⟩
        have ewn : (n2 : Int) + (k : Int) = (wn : Int) := by omega
        have b59 : i59.bytes * wn ≤ 281474976710656 := by rw [hb59]; omega
        have m59 : wn ≤ maxLen := by unfold maxLen; omega
        have hwn' : Hid (wn = n2 + k) := hwn
        have hwnb : wn ≤ 2303 := by omega
        have hBw : B ≤ wc.heap.size := by have := hL3k.hsv.lt; omega
        clear hwn hL3k hL3
        go_upto_block 6 with (at_make; refine wpList_make_blk (P := Yba.prog) _ rfl _ _ 35 rfl 59 i59 _ 3 Yba.underlying35 hi59 hz59 hs59 .i64 .i64 (0 : Int) (wn : Int) 0 wn rfl rfl rfl rfl (Nat.zero_le _) b59 m59 ?_; intro w8 hb8 hs8 hbel8)
        have hL4 : Hid (L4 M (mkX B nl lcs) B pb wc.heap.size wn ib k w w8 Y2 wk ix 0) := by
          have h3 := hL3'.out
          refine ⟨Goes.start M.uniq (fun j hj => hdd'.out j), h3.hp.of_block (hbel8.block _ h3.hp.lt), ⟨_, hb8, ?_, Nat.zero_le _, rfl, fun j hj => by omega⟩, h3.idl.below hbel8⟩
          simp [madeCells, Value.cells]
        obtain ⟨wb, hwb⟩ : ∃ x, x = wc.heap.size := ⟨_, rfl⟩
        rw [← hwb] at hL4 hBw ⊢
        clear hwb hb8 hs8 hbel8 hL3' hi59 hz59 hs59 hb59 b59 m59
        go_cut [17, 26, 27, 28, 29, 30, 31, 32, 33, 34] from 203 to 278 (fun v17 v26 v27 v28 v29 _ _ _ _ _ wc => ∃ i, v26 = .slice (some ⟨wb, 0, none⟩) i wn ∧ v27 = .int .i64 (it M.s0 i).now ∧ v28 = .int .u64 (it M.s0 i).seq ∧ v29 = .int .i64 (it M.s0 i).nid ∧ (it M.s0 i).n = 0 ∧ L4 M (mkX B nl lcs) B pb wb wn ib k w wc Y2 wk ix i)
        case first =>
          --[[
          go_wp2
          go_loopw [17, 26, 27, 28, 29, 30, 31, 32, 33, 34] (fun v17 v26 v27 v28 v29 _ _ _ _ _ wr => ∃ i, v17 = .slice (some ⟨pb, 0, none⟩) (it M.s0 i).n n2 ∧ v26 = .slice (some ⟨wb, 0, none⟩) i wn ∧ v27 = .int .i64 (it M.s0 i).now ∧ v28 = .int .u64 (it M.s0 i).seq ∧ v29 = .int .i64 (it M.s0 i).nid ∧ L4 M (mkX B nl lcs) B pb wb wn ib k w wr Y2 wk ix i) (fun _ v26 _ _ _ _ _ _ _ _ _ => 2048 - lenV v26)
          case atStart => exact ⟨0, by rw [hNv'.out]; rfl, rfl, by rw [hstv'.out]; rfl, by rw [hNv'.out]; rfl, by rw [hNv'.out]; rfl, hL4.out⟩
          case round =>
            obtain ⟨i, rfl, rfl, rfl, rfl, rfl, hL⟩ := hrel
            have hL' : Hid (L4 M (mkX B nl lcs) B pb wb wn ib k w wr Y2 wk ix i) := hL
            obtain ⟨bn, bseq, bnid, bi, bi1⟩ := hL.bounds (by rw [← hNv'.out]; exact hN)
            rw [← hNv'.out] at bn bi bi1
            obtain ⟨s, hs⟩ : ∃ x, x = it M.s0 i := ⟨_, rfl⟩
            have hs' : Hid (s = it M.s0 i) := hs
            rw [← hs] at bn bseq bnid bi1 ⊢
            obtain ⟨n, hn⟩ : ∃ x, x = s.n := ⟨_, rfl⟩
            have hn' : Hid (n = s.n) := hn
            rw [← hn] at bn bi1 ⊢
            by_cases h0 : 0 < n
            · have hd0 : decide (0 < n) = true := decide_eq_true h0
              have hi1 := bi1 h0
              have hPr : PRow wr pb (2 * M.N) n s.f := by rw [hn, hs]; exact hL.hp
              have hPr' : Hid (PRow wr pb (2 * M.N) n s.f) := hPr
              have hpbl := hPr.lt
              obtain ⟨seq, hseq⟩ : ∃ x, x = s.seq := ⟨_, rfl⟩
              obtain ⟨nid, hnid⟩ : ∃ x, x = s.nid := ⟨_, rfl⟩
              rw [← hseq] at bseq ⊢
              rw [← hnid] at bnid ⊢
              have hseq' : Hid (seq = s.seq) := hseq
              have hnid' : Hid (nid = s.nid) := hnid
              clear hL hs hn bi1 hPr hseq hnid hL4
              go_upto_block 8 with fail
              obtain ⟨wo, hwo⟩ : ∃ x, x = wr := ⟨_, rfl⟩
              subst hwo
              go_cut [30, 31, 32, 33] from 206 to 239 (fun v30 _ _ _ wx => v30 = .int .i64 (least s : Nat) ∧ Below wo.heap.size wo wx)
              case first =>
                go_wp2
                go_loopw [30, 31, 32, 33] (fun v30 v31 _ _ wx => ∃ j : Nat, v31 = .int .i64 (j + 1 : Nat) ∧ j < n ∧ v30 = .int .i64 (scan s.f j : Nat) ∧ Below wo.heap.size wo wx) (fun _ v31 _ _ _ => n - (intOf v31).toNat)
                case atStart => exact ⟨0, rfl, h0, rfl, Below.refl _ _⟩
                case round =>
                  obtain ⟨j, rfl, hjn, rfl, hbx⟩ := hrel
                  obtain ⟨j1, hj1⟩ : ∃ x, x = j + 1 := ⟨_, rfl⟩
                  obtain ⟨m, hm⟩ : ∃ x, x = scan s.f j := ⟨_, rfl⟩
                  have hmj : m ≤ j := by rw [hm]; exact scan_le s.f j
                  rw [← hj1, ← hm]
                  have hj1' : Hid (j1 = j + 1) := hj1
                  have hm' : Hid (m = scan s.f j) := hm
                  have hbx' : Hid (Below wo.heap.size wo wr) := hbx
                  have hpx : PRow wr pb (2 * M.N) n s.f := hPr'.out.of_block (hbx.block _ hpbl)
                  clear hj1 hm
                  by_cases hlt : j1 < n
                  · have hdl : decide (j1 < n) = true := decide_eq_true hlt
                    obtain ⟨c0, c1, c2, c3, c4⟩ := hpx.cells hlt
                    obtain ⟨d0, d1, d2, d3, d4⟩ := hpx.cells (show m < n by omega)
                    have hmn : m < n := by omega
                    obtain ⟨p, hpv⟩ : ∃ x, x = s.f j1 := ⟨_, rfl⟩
                    obtain ⟨q, hqv⟩ : ∃ x, x = s.f m := ⟨_, rfl⟩
                    rw [← hpv] at c0 c1 c2 c3 c4
                    rw [← hqv] at d0 d1 d2 d3 d4
                    have hpv' : Hid (p = s.f j1) := hpv
                    have hqv' : Hid (q = s.f m) := hqv
                    obtain ⟨j2, hj2⟩ : ∃ x, x = j1 + 1 := ⟨_, rfl⟩
                    have ej2 : (j1 : Int) + 1 = (j2 : Int) := by omega
                    have hj2' : Hid (j2 = j1 + 1) := hj2
                    have hpbw : pb < wr.heap.size := hpx.lt
                    clear hpv hqv hpx hbx hj2
                    go_upto_region 51 with fail
                    go_cut [32, 33] from 212 to 219 (fun v32 v33 wy => ∃ G G', v32 = .pointer (some ⟨G, 0, none⟩) ∧ v33 = .pointer (some ⟨G', 0, none⟩) ∧ Blk wy G 56 #[.int .i64 p.t, .int .u64 p.seq, .int .i64 p.id, .bool p.child, .int .u8 p.d] ∧ Blk wy G' 56 #[.int .i64 q.t, .int .u64 q.seq, .int .i64 q.id, .bool q.child, .int .u8 q.d] ∧ Below wr.heap.size wr wy)
                    case first =>
                      go_region
                      all_goals
                        go_wp2
                        go_meet
                        case rel =>
                          have t1 := two_boxes wr #[.int .i64 p.t, .int .u64 p.seq, .int .i64 p.id, .bool p.child, .int .u8 p.d] #[.int .i64 q.t, .int .u64 q.seq, .int .i64 q.id, .bool q.child, .int .u8 q.d]
                          have t2 := two_boxes wr #[.int .i64 q.t, .int .u64 q.seq, .int .i64 q.id, .bool q.child, .int .u8 q.d] #[.int .i64 p.t, .int .u64 p.seq, .int .i64 p.id, .bool p.child, .int .u8 p.d]
                          first
                          | exact ⟨_, _, rfl, rfl, t1.1, t1.2.1, t1.2.2⟩
                          | exact ⟨_, _, rfl, rfl, t2.2.1, t2.1, t2.2.2⟩
                    case rest =>
                      obtain ⟨G, G', rfl, rfl, hP, hQ, hby⟩ := hcut
                      have x0 := hP.cell 0
                      have x1 := hP.cell 1
                      have y0 := hQ.cell 0
                      have y1 := hQ.cell 1
                      simp at x0 x1 y0 y1
                      obtain ⟨pt, hpt⟩ : ∃ x, x = p.t := ⟨_, rfl⟩
                      obtain ⟨ps, hps⟩ : ∃ x, x = p.seq := ⟨_, rfl⟩
                      obtain ⟨qt, hqt⟩ : ∃ x, x = q.t := ⟨_, rfl⟩
                      obtain ⟨qs, hqs⟩ : ∃ x, x = q.seq := ⟨_, rfl⟩
                      rw [← hpt] at x0
                      rw [← hps] at x1
                      rw [← hqt] at y0
                      rw [← hqs] at y1
                      have hbefv : bef p q = (decide (pt < qt) || (decide (pt = qt) && decide (ps < qs))) := by unfold bef; rw [hpt, hqt, hps, hqs]
                      obtain ⟨bf, hbf⟩ : ∃ b, b = bef p q := ⟨_, rfl⟩
                      rw [← hbf] at hbefv
                      have hbf' : Hid (bf = bef p q) := hbf
                      have hbefv' : Hid (bf = (decide (pt < qt) || (decide (pt = qt) && decide (ps < qs)))) := hbefv
                      have hby' : Hid (Below wr.heap.size wr wc) := hby
                      clear hpt hps hqt hqs hbefv hbf hP hQ hby c0 c1 c2 c3 c4 d0 d1 d2 d3 d4
                      go_upto_region 52 with fail
                      go_cut [238] from 220 to 238 (fun v wz => v = .bool bf ∧ wz = wc)
                      case first =>
                        by_cases h1 : pt < qt
                        · have e1 : decide (pt < qt) = true := decide_eq_true h1
                          go_wp2
                          go_meet
                          case rel => exact ⟨by rw [hbefv'.out]; simp [h1], rfl⟩
                        · have e1 : decide (pt < qt) = false := decide_eq_false h1
                          by_cases h2 : pt = qt
                          · have e2 : (pt == qt) = true := by simp [h2]
                            have e4 : bf = decide (ps < qs) := by rw [hbefv'.out]; simp [h2]
                            clear h2
                            go_wp2
                            go_meet
                            case rel => exact ⟨by rw [e4], rfl⟩
                          · have e2 : (pt == qt) = false := by simp [h2]
                            go_wp2
                            go_meet
                            case rel => exact ⟨by rw [hbefv'.out]; simp [h1, h2], rfl⟩
                      case rest =>
                        obtain ⟨rfl, rfl⟩ := hcut
                        have hbz : Hid (Below wo.heap.size wo wc) := hbx'.out.trans (hby'.out.mono hbx'.out.size)
                        cases bf with
                        | true =>
                          have hsc : Hid (scan s.f j1 = j1) := by
                            have e9 := hbf'.out
                            rw [hpv'.out, hqv'.out, hm'.out, hj1'.out] at e9
                            unfold Hid; rw [hj1'.out]; simp only [scan]; rw [← e9]; rfl
                          go_wp2
                          exact ⟨⟨j1, by rw [hj2'.out], hlt, by rw [hsc.out], hbz.out⟩, by have := hj2'.out; simp [intOf]; omega⟩
                        | false =>
                          have hsc : Hid (scan s.f j1 = m) := by
                            have e9 := hbf'.out
                            rw [hpv'.out, hqv'.out, hm'.out, hj1'.out] at e9
                            unfold Hid; rw [hj1'.out, hm'.out]; simp only [scan]; rw [← e9]; rfl
                          go_wp2
                          exact ⟨⟨j1, by rw [hj2'.out], hlt, by rw [hsc.out], hbz.out⟩, by have := hj2'.out; simp [intOf]; omega⟩
                  · have hdl : decide (j1 < n) = false := decide_eq_false hlt
                    have hjn1 : j = s.n - 1 := by have := hj1'.out; have := hn'.out; omega
                    have hle : Hid (m = least s) := by unfold least; rw [← hjn1]; exact hm'.out
                    clear hpx hbx hjn1
                    go_wp2
                    go_meet
                    case rel => exact ⟨by rw [hle.out], hbx'.out⟩
              case rest =>
                obtain ⟨rfl, hbx⟩ := hcut
                obtain ⟨m, hm⟩ : ∃ x, x = least s := ⟨_, rfl⟩
                have hmn : m < n := by rw [hm, hn'.out]; exact least_lt (by rw [← hn'.out]; exact h0)
                rw [← hm]
                have hm' : Hid (m = least s) := hm
                have hLx : Hid (L4 M (mkX B nl lcs) B pb wb wn ib k w wc Y2 wk ix i) := hL'.out.below hbx
                have hpx : PRow wc pb (2 * M.N) n s.f := hPr'.out.of_block (hbx.block _ hpbl)
                obtain ⟨c0, c1, c2, c3, c4⟩ := hpx.cells hmn
                obtain ⟨e, hev⟩ : ∃ x, x = s.f m := ⟨_, rfl⟩
                rw [← hev] at c0 c1 c2 c3 c4
                have hev' : Hid (e = outE s) := by unfold Hid; rw [hev, hm]; rfl
                have hpbw : pb < wc.heap.size := hpx.lt
                have hed : e.d ≤ 255 := by rw [hev]; have := hL'.out.g.dd m (by rw [← hs'.out, ← hn'.out]; exact hmn); rw [← hs'.out] at this; exact this
                obtain ⟨m1, hm1⟩ : ∃ x, x = m + 1 := ⟨_, rfl⟩
                have em1 : (m : Int) + 1 = (m1 : Int) := by omega
                have hm1n : m1 ≤ n := by omega
                have hne2 : ¬ n2 = m1 := by have := hn2'.out; omega
                have hmn2 : m ≤ n2 := by have := hn2'.out; omega
                obtain ⟨n1, hn1⟩ : ∃ x, x = n - 1 := ⟨_, rfl⟩
                have hn1' : Hid (n1 = n - 1) := hn1
                have hm1' : Hid (m1 = m + 1) := hm1
                obtain ⟨i56c, hi56c, hz56c, hs56c, hb56c⟩ := info_parts info56
                obtain ⟨i59c, hi59c, hz59c, hs59c, hb59c⟩ := info_parts info59
                have hg' : Hid (Goes M.s0 i) := hL'.out.g
                clear hev hbx hm hm1 hn1 hPr' hL' hpbl hpx
                go_upto_region 55 with fail
                have hbF : Below wc.heap.size wc (wc.alloc (.cells #[.int .i64 e.t, .int .u64 e.seq, .int .i64 e.id, .bool e.child, .int .u8 e.d] 56)) := (Below.refl _ wc).alloc (Nat.le_refl _) _
                have hF1 := Blk.new wc 56 #[.int .i64 e.t, .int .u64 e.seq, .int .i64 e.id, .bool e.child, .int .u8 e.d]
                have hLf : Hid (L4 M (mkX B nl lcs) B pb wb wn ib k w (wc.alloc (.cells #[.int .i64 e.t, .int .u64 e.seq, .int .i64 e.id, .bool e.child, .int .u8 e.d] 56)) Y2 wk ix i) := hLx.out.below hbF
                obtain ⟨wf1, hwf1⟩ : ∃ x, x = wc.alloc (.cells #[.int .i64 e.t, .int .u64 e.seq, .int .i64 e.id, .bool e.child, .int .u8 e.d] 56) := ⟨_, rfl⟩
                obtain ⟨F, hFv⟩ : ∃ x, x = wc.heap.size := ⟨_, rfl⟩
                rw [← hwf1] at hF1 hLf ⊢
                rw [← hFv] at hF1 hpbw ⊢
                obtain ⟨ps, hq1, hq2, hq3, hq4⟩ := hLf.out.hp
                rw [← hs'.out, ← hn'.out] at hq4
                have hq2' : Hid (ps.size = n2 * 5) := by unfold Hid; rw [hq2, hn2'.out, hNv'.out]
                have hq1' : Hid (Blk wf1 pb 56 ps) := hq1
                have hq4' : Hid (∀ j r, j < n → r < 5 → ps[j * 5 + r]? = some (pC (s.f j) r)) := hq4
                clear hbF hwf1 hFv hLx c0 c1 c2 c3 c4 hq1 hq2 hq3 hq4
                have hPf : Hid (PRow wf1 pb (2 * M.N) n s.f) := by have := hLf.out.hp; rw [← hs'.out, ← hn'.out] at this; exact this
                go_cut [17] from 244 to 251 (fun v17 wy => v17 = .slice (some ⟨pb, 0, none⟩) n1 n2 ∧ PRow wy pb (2 * M.N) n1 (del s.f m) ∧ Blk wy F 56 #[.int .i64 e.t, .int .u64 e.seq, .int .i64 e.id, .bool e.child, .int .u8 e.d] ∧ Idl M (mkX B nl lcs) B ib k w wy Y2 wk ix ∧ WRow wy wb wn i (logs M.s0 i))
                case first =>
                  have hroom : m + (n - m1) ≤ n2 := by have := hn2'.out; have := hm1'.out; omega
                  have ewm1 : IntKind.i64.wrap (m1 : Int) = (m1 : Int) := by rw [w64_wrap]; unfold w64; omega
                  have htl : Hid (∀ j u, (tailP s.f m1 (n - m1))[j]? = some u → wf1.cell? ((⟨pb, m1 * 5, none⟩ : Addr).add j) = some u) := hPf.out.tail hm1n (fun _ => rfl)
                  go_region_law (refine step_append_roomB rfl (.tmp 246) (.tmp 250) 43 rfl 56 i56c 5 Yba.underlying43 hi56c hs56c pb m n2 ps (by simp [Act.eval, Act.put]) (by exact hq1'.out) hq2'.out ⟨pb, m1 * 5, none⟩ (n - m1) (n2 - m1) (tailP s.f m1 (n - m1)) (by simp [Act.eval, Act.put]) (tailP_len _ _ _) (by exact htl.out) (tailP_one _ _ _) hroom ?_; intro w9 cs9 r1 r2 r3 r4 r5)
                  all_goals
                    have htk : Hid (PRow w9 pb (2 * M.N) n1 (del s.f m) ∧ Blk w9 F 56 #[.int .i64 e.t, .int .u64 e.seq, .int .i64 e.id, .bool e.child, .int .u8 e.d] ∧ Idl M (mkX B nl lcs) B ib k w w9 Y2 wk ix ∧ WRow w9 wb wn i (logs M.s0 i)) := by
                      have r3' := r3.out
                      rw [hm1'.out] at r3'
                      have h9 := took_out hPf.out hLf.out.hI hLf.out.hw (by omega) hmn hq1'.out r1 (by rw [r2, hn2'.out, hNv'.out]) r3' r4.out r5 hF1 (by omega)
                      rw [← hn1'.out] at h9
                      exact h9
                    have hlen : m + (n - m1) = n1 := by have := hm1'.out; have := hn1'.out; omega
                    go_wp2
                    first
                    | go_meet
                    | (go_simp; go_meet)
                    | (simp [Act.put]; go_meet)
                    case rel => exact ⟨by rw [hlen], htk.out⟩
                case rest =>
                  obtain ⟨rfl, hP9, hF9, hI9, hW9⟩ := hcut
                  have hP9' : Hid (PRow wc pb (2 * M.N) n1 (del s.f m)) := hP9
                  have hF9' : Hid (Blk wc F 56 #[.int .i64 e.t, .int .u64 e.seq, .int .i64 e.id, .bool e.child, .int .u8 e.d]) := hF9
                  have hI9' : Hid (Idl M (mkX B nl lcs) B ib k w wc Y2 wk ix) := hI9
                  have hW9' : Hid (WRow wc wb wn i (logs M.s0 i)) := hW9
                  obtain ⟨ws, hws1, hws2, hws3, hws4, hws5⟩ := hW9
                  have hws1' : Hid (Blk wc wb 59 ws) := hws1
                  have hws2' : Hid (ws.size = wn * 3) := hws2
                  have x0 := hF9.cell 0
                  have x2 := hF9.cell 2
                  have x3 := hF9.cell 3
                  have x4 := hF9.cell 4
                  simp at x0 x2 x3 x4
                  have hFl := hF9.lt
                  have hwbl := hws1.lt
                  have hrw : i + 1 ≤ wn := by have := hwn'.out; have := hn2'.out; omega
                  have h1c : Hid (∀ u ∈ [Value.bool false, .int .i64 e.id, .int .i64 e.t], u.oneCell' = true) := by
                    intro u hu
                    simp only [List.mem_cons, List.not_mem_nil, or_false] at hu
                    rcases hu with rfl | rfl | rfl <;> rfl
                  clear hP9 hF9 hI9 hws1 hws2 hws3 hws4 hws5 hPf hLf hF1 hq1' hq2' hq4' hne2
                  go_upto_if 263 with (at_builtin; refine wpList_append_room _ rfl _ _ 35 rfl 59 i59c 3 Yba.underlying35 hi59c hs59c wb i wn ws rfl (hws1'.out.alloc _) hws2'.out ⟨wc.heap.size, 0, none⟩ 1 1 [.bool false, .int .i64 e.id, .int .i64 e.t] rfl rfl news3b h1c.out hrw ?_; intro w5 cs5 q1 q2 q3 q4 q5; have hwr := wrote hP9'.out hI9'.out hW9'.out hBw ((Below.refl _ wc).alloc (Nat.le_refl _) _) q5 hws1'.out q1 q2 hrw q3.out q4.out hF9'.out (by decide); have hF5 := hwr.2.2.2; have x3' := hF5.cell 3; simp at x3')
                  have hnn : (it M.s0 i).n = n := by rw [hn'.out, hs'.out]
                  have hL4h : Hid (L4h M (mkX B nl lcs) B pb wb wn ib k w w5 Y2 wk ix i) := by
                    refine ⟨?_, ?_, hwr.2.1⟩
                    · rw [hnn, ← hn1'.out, ← hs'.out, ← hm'.out]; exact hwr.1
                    · have := hwr.2.2.1
                      rw [hev'.out, hs'.out] at this
                      exact this
                  obtain ⟨ch, hch⟩ : ∃ b, b = e.child := ⟨_, rfl⟩
                  have hch' : Hid ((outE (it M.s0 i)).child = ch) := by rw [hch, hev'.out, hs'.out]; rfl
                  have x4' := hF5.cell 4
                  simp at x4'
                  have hF5l := hF5.lt
                  have hPw5 : Hid (PRow w5 pb (2 * M.N) n1 (del s.f m)) := hwr.1
                  have hnn' : Hid ((it M.s0 i).n = n) := hnn
                  rw [← hch]
                  clear x0 x2 x3 x4 x3' hwr q1 q2 q3 q4 q5 hP9' hF9' hI9' hW9' hws1' hws2' hFl hwbl h1c hF5 hch hnn
                  have hn0 : 0 < (it M.s0 i).n := by rw [hnn'.out]; exact h0
                  cases ch with
                  | false =>
                    have hpl := hL4h.out.plain hg'.out hn0 hch'.out
                    have hpl' : Hid (L4 M (mkX B nl lcs) B pb wb wn ib k w w5 Y2 wk ix (i + 1) ∧ (it M.s0 (i + 1)).n = (it M.s0 i).n - 1 ∧ (it M.s0 (i + 1)).seq = (it M.s0 i).seq ∧ (it M.s0 (i + 1)).nid = (it M.s0 i).nid) := hpl
                    clear hpl hn0
                    go_wp2
                    obtain ⟨a1, a2, a3, a4⟩ := hpl'.out
                    refine ⟨⟨i + 1, by rw [a2, hnn'.out, hn1'.out], rfl, ?_, by rw [a3, hseq'.out, hs'.out], by rw [a4, hnid'.out, hs'.out], a1⟩, by simp only [lenV]; omega⟩
                    have h9 := (step_of (s := it M.s0 i)).1
                    show _ = Value.int .i64 (stepS (it M.s0 i)).now
                    rw [h9, hev'.out, hs'.out]
                  | true =>
                    obtain ⟨t2, ht2⟩ : ∃ x, x = w64 (e.t + e.d) := ⟨_, rfl⟩
                    have et2 : IntKind.i64.wrap (e.t + (e.d : Int)) = t2 := by rw [w64_wrap, ht2]
                    have ed : IntKind.i64.wrap (e.d : Int) = (e.d : Int) := by rw [w64_wrap]; unfold w64; omega
                    obtain ⟨sq1, hsq1⟩ : ∃ x, x = seq + 1 := ⟨_, rfl⟩
                    have esq1 : (seq : Int) + 1 = (sq1 : Int) := by omega
                    obtain ⟨nd1, hnd1⟩ : ∃ x, x = nid + 1 := ⟨_, rfl⟩
                    have end1 : (nid : Int) + 1 = (nd1 : Int) := by omega
                    obtain ⟨ps2, u1, u2, u3, u4⟩ := hPw5.out
                    have u1' : Hid (Blk w5 pb 56 ps2) := u1
                    have u2' : Hid (ps2.size = n2 * 5) := by unfold Hid; rw [u2, hn2'.out, hNv'.out]
                    have hrp : n1 + 1 ≤ n2 := by have := hn2'.out; have := hn1'.out; omega
                    have ht2' : Hid (t2 = w64 (e.t + e.d)) := ht2
                    have hsq1' : Hid (sq1 = seq + 1) := hsq1
                    have hnd1' : Hid (nd1 = nid + 1) := hnd1
                    have hsqb : sq1 ≤ 4096 := by omega
                    have hndb : nd1 ≤ 4096 := by omega
                    have hpb5 := u1.lt
                    have h1d : Hid (∀ u ∈ [Value.int .i64 t2, .int .u64 sq1, .int .i64 nid, .bool false, .int .u8 0], u.oneCell' = true) := by
                      intro u hu
                      simp only [List.mem_cons, List.not_mem_nil, or_false] at hu
                      rcases hu with rfl | rfl | rfl | rfl | rfl <;> rfl
                    clear u1 u2 u3 u4 ht2 hsq1 hnd1 hn0
                    go_wp2_with (at_builtin; refine wpList_append_room _ rfl _ _ 43 rfl 56 i56c 5 Yba.underlying43 hi56c hs56c pb n1 n2 ps2 rfl (u1'.out.alloc _) u2'.out ⟨w5.heap.size, 0, none⟩ 1 1 [.int .i64 t2, .int .u64 sq1, .int .i64 nid, .bool false, .int .u8 0] rfl rfl news5 h1d.out hrp ?_; intro w6 cs6 q1 q2 q3 q4 q5)
                    have hn0 : 0 < (it M.s0 i).n := by rw [hnn'.out]; exact h0
                    have hce : [Value.int .i64 t2, .int .u64 sq1, .int .i64 nid, .bool false, .int .u8 0] = [Value.int .i64 (childE s).t, .int .u64 (childE s).seq, .int .i64 (childE s).id, .bool (childE s).child, .int .u8 (childE s).d] := by
                      unfold childE; rw [ht2'.out, hsq1'.out, hseq'.out, hnid'.out, hev'.out]; rfl
                    have q3' := q3.out
                    rw [hce] at q3'
                    obtain ⟨g1, g2, g3⟩ := grew hPw5.out hL4h.out.hI hL4h.out.hw (by omega) ((Below.refl _ w5).alloc (Nat.le_refl _) _) q5 u1'.out q1 (by rw [q2, hn2'.out, hNv'.out]) (by rw [← hNv'.out, ← hn2'.out]; exact hrp) q3' q4.out
                    have hcc := L4h.child (wr := w5) (by rw [hnn'.out, ← hn1'.out, ← hs'.out, ← hm'.out]; exact g1) g3 g2 hg'.out hn0 hch'.out
                    obtain ⟨a1, a2, a3, a4⟩ := hcc
                    refine ⟨⟨i + 1, ?_, rfl, ?_, ?_, ?_, a1⟩, by simp only [lenV]; omega⟩
                    · rw [a2, hnn'.out]; have := hn1'.out; congr 1; omega
                    · have h9 := (step_of (s := it M.s0 i)).1
                      show _ = Value.int .i64 (stepS (it M.s0 i)).now
                      rw [h9, hev'.out, hs'.out]
                    · rw [a3, hsq1'.out, hseq'.out, hs'.out]
                    · rw [a4, hnd1'.out, hnid'.out, hs'.out]
            · have hd0 : decide (0 < n) = false := decide_eq_false h0
              have hz : (it M.s0 i).n = 0 := by rw [← hs, ← hn]; omega
              have hz' : Hid ((it M.s0 i).n = 0) := hz
              clear hL hs hn hz
              go_wp2
              go_meet
              case rel => exact ⟨i, rfl, by rw [hs'.out], by rw [hs'.out], by rw [hs'.out], hz'.out, hL'.out⟩
          --]]
        case rest => as_aux_lemma =>
          obtain ⟨i, rfl, rfl, rfl, rfl, hz, hL4e⟩ := hcut
          obtain ⟨hiT, hL5⟩ := hL4e.done hz
          obtain ⟨_, bseq, bnid, bi, _⟩ := hL4e.bounds (by rw [← hNv'.out]; exact hN)
          rw [← hNv'.out] at bi
          have hib2 : i ≤ n2 := by have := hn2'.out; omega
          obtain ⟨now, hnow⟩ : ∃ x, x = (it M.s0 i).now := ⟨_, rfl⟩
          obtain ⟨seq, hseq⟩ : ∃ x, x = (it M.s0 i).seq := ⟨_, rfl⟩
          obtain ⟨nid, hnid⟩ : ∃ x, x = (it M.s0 i).nid := ⟨_, rfl⟩
          rw [← hnow, ← hseq, ← hnid]
          rw [hiT] at hnow hseq hnid
          have hnow' : Hid (now = (it M.s0 (leftN M.s0)).now) := hnow
          have hseq' : Hid (seq = (it M.s0 (leftN M.s0)).seq) := hseq
          have hnid' : Hid (nid = (it M.s0 (leftN M.s0)).nid) := hnid
          have hiT' : Hid (i = leftN M.s0) := hiT
          have hL5' : Hid (L5 M (mkX B nl lcs) B wb wn ib k w wc Y2 wk ix 0) := hL5
          obtain ⟨i59d, hi59d, hz59d, hs59d, hb59d⟩ := info_parts info59
          clear hz hL4e hL5 hiT hnow hseq hnid hL4 bseq bnid bi
          go_upto_block 10 with fail
          go_cut [26, 35] from 279 to 288 (fun v26 _ wc => v26 = .slice (some ⟨wb, 0, none⟩) (i + k) wn ∧ L5 M (mkX B nl lcs) B wb wn ib k w wc Y2 wk ix k)
          case first =>
            --[[
            go_wp2
            go_loopw [26, 35] (fun v26 v35 wr => ∃ j : Nat, v35 = .int .i64 j ∧ j ≤ k ∧ v26 = .slice (some ⟨wb, 0, none⟩) (i + j) wn ∧ L5 M (mkX B nl lcs) B wb wn ib k w wr Y2 wk ix j) (fun _ v35 _ => k - (intOf v35).toNat)
            case atStart => exact ⟨0, rfl, Nat.zero_le _, rfl, hL5'.out⟩
            case round =>
              obtain ⟨j, rfl, hjk, rfl, hL⟩ := hrel
              have hL' : Hid (L5 M (mkX B nl lcs) B wb wn ib k w wr Y2 wk ix j) := hL
              by_cases hj : j < k
              · have hdj : decide (j < k) = true := decide_eq_true hj
                obtain ⟨ws, hw1, hw2, hw3, hw4, hw5⟩ := hL.hw
                have hw1' : Hid (Blk wr wb 59 ws) := hw1
                have hw2' : Hid (ws.size = wn * 3) := hw2
                have hrw : i + j + 1 ≤ wn := by have := hwn'.out; omega
                have h1c : Hid (∀ u ∈ [Value.bool true, .int .i64 j, .int .i64 0], u.oneCell' = true) := by
                  intro u hu
                  simp only [List.mem_cons, List.not_mem_nil, or_false] at hu
                  rcases hu with rfl | rfl | rfl <;> rfl
                obtain ⟨j1, hj1⟩ : ∃ x, x = j + 1 := ⟨_, rfl⟩
                have ej1 : (j : Int) + 1 = (j1 : Int) := by omega
                have hj1' : Hid (j1 = j + 1) := hj1
                clear hL hw1 hw2 hw3 hw4 hw5 hj1 hL5'
                go_wp2_with (at_builtin; refine wpList_append_room _ rfl _ _ 35 rfl 59 i59d 3 Yba.underlying35 hi59d hs59d wb (i + j) wn ws rfl (hw1'.out.alloc _) hw2'.out ⟨wr.heap.size, 0, none⟩ 1 1 [.bool true, .int .i64 j, .int .i64 0] rfl rfl news3b h1c.out hrw ?_; intro w5 cs5 q1 q2 q3 q4 q5)
                have q3' := q3.out
                have q4' := q4.out
                rw [hiT'.out] at q3' q4' hrw
                have hst := hL'.out.step hBw ((Below.refl _ wr).alloc (Nat.le_refl _) _) q5 hw1'.out q1 q2 hrw q3' q4'
                exact ⟨⟨j + 1, by rw [hj1'.out], hj, rfl, hst⟩, by have := hj1'.out; simp [intOf]; omega⟩
              · have hdj : decide (j < k) = false := decide_eq_false hj
                obtain rfl : j = k := by omega
                clear hL
                go_wp2
                go_meet
                case rel => exact ⟨rfl, hL'.out⟩
            --]]
          case rest =>
            obtain ⟨rfl, hL5k⟩ := hcut
            have hrun := run_done hXo'.out hL5k (by rw [← hNv'.out]; exact hN) hk hdd'.out
            clear hL5k hL5' hi59d hz59d hs59d hb59d
            go_upto_region 67 with (go_at_call 9; refine hrun.mono ?_; rintro ex w6 ⟨rfl, hL6⟩)
            have hL6' : Hid (L6 M B nl wb wn k w w6) := hL6
            obtain ⟨va, vc, lcsF, hC, hLb, hLc⟩ := hL6.hc
            obtain ⟨la, lc, hSt, _⟩ := hL6.hst
            rw [← hnow'.out, ← hseq'.out] at hC
            have hSt0 := hSt
            rw [← hnid'.out, ← hiT'.out] at hSt
            obtain ⟨tk, htk⟩ : ∃ x, x = i + k := ⟨_, rfl⟩
            have hSt' : Hid (Blk w6 (B + 1) 37 #[.pointer (some ⟨B, 0, none⟩), .slice la (leftN M.s0 + k) lc, .int .i64 (it M.s0 (leftN M.s0)).nid]) := hSt0
            rw [← htk] at hSt ⊢
            have htk' : Hid (tk = i + k) := htk
            have htkb : tk ≤ 4096 := by omega
            have sv0 := hL6.hsv.cell 0
            have st1 := hSt.cell 1
            have st2 := hSt.cell 2
            have k0 := hC.cell 0
            have k1 := hC.cell 1
            have k2 := hC.cell 2
            have k3 := hC.cell 3
            have k4 := hC.cell 4
            have k5 := hC.cell 5
            simp at sv0 st1 st2 k0 k1 k2 k3 k4 k5
            have hLc' : Hid (∀ j, j < nl → lcsF[j]? = some (.pointer (some ⟨B + 6 + j, 0, none⟩))) := hLc
            have hLb' : Hid (Blk w6 (B + 3) 40 lcsF) := hLb
            clear hL6 hrun hC hLb hLc hSt hSt0 htk
            go_upto_block 12 with fail
            go_cut [36] from 301 to 316 (fun _ wc => ∃ nq, wc = w6.drewN nq)
            case first =>
              --[[
              go_wp2
              go_loopw [36, 301] (fun _ v301 wr => ∃ j : Nat, v301 = .int .i64 j ∧ j ≤ tk ∧ Draws w6 wr) (fun _ v301 _ => tk - (intOf v301).toNat)
              case atStart => exact ⟨0, rfl, Nat.zero_le _, Draws.refl _⟩
              case round =>
                obtain ⟨j, rfl, hjt, hdr⟩ := hrel
                obtain ⟨nq0, rfl⟩ := hdr
                by_cases hj : j < tk
                · have hdj : decide (j < tk) = true := decide_eq_true hj
                  obtain ⟨g, b, id, t, rfl, c0, c1, c2, d0, d1, d2⟩ := hL6'.out.recs hSt'.out (i := j) (by rw [← hiT'.out]; have := htk'.out; omega)
                  obtain ⟨j1, hj1⟩ : ∃ x, x = j + 1 := ⟨_, rfl⟩
                  have ej1 : (j : Int) + 1 = (j1 : Int) := by omega
                  have hj1' : Hid (j1 = j + 1) := hj1
                  clear hj1
                  go_upto_region 72 with fail
                  go_quiet (fail)
                  go_wp2
                  exact ⟨⟨j + 1, by rw [hj1'.out], hj, ⟨_, rfl⟩⟩, by have := hj1'.out; simp [intOf]; omega⟩
                · have hdj : decide (j < tk) = false := decide_eq_false hj
                  go_wp2
                  go_meet
                  case rel => exact ⟨_, rfl⟩
              --]]
            case rest =>
              obtain ⟨nq1, rfl⟩ := hcut
              go_upto_block 14 with fail
              go_cut [37] from 366 to 400 (fun _ wc => ∃ nq, wc = w6.drewN nq)
              case first =>
                --[[
                go_wp2
                go_loopw [37] (fun v37 wr => ∃ j : Nat, v37 = .int .i64 j ∧ j ≤ nl ∧ Draws w6 wr) (fun v37 _ => nl - (intOf v37).toNat)
                case atStart => exact ⟨0, rfl, Nat.zero_le _, ⟨_, rfl⟩⟩
                case round =>
                  obtain ⟨j, rfl, hjt, hdr⟩ := hrel
                  obtain ⟨nq0, rfl⟩ := hdr
                  by_cases hj : j < nl
                  · have hdj : decide (j < nl) = true := decide_eq_true hj
                    obtain ⟨d, va2, vc2, n9, hBl⟩ := hL6'.out.hl j hj
                    have l1 := hBl.cell 1
                    have l2 := hBl.cell 2
                    have l0 : w6.cell? ⟨B + 3, j, none⟩ = some (.pointer (some ⟨B + 6 + j, 0, none⟩)) := by rw [hLb'.out.cell]; exact hLc'.out j hj
                    simp at l1 l2
                    obtain ⟨j1, hj1⟩ : ∃ x, x = j + 1 := ⟨_, rfl⟩
                    have ej1 : (j : Int) + 1 = (j1 : Int) := by omega
                    have hj1' : Hid (j1 = j + 1) := hj1
                    have hptr := fun w => ptr_same w (B + 6 + j)
                    clear hj1 hBl
                    go_upto_region 84 with fail
                    go_quiet (fail)
                    go_wp2
                    exact ⟨⟨j + 1, by rw [hj1'.out], hj, ⟨_, rfl⟩⟩, by have := hj1'.out; simp [intOf]; omega⟩
                  · have hdj : decide (j < nl) = false := decide_eq_false hj
                    go_wp2
                    go_meet
                    case rel => exact ⟨_, rfl⟩
                --]]
              case rest =>
                obtain ⟨nq2, rfl⟩ := hcut
                go_wp2
                (try simp only [Exit.inBlock, Exit.then])
                go_ret
                exact ⟨by first | rfl | simp, below_drewN (by rw [← hB'.out]; exact hL6'.out.hb) _⟩
end Go.Proofs.Ybulkeeeq
