import Derived.Test.YbulkeeeqSeq
namespace Go.Proofs.Ybulkeeeq
open Go.RowKit Go.Shelf
attribute [local go_sem] Oper.semAt_some
set_option linter.unusedVariables false

theorem cut_unique {p : Nat → Prop} {n a b : Nat} (ha : Cut p n a) (hb : Cut p n b) : a = b := by
  rcases Nat.lt_trichotomy a b with h | h | h
  · exact absurd (hb.2.1 a h) (ha.2.2 a (Nat.le_refl _) (by have := hb.1; omega))
  · exact h
  · exact absurd (ha.2.1 b h) (hb.2.2 b (Nat.le_refl _) (by have := ha.1; omega))

/-- What the iterator reads. -/
structure KCells (x : World) (sB kB nb gR nR cR : Nat) (s : ByteArray) (n0 L M : Nat) (ek : Nat → Ent) : Prop where
  c1 : x.cell? ⟨sB, 0, none⟩ = some (.pointer (some ⟨nb, 59, none⟩))
  c2 : x.cell? ⟨kB, 0, none⟩ = some (.string s)
  c3 : x.cell? ⟨nb, 59, none⟩ = some (.slice (some ⟨gR, 0, none⟩) nR cR)
  rr : RRow x n0 gR nR L M ek
  size : n0 ≤ x.heap.size
/-- A round keeps what the iterator reads. -/
def KeepS (n0 sB kB : Nat) (W W' : World) : Prop := W.heap.size ≤ W'.heap.size ∧ ∀ k, (k < n0 ∨ k = sB ∨ k = kB) → k < W.heap.size → W'.heap[k]? = W.heap[k]?
theorem KeepS.of_below {n0 sB kB : Nat} {W W' : World} (h : Below W.heap.size W W') : KeepS n0 sB kB W W' := ⟨h.size, fun k _ hk => h.block k hk⟩
theorem KeepS.trans {n0 sB kB : Nat} {A B C : World} (h : KeepS n0 sB kB A B) (k : KeepS n0 sB kB B C) : KeepS n0 sB kB A C :=
  ⟨Nat.le_trans h.1 k.1, fun i hi hl => (k.2 i hi (Nat.lt_of_lt_of_le hl h.1)).trans (h.2 i hi hl)⟩
theorem cell_of_block {w w' : World} {b o : Nat} (h : w'.heap[b]? = w.heap[b]?) : w'.cell? ⟨b, o, none⟩ = w.cell? ⟨b, o, none⟩ := by simp only [World.cell?, h]
theorem KCells.keep {x y : World} {sB kB nb gR nR cR : Nat} {s : ByteArray} {n0 L M : Nat} {ek : Nat → Ent} (h : KCells x sB kB nb gR nR cR s n0 L M ek) (hk : KeepS n0 sB kB x y) (hnb : nb < n0) (hg : gR < n0) : KCells y sB kB nb gR nR cR s n0 L M ek := by
  have hs := h.size
  refine ⟨?_, ?_, ?_, fun r hr => ?_, Nat.le_trans hs hk.1⟩
  · rw [cell_of_block (hk.2 sB (Or.inr (Or.inl rfl)) (lt_of_cell h.c1))]; exact h.c1
  · rw [cell_of_block (hk.2 kB (Or.inr (Or.inr rfl)) (lt_of_cell h.c2))]; exact h.c2
  · rw [cell_of_block (hk.2 nb (Or.inl hnb) (by omega))]; exact h.c3
  · obtain ⟨b, c, q1, q2, q3, q4⟩ := h.rr r hr
    refine ⟨b, c, by rw [cell_of_block (hk.2 gR (Or.inl hg) (by omega))]; exact q1, q2, q3, fun e he j v hv => ?_⟩
    rw [cell_of_block (hk.2 b (Or.inl q2) (by omega))]; exact q4 e he j v hv

theorem KRow.keep {x y : World} {n0 sB kB b n : Nat} {ks : Nat → Ent} (h : KRow x b n ks) (hk : KeepS n0 sB kB x y) (hb : b < n0) (hn : n0 ≤ x.heap.size) : KRow y b n ks := fun e he j v hv => by
  rw [cell_of_block (hk.2 b (Or.inl hb) (by omega))]; exact h e he j v hv
/-- What is handed to the loop. -/
def encE (M : Nat) (ek : Nat → Ent) (x : { i : Nat // i < M }) : Array Value := #[.string (ek x.1).key, .agg (idA (ek x.1).hi (ek x.1).lo)]
theorem grown_of_below {W W' : World} (h : Below W.heap.size W W') : W.grownBy W' none := ⟨h.os, h.tape, h.output, h.size, fun k hk _ => h.block k hk⟩

set_option maxHeartbeats 4000000 in
set_option maxRecDepth 100000 in
theorem from_calls (n l sB kB nb gR nR cR n0 L M p0 : Nat) (ek : Nat → Ent) (s : ByteArray) (J Jx : List { i : Nat // i < M } → World → Prop) (W : World) (hJ : AbidesFrom W.heap.size J)
    (hY : ∀ pre x W1, J pre W1 → pre.length < M → YieldAt Fence.wide (n - 1) Yba.prog l (encE M ek x) W1 fun e W' => (e = .returned (.bool true) ∧ J (pre ++ [x]) W' ∧ KeepS n0 sB kB W1 W') ∨ (e = .returned (.bool false) ∧ Jx (pre ++ [x]) W'))
    (h0 : J [] W) (hK : KCells W sB kB nb gR nR cR s n0 L M ek) (hnb : nb < n0) (hg : gR < n0) (hP : Parts L M nR) (hf : Falls (klt ek s) M) (hp0 : Cut (klt ek s) M p0) (hM : M ≤ 65536) (hnR : 0 < nR) (hnR2 : nR ≤ 65536) :
    Calls Yba.prog 39 #[.func (.yield l) #[] #[], .pointer (some ⟨sB, 0, none⟩), .pointer (some ⟨kB, 0, none⟩)] W fun e W' => (∃ v, e = .returned v) ∧ ((∃ xs, xs = upto M p0 (M - p0) ∧ J xs W') ∨ (∃ pre, (∃ k, p0 + k ≤ M ∧ pre = upto M p0 k) ∧ Jx pre W')) := by
  have hJ' : Hid (∀ pre A B, J pre A → Below A.heap.size A B → J pre B) := fun pre A B h1 h2 => hJ pre A B none h1 (grown_of_below h2) (fun r e => by cases e)
  have hY' : Hid (∀ pre x W1, J pre W1 → pre.length < M → YieldAt Fence.wide (n - 1) Yba.prog l (encE M ek x) W1 fun e W' => (e = .returned (.bool true) ∧ J (pre ++ [x]) W' ∧ KeepS n0 sB kB W1 W') ∨ (e = .returned (.bool false) ∧ Jx (pre ++ [x]) W')) := hY
  have hkeep : Hid (∀ x y, KCells x sB kB nb gR nR cR s n0 L M ek → KeepS n0 sB kB x y → KCells y sB kB nb gR nR cR s n0 L M ek) := fun x y h1 h2 => h1.keep h2 hnb hg
  have hK' : Hid (KCells W sB kB nb gR nR cR s n0 L M ek) := hK
  have hP' : Hid (Parts L M nR) := hP
  have hf' : Hid (Falls (klt ek s) M) := hf
  have hp0' : Hid (Cut (klt ek s) M p0) := hp0
  have h0' : Hid (J [] W) := h0
  have c1 := hK.c1
  have c2 := hK.c2
  have c3 := hK.c3
  have hz : decide (nR = 0) = false := decide_eq_false (by omega)
  have hcall : Hid (Calls Yba.prog 40 #[.pointer (some ⟨nb, 59, none⟩), .string s] W fun ex w' => ∃ i c : Nat, ex = .returned (.int .i64 i) ∧ Cut (rlt ek L M s) nR c ∧ i = min c (nR - 1) ∧ Below W.heap.size W w') :=
    runOf_calls n0 nb gR nR cR L M ek s W hnR2 hM hK.rr hK.c3 hg hnb hK.size hnR (fun r hr => hP.rpos r hr) (falls_last hP hf)
  clear hJ hY hK hP hf hp0 h0
  go_enter Yba.func39, Yba.ntmps39
  go_upto_region 2 with (go_at_call 40; refine hcall.out.mono ?_; rintro ex w2 ⟨i, c, rfl, q1, q2, q3⟩; have q2' : Hid (i = min c (nR - 1)) := q2; clear q2)
  have hin : i < nR := by have := q2'.out; omega
  have q1' : Hid (Cut (rlt ek L M s) nR c) := q1
  have hK2 := hkeep.out W w2 hK'.out (KeepS.of_below q3)
  have hK2' : Hid (KCells w2 sB kB nb gR nR cR s n0 L M ek) := hK2
  have hJ2 : Hid (J [] w2) := hJ'.out _ _ _ h0'.out q3
  obtain ⟨rb, rc, hl, hrb, hrc, hkr⟩ := hK2.rr i hin
  obtain ⟨rl, hrl⟩ : ∃ x, x = rlen L M i := ⟨_, rfl⟩
  have hrl' : Hid (rl = rlen L M i) := hrl
  rw [← hrl] at hl hrc
  have hcall2 : Hid (∀ x, Below w2.heap.size w2 x → Calls Yba.prog 41 #[.slice (some ⟨rb, 0, none⟩) rl rc, .string s, .func (.func 42) #[] #[]] x fun ex w' => ∃ (j : Nat) (fd : Bool), ex = .returned (.tuple #[.int .i64 j, .bool fd]) ∧ Cut (klt (fun e => ek (i * L + e)) s) rl j ∧ Below w2.heap.size w2 w') := fun x hx => by
    have hb2 : rb < w2.heap.size := Nat.lt_of_lt_of_le hrb hK2.size
    rw [hrl]
    exact (search_calls rb (rlen L M i) rc _ s x (by unfold rlen; omega) (hkr.below hx hb2) (Nat.lt_of_lt_of_le hb2 hx.size) (falls_run hP'.out hf'.out i hin)).mono fun _ _ ⟨j, fd, r1, r2, r3⟩ => ⟨j, fd, r1, r2, hx.trans (r3.mono hx.size)⟩
  have d1 := hK2.c1
  have d2 := hK2.c2
  have d3 := hK2.c3
  have hi1 : (0 : Int) ≤ (i : Int) := by omega
  have hi2 : (i : Int) < (nR : Int) := by omega
  have hb0 : Hid (Below w2.heap.size w2 w2.drew) := (Below.refl _ w2).drew
  clear q1 q3 hK2 hrl hrb hkr hcall c1 c2 c3 hz h0' hK'
  go_region_held3 (fun x => x.cell? ⟨sB, 0, none⟩ = some (.pointer (some ⟨nb, 59, none⟩)) ∧ x.cell? ⟨kB, 0, none⟩ = some (.string s) ∧ x.cell? ⟨nb, 59, none⟩ = some (.slice (some ⟨gR, 0, none⟩) nR cR) ∧ x.cell? ⟨gR, i, none⟩ = some (.slice (some ⟨rb, 0, none⟩) rl rc))
    (first | exact ⟨d1, d2, d3, hl⟩ | exact ⟨by rw [hq3.out.cell (by exact lt_of_cell d1)]; exact d1, by rw [hq3.out.cell (by exact lt_of_cell d2)]; exact d2, by rw [hq3.out.cell (by exact lt_of_cell d3)]; exact d3, by rw [hq3.out.cell (by exact lt_of_cell hl)]; exact hl⟩)
    (first | (go_at_call 41; refine (hcall2.out _ hb0.out).mono ?_; rintro ex w3 ⟨j, fd, rfl, q4, q5⟩; have hq3 : Hid (Below w2.heap.size w2 w3) := q5; have q4' : Hid (Cut (klt (fun e => ek (i * L + e)) s) rl j) := q4; clear q4 q5))
  have hK3 : Hid (KCells w3 sB kB nb gR nR cR s n0 L M ek) := hkeep.out _ _ hK2'.out (KeepS.of_below hq3.out)
  have hJ3 : Hid (J [] w3) := hJ'.out _ _ _ hJ2.out hq3.out
  have hst : Hid (p0 = i * L + j ∧ j ≤ rlen L M i ∧ p0 ≤ M) := by
    have h1 := q4'.out
    rw [hrl'.out] at h1
    exact ⟨cut_unique hp0'.out (cut_all hP'.out hf'.out hnR q1'.out q2'.out h1), h1.1, hp0'.out.1⟩
  clear hK2' hJ2 hq3 q4' q1' q2' hcall2 hb0 d1 d2 d3 hl hrc hi1 hi2 hrl'
  rename_i hHeld
  clear hHeld
  go_upto_block 0 with fail
  go_wp2
  go_loopw [4, 5, 8] (fun v4 v5 _ wr => ∃ i j p : Nat, v4 = .int .i64 i ∧ v5 = .int .i64 j ∧ p0 ≤ p ∧ p ≤ M ∧ ((i < nR ∧ p = i * L + j ∧ j ≤ rlen L M i) ∨ (i = nR ∧ p = M)) ∧ J (upto M p0 (p - p0)) wr ∧ KCells wr sB kB nb gR nR cR s n0 L M ek) (fun v4 _ _ _ => nR - (intOf v4).toNat)
  case atStart => exact ⟨i, j, p0, rfl, rfl, Nat.le_refl _, hst.out.2.2, Or.inl ⟨hin, hst.out.1, hst.out.2.1⟩, by rw [Nat.sub_self]; exact hJ3.out, hK3.out⟩
  case round =>
    clear hst hJ3 hK3 hin
    obtain ⟨i, j, p, rfl, rfl, hp1, hp2, hpos, hJw, hKw⟩ := hrel
    have hJw' : Hid (J (upto M p0 (p - p0)) wr) := hJw
    have hKw' : Hid (KCells wr sB kB nb gR nR cR s n0 L M ek) := hKw
    have d1 := hKw.c1
    have d2 := hKw.c2
    have d3 := hKw.c3
    rcases hpos with ⟨hi, hpe, hjr⟩ | ⟨hi, hpe⟩
    · have hdi : decide (i < nR) = true := decide_eq_true hi
      obtain ⟨rb, rc, hl, hrb, hrc, hkr⟩ := hKw.rr i hi
      obtain ⟨rl, hrl⟩ : ∃ x, x = rlen L M i := ⟨_, rfl⟩
      have hrl' : Hid (rl = rlen L M i) := hrl
      rw [← hrl] at hl hrc hjr
      obtain ⟨ra, hcut, hra⟩ := run_cut74 wr rb rl rc j hjr hrc
      have hra' : Hid (j < rl → ra = some ⟨rb, j * 21, none⟩) := hra
      obtain ⟨m, hm⟩ : ∃ x, x = rl - j := ⟨_, rfl⟩
      rw [← hm] at hcut
      have hm' : Hid (m = rl - j) := hm
      have hpe' : Hid (p = i * L + j) := hpe
      have hrb' : Hid (rb < n0) := hrb
      have hfit : Hid (i * L + rl ≤ M) := by rw [hrl]; exact hP'.out.fit i hi
      have hmb : m ≤ 65536 := by have := hfit.out; omega
      obtain ⟨i1, hi1⟩ : ∃ x, x = i + 1 := ⟨_, rfl⟩
      have ei1 : (i : Int) + 1 = (i1 : Int) := by omega
      have hi1' : Hid (i1 = i + 1) := hi1
      have hjr' : Hid (j ≤ rl) := hjr
      have hkr' : Hid (KRow wr rb rl (fun e => ek (i * L + e))) := by rw [hrl]; exact hkr
      clear hJw hKw hrl hra hm hpe hrb hkr hi1 hjr hrc
      go_upto_block 1 with fail
      go_cut [8] from 39 to 60 (fun _ wc => J (upto M p0 (p + m - p0)) wc ∧ KCells wc sB kB nb gR nR cR s n0 L M ek)
      case first =>
        go_wp2
        go_loopw [8, 49] (fun _ v49 wx => ∃ e : Nat, v49 = .int .i64 e ∧ e ≤ m ∧ J (upto M p0 (p + e - p0)) wx ∧ KCells wx sB kB nb gR nR cR s n0 L M ek ∧ KRow wx rb rl (fun e => ek (i * L + e))) (fun _ v49 _ => m - (intOf v49).toNat)
        case atStart => exact ⟨0, rfl, Nat.zero_le _, hJw'.out, hKw'.out, hkr'.out⟩
        case round =>
          obtain ⟨e, rfl, hem, hJx1, hKx, hkx⟩ := hrel
          have hkx' : Hid (KRow wr rb rl (fun e => ek (i * L + e))) := hkx
          have hJx' : Hid (J (upto M p0 (p + e - p0)) wr) := hJx1
          have hKx' : Hid (KCells wr sB kB nb gR nR cR s n0 L M ek) := hKx
          by_cases hlt : e < m
          · have hdl : decide (e < m) = true := decide_eq_true hlt
            have hjl : j < rl := by have := hm'.out; omega
            obtain rfl : ra = some ⟨rb, j * 21, none⟩ := hra'.out hjl
            obtain ⟨q, hq⟩ : ∃ x, x = p + e := ⟨_, rfl⟩
            have hqM : q < M := by have := hfit.out; have := hm'.out; have := hpe'.out; omega
            have hld : Hid (wr.rangeAt rb (j * 21 + e * 21) (kidA (ek q).key (ek q).hi (ek q).lo).toList) := by
              have h1 := hkx (j + e) (by have := hm'.out; omega)
              dsimp only at h1
              rw [show i * L + (j + e) = q by have := hpe'.out; omega, Nat.add_mul] at h1
              exact h1
            obtain ⟨kq, hkq⟩ : ∃ x, x = (ek q).key := ⟨_, rfl⟩
            obtain ⟨hiq, hhiq⟩ : ∃ x, x = (ek q).hi := ⟨_, rfl⟩
            obtain ⟨loq, hloq⟩ : ∃ x, x = (ek q).lo := ⟨_, rfl⟩
            rw [← hkq, ← hhiq, ← hloq] at hld
            obtain ⟨e1, he1⟩ : ∃ x, x = e + 1 := ⟨_, rfl⟩
            have ee1 : (e : Int) + 1 = (e1 : Int) := by omega
            have he1' : Hid (e1 = e + 1) := he1
            have hq' : Hid (q = p + e) := hq
            have henc : Hid (encE M ek ⟨q, hqM⟩ = #[.string kq, .agg (idA hiq loq)]) := by unfold Hid encE; rw [hkq, hhiq, hloq]
            have hup : Hid (upto M p0 (q - p0) ++ [⟨q, hqM⟩] = upto M p0 (p + e1 - p0)) := by
              have h1 := upto_succ (M := M) (p0 := p0) (k := q - p0) (by omega)
              have h2 : p + e1 - p0 = q - p0 + 1 := by omega
              unfold Hid
              rw [h2, h1]
              congr 3
              omega
            clear hJx1 hKx hkx hkq hhiq hloq he1 hq
            go_upto_region 8 with (first
              | ((with_reducible refine wpList_load79 _ (o := ⟨some 52, _, _, _, _, _⟩) ?_ (.tmp 51) ?_ rb (j * 21 + e * 21) hiq loq kq ?_ hld.out ?_); (· rfl); (· rfl); (· (first | rfl | simp [Act.eval])))
              | ((with_reducible refine wpList_store79 _ (o := ⟨none, Op.store 79 _ _, _, _, _, _⟩) ?_ (.tmp 8) (.tmp 52) ?_ wr.heap.size hiq loq kq _ ?_ ?_ (Blk.new _ _ _) ?_ ?_); (· rfl); (· rfl); (· rfl); (· rfl); (· rfl); intro w5 r1 r2))
            have hb5 : Hid (Below wr.heap.size wr w5) := ((Below.refl _ wr).alloc (Nat.le_refl _) _).trans (r2.below (Nat.le_refl _))
            have hJ5 : J (upto M p0 (q - p0)) w5 := hJ'.out _ _ _ (by rw [hq'.out]; exact hJx'.out) hb5.out
            have hK5 : Hid (KCells w5 sB kB nb gR nR cR s n0 L M ek) := hkeep.out _ _ hKx'.out (KeepS.of_below hb5.out)
            have hk5 : Hid (KRow w5 rb rl (fun e => ek (i * L + e))) := hkx'.out.keep (sB := sB) (kB := kB) (KeepS.of_below hb5.out) hrb'.out hKx'.out.size
            obtain ⟨fn, tmps, assign, body, hy, hR⟩ := hY'.out _ ⟨q, hqM⟩ w5 hJ5 (by rw [upto_len (by omega)]; omega)
            rw [henc.out] at hy
            have ck := r1.cell 0
            have ck2 : w5.cell? ⟨wr.heap.size, 0, none⟩ = some (.string kq) := by rw [ck]; rfl
            have hid : Hid (w5.rangeAt wr.heap.size 1 (idA hiq loq).toList) := kid_id r1
            clear r1 r2 ck hJ5 hld
            go_frame
            refine (wpIn_wide (n := n)).1 ?_
            gi_wp2_with ((with_reducible refine wpListIn_load76m _ (o := ⟨some 57, _, _, _, _, _⟩) ?_ (.tmp 56) ?_ wr.heap.size 1 hiq loq ?_ hid.out ?_); (· rfl); (· rfl); (· rfl))
            refine ⟨fun h => (by simp [Fence.wide] at h), hR.mono ?_⟩
            rintro ex W3 (⟨rfl, hJ6, hk6⟩ | ⟨rfl, hJ6⟩)
            · have hJ7 : Hid (J (upto M p0 (p + e1 - p0)) W3) := by rw [← hup.out]; exact hJ6
              have hK7 : Hid (KCells W3 sB kB nb gR nR cR s n0 L M ek) := hkeep.out _ _ hK5.out hk6
              have hk7 : Hid (KRow W3 rb rl (fun e => ek (i * L + e))) := hk5.out.keep hk6 hrb'.out hK5.out.size
              clear hJ6 hk6 hy hR
              gi_wp2
              go_wp2
              exact ⟨⟨e1, rfl, by have := he1'.out; omega, hJ7.out, hK7.out, hk7.out⟩, by have := he1'.out; simp [intOf]; omega⟩
            · have hJ7 : Hid (Jx (upto M p0 (p + e1 - p0)) W3) := by rw [← hup.out]; exact hJ6
              clear hJ6 hy hR
              gi_wp2
              go_wp2
              go_returns
              exact ⟨⟨_, rfl⟩, .inr ⟨_, ⟨p + e1 - p0, by have := he1'.out; have := hq'.out; omega, rfl⟩, hJ7.out⟩⟩
          · have hdl : decide (e < m) = false := decide_eq_false hlt
            obtain rfl : e = m := by omega
            clear hJx1 hKx hkx
            go_wp2
            go_meet
            case rel => exact ⟨hJx'.out, hKx'.out⟩
      case rest =>
        obtain ⟨hJc, hKc⟩ := hcut
        have hJc' : Hid (J (upto M p0 (p + m - p0)) wc) := hJc
        have hKc' : Hid (KCells wc sB kB nb gR nR cR s n0 L M ek) := hKc
        clear hJc hKc
        go_wp2
        have h1 := hm'.out
        have h2 := hpe'.out
        have h3 := hfit.out
        have h4 := hrl'.out
        have h5 := hi1'.out
        have h6 := hjr'.out
        refine ⟨⟨i1, 0, p + m, rfl, rfl, by omega, by omega, ?_, hJc'.out, hKc'.out⟩, by simp [intOf]; omega⟩
        rcases hP'.out.next i hi with ⟨n1, n2⟩ | ⟨n1, n2⟩
        · refine Or.inl ⟨by omega, ?_, Nat.zero_le _⟩
          rw [h5, ← n2, ← h4]; omega
        · rw [← h4] at n2
          exact Or.inr ⟨by omega, by omega⟩
    · have hdi : decide (i < nR) = false := decide_eq_false (by omega)
      rw [hpe] at hJw
      have hJM : Hid (J (upto M p0 (M - p0)) wr) := hJw
      clear hJw hKw hi hpe hJw'
      go_wp2
      go_returns
      exact ⟨⟨_, rfl⟩, .inl ⟨_, rfl, hJM.out⟩⟩
end Go.Proofs.Ybulkeeeq
