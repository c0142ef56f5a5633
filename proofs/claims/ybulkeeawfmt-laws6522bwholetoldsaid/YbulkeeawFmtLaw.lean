import Derived.Test.YbulkeeawFmtFetch
import Derived.Deep.RegionWith
import Derived.Deep.CutBlock
import Derived.Deep.Light
namespace Go.Proofs.YbulkeeawFmt
open Go.RowKit
set_option linter.unusedVariables false

theorem info29 : (Ybaf.prog.info? 29).map (fun i => (i.zero, i.size, i.bytes)) = some (some (.agg #[.int .i64 0, .int .i64 0, .int .i64 0, .int .i64 0]), 4, 32) := by kernel_rfl

theorem owns_made {w : World} {g base : Nat} {T : TypeId} {cs : Array Value} {c : Nat} (hb : Blk w g T cs) (hg : base ≤ g) (hm : c ≤ maxLen) (hs : cs.size = c) :
    w.ownsRow base T 1 (.slice (some ⟨g, 0, none⟩) 0 c) 0 ((List.range 0).map (fun _ : Nat => Value.int .i64 0)) :=
  ⟨by simp, .inr ⟨g, c, cs, rfl, hg, hb, Nat.zero_le _, hm, by omega, by simp⟩⟩

theorem range_snoc {f : Nat → Value} (k : Nat) : (List.range (k + 1)).map f = (List.range k).map f ++ [f k] := by
  rw [List.range_succ, List.map_append]; rfl

theorem made_get (z : Value) (n q : Nat) (hq : q < n) : (madeCells #[z] n)[q]? = some z := by
  simp [madeCells, hq, Nat.mod_one]

theorem dl_mono (cs st : Nat) {a b : Nat} (h : a ≤ b) : dl cs st a ≤ dl cs st b := by
  unfold dl; exact Nat.add_le_add_right (Nat.mul_le_mul_right cs h) st

/-- The first chunk whose deadline is not past is one. -/
theorem old_unique {cs st C old o eO slot t2 : Nat} (h1 : old ≤ o) (h2 : o ≤ C + 1) (h3 : ∀ q, old ≤ q → q < o → dl cs st (q - 1) < t2) (h4 : o = C + 1 ∨ t2 ≤ dl cs st (o - 1))
    (g0 : ∀ q, 1 ≤ q → q < old → dl cs st (q - 1) < slot) (hs : slot ≤ t2) (hold : 1 ≤ old)
    (g1 : 1 ≤ eO) (g2 : eO ≤ C + 1) (g3 : ∀ q, 1 ≤ q → q < eO → dl cs st (q - 1) < t2) (g4 : eO = C + 1 ∨ t2 ≤ dl cs st (eO - 1)) : o = eO := by
  rcases Nat.lt_trichotomy o eO with h | h | h
  · have := g3 o (by omega) h
    omega
  · exact h
  · rcases Nat.lt_or_ge eO old with k | k
    · have := g0 eO g1 k
      omega
    · have := h3 eO k h
      omega

theorem held_unique {S1 : Nat → Bool} {C old o hd : Nat} (h1 : old ≤ o) (h2 : o ≤ C + 1) (hold : 1 ≤ old) (h : hd + cntT S1 (old - 1) (o - old) = cntT S1 (old - 1) (C + 1 - old)) : hd = cntT S1 (o - 1) (C + 1 - o) := by
  have := cntT_add S1 (old - 1) (o - old) (C + 1 - o)
  rw [show o - old + (C + 1 - o) = C + 1 - old by omega, show old - 1 + (o - old) = o - 1 by omega] at this
  omega

/-- The first q spans. -/
def SpanTo (cs : Array Value) (m : Nat) (kb : Nat → Nat) (q : Nat) : Prop := cs.size = m * 4 ∧ ∀ j, j < q → cs[j * 4]? = some (.int .i64 (1000 * j : Nat)) ∧ cs[j * 4 + 1]? = some (.int .i64 (1000 * (j + 1) : Nat)) ∧ cs[j * 4 + 2]? = some (.int .i64 (P kb j : Nat)) ∧ cs[j * 4 + 3]? = some (.int .i64 (kb j : Nat))

theorem SpanTo.step {cs : Array Value} {m : Nat} {kb : Nat → Nat} {q : Nat} (h : SpanTo cs m kb q) (hq : q < m) :
    SpanTo ((((cs.setIfInBounds (q * 4) (.int .i64 (1000 * (q : Int)))).setIfInBounds (q * 4 + 1) (.int .i64 (1000 * ((q : Int) + 1)))).setIfInBounds (q * 4 + 2) (.int .i64 (P kb q : Nat))).setIfInBounds (q * 4 + 3) (.int .i64 (kb q : Nat))) m kb (q + 1) := by
  obtain ⟨hs, hc⟩ := h
  refine ⟨by simpa using hs, fun j hj => ?_⟩
  by_cases e : j = q
  · subst e
    refine ⟨?_, ?_, ?_, ?_⟩
    · rw [Array.getElem?_setIfInBounds_ne (by omega), Array.getElem?_setIfInBounds_ne (by omega), Array.getElem?_setIfInBounds_ne (by omega), Array.getElem?_setIfInBounds_self_of_lt (by omega)]; simp
    · rw [Array.getElem?_setIfInBounds_ne (by omega), Array.getElem?_setIfInBounds_ne (by omega), Array.getElem?_setIfInBounds_self_of_lt (by simp; omega)]; simp
    · rw [Array.getElem?_setIfInBounds_ne (by omega), Array.getElem?_setIfInBounds_self_of_lt (by simp; omega)]
    · rw [Array.getElem?_setIfInBounds_self_of_lt (by simp; omega)]
  · have hk : ∀ c, c < 4 → ((((cs.setIfInBounds (q * 4) (.int .i64 (1000 * (q : Int)))).setIfInBounds (q * 4 + 1) (.int .i64 (1000 * ((q : Int) + 1)))).setIfInBounds (q * 4 + 2) (.int .i64 (P kb q : Nat))).setIfInBounds (q * 4 + 3) (.int .i64 (kb q : Nat)))[j * 4 + c]? = cs[j * 4 + c]? := fun c hcc => by
      rw [Array.getElem?_setIfInBounds_ne (by omega), Array.getElem?_setIfInBounds_ne (by omega), Array.getElem?_setIfInBounds_ne (by omega), Array.getElem?_setIfInBounds_ne (by omega)]
    have h1 := hc j (by omega)
    exact ⟨(hk 0 (by omega)).trans h1.1, (hk 1 (by omega)).trans h1.2.1, (hk 2 (by omega)).trans h1.2.2.1, (hk 3 (by omega)).trans h1.2.2.2⟩

theorem SpanTo.tr {w : World} {cs : Array Value} {m sp T : Nat} {kb : Nat → Nat} (h : SpanTo cs m kb m) (hb : Blk w sp 29 cs) (hT : Blk w T 32 #[.int .i64 (1000 * (m : Int)), .int .i64 (P kb m : Nat), .slice (some ⟨sp, 0, none⟩) m m]) (hm1 : 1 ≤ m) (hm2 : m ≤ 65537) (k5 : ∀ q, kb q ≤ 5) : Tr w T sp kb m :=
  ⟨by rw [show ((1000 * m : Nat) : Int) = 1000 * (m : Int) by omega]; exact hT, hb.lt, fun q hq => by rw [hb.cell]; exact (h.2 q hq).1, fun q hq => by rw [hb.cell]; exact (h.2 q hq).2.1, fun q hq => by rw [hb.cell]; exact (h.2 q hq).2.2.1, fun q hq => by rw [hb.cell]; exact (h.2 q hq).2.2.2, hm1, hm2, k5⟩

set_option maxHeartbeats 0 in
set_option maxRecDepth 100000 in
theorem law_calls (a0 : Option Addr) (n0 c0 : Nat) (r : Nat → Nat) (of : Nat) (a2 : Option Addr) (n2 c2 : Nat) (l : Nat → Nat) (x3 x4 x5 x6 x7 : Nat) (a8 : Option Addr) (n8 c8 : Nat) (ls : Nat → Nat) (a9 : Option Addr) (n9 c9 : Nat) (ss : Nat → Bool) (x10 : Nat) (w : World)
    (hr : Reads w a0 n0 (fun i => .int .u8 (r i : Nat))) (hl : Reads w a2 n2 (fun i => .int .u16 (l i : Nat))) (hls : Reads w a8 n8 (fun i => .int .u8 (ls i : Nat))) (hss : Reads w a9 n9 (fun i => .bool (ss i)))
    (hof : of ≤ 255) (hx3 : x3 ≤ 255) (hx4 : x4 ≤ 255) (hx5 : x5 ≤ 255) (hx6 : x6 ≤ 65535) (hx7 : x7 ≤ 65535) (hx10 : x10 ≤ 255) (hrb : Hid (∀ i, i < n0 → r i ≤ 255)) (hlb : Hid (∀ i, i < n2 → l i ≤ 65535)) (hlsb : Hid (∀ i, i < n8 → ls i ≤ 255)) :
    Calls Ybaf.prog 3 #[.slice a0 n0 c0, .int .u8 of, .slice a2 n2 c2, .int .u8 x3, .int .u8 x4, .int .u8 x5, .int .u16 x6, .int .u16 x7, .slice a8 n8 c8, .slice a9 n9 c9, .int .u8 x10] w fun e w' => e = .returned (.bool true) ∧ Below w.heap.size w w' := by
  obtain ⟨i0, hi, hz0, hz1, hz2⟩ := info_parts info2
  by_cases hb0 : 65536 < n0
  · go_enter Ybaf.func3, Ybaf.ntmps3
    go_wp2
    go_ret
    exact ⟨rfl, Below.refl _ _⟩
  by_cases hb2 : 65536 < n2
  · go_enter Ybaf.func3, Ybaf.ntmps3
    go_wp2
    go_ret
    exact ⟨rfl, Below.refl _ _⟩
  go_enter Ybaf.func3, Ybaf.ntmps3
  go_wp2_with (refine wpList_make_blk (P := Ybaf.prog) _ (o := ⟨some 80, _, _, _, _, _⟩) rfl _ _ 26 rfl 2 i0 _ 1 Ybaf.underlying26 hi hz0 hz1 .i64 .i64 0 ((n0 : Int) + 1) 0 (n0 + 1) rfl rfl rfl ?hC (Nat.zero_le _) ?hby ?mx ?_)
  case hC => omega
  case hby => rw [hz2]; omega
  case mx => unfold maxLen; omega
  intro w1 hbk hsz1 hbel1
  have hown1 := owns_made (base := w.heap.size) (c := n0 + 1) hbk (Nat.le_refl _) (by unfold maxLen; omega) (by simp [madeCells])
  clear hbk hsz1
  go_wp2
  go_loopw [23, 24] (fun vb vi wr => ∃ k : Nat, vi = .int .i64 k ∧ k ≤ n0 ∧ wr.ownsRow w.heap.size 2 1 vb k ((List.range k).map fun q => Value.int .i64 (r q % 6 : Nat)) ∧ vb ≠ .slice none 0 0 ∧ Below w.heap.size w wr)
    (fun _ vi _ => n0 - (intOf vi).toNat)
  case atStart => exact ⟨0, rfl, Nat.zero_le _, by simpa using hown1, by simp, hbel1⟩
  case round =>
    obtain ⟨k, rfl, hk, hown, hnn, hbel⟩ := hrel
    clear hown1 hbel1
    by_cases hkn : k < n0
    · --[[
      obtain ⟨b1, o1, rfl, hb1lt, c1'⟩ := hr k hkn
      have c1 : wr.cell? ⟨b1, o1 + k, none⟩ = some (.int .u8 (r k : Nat)) := by rw [hbel.cell (by exact hb1lt)]; exact c1'
      have hrk := hrb.out k hkn
      generalize hrkv : r k = rk at c1 hrk
      clear c1'
      go_wp2_with (at_builtin; refine wpList_append_own _ rfl _ _ 26 rfl w.heap.size 2 i0 (.int .i64 0) 1 8 Ybaf.underlying26 hi hz0 hz1 hz2 rfl (by decide) _ _ _ rfl (hown.alloc _) ⟨wr.heap.size, 0, none⟩ 1 1 [Value.int .i64 (rk % 6 : Nat)] rfl rfl ?c1 ?c2 ?c3 ?c4 ?c5 ?_)
      case c1 =>
        intro j u hj
        match j, hj with
        | 0, hj => simp at hj; subst hj; simp [Addr.add]
      case c2 => intro u hu; simp at hu; subst hu; rfl
      case c3 => unfold maxLen; omega
      case c4 => omega
      case c5 => have := hbel.size; simp; omega
      intro v' w2 hown' hgrow hnn'
      have hbel2 : Below w.heap.size w w2 := (hbel.alloc (by have := hbel.size; omega) _).grown hgrow (by have := hbel.size; simp; omega) (fun k hk => (hown.lt k hk).1)
      go_wp2
      go_roundw
      case rel =>
        refine ⟨k + 1, by go_num, by omega, ?_, hnn', hbel2⟩
        rw [range_snoc, hrkv]
        exact hown'
      case measure => simp [intOf]; omega
      --]]
    · have hkn' : n0 = k := by omega
      subst hkn'
      obtain ⟨g0, c0', rfl, hg0, hg0l, hrow0, hcap0⟩ := Row.of_owns hown hnn
      obtain ⟨m, hm⟩ : ∃ m, m = if n0 = 0 then 1 else n0 := ⟨_, rfl⟩
      obtain ⟨kb, hkb⟩ : ∃ kb : Nat → Nat, kb = fun q => if n0 = 0 then 1 else r q % 6 := ⟨_, rfl⟩
      have hm1 : 1 ≤ m := by rw [hm]; split <;> omega
      have hm2 : m ≤ 65537 := by rw [hm]; split <;> omega
      have k5 : ∀ q, kb q ≤ 5 := by intro q; rw [hkb]; simp only []; split <;> omega
      have hm' : Hid (m = if n0 = 0 then 1 else n0) := hm
      have hkb' : Hid (kb = fun q => if n0 = 0 then 1 else r q % 6) := hkb
      have k5' : Hid (∀ q, kb q ≤ 5) := k5
      clear hm hkb k5
      go_upto_if 98 with fail
      go_cut [23] from 98 to 101 (fun v wc => ∃ g c, v = .slice (some ⟨g, 0, none⟩) m c ∧ w.heap.size ≤ g ∧ Row wc g 2 m (fun q => .int .i64 (kb q : Nat)) ∧ Below w.heap.size w wc)
      case first =>
        --[[
        by_cases h0 : n0 = 0
        · have hd : ((n0 : Int) == 0) = true := by simp [h0]
          have hm9 : Hid (m = 1) := by unfold Hid; rw [hm'.out, if_pos h0]
          have h0' : Hid (n0 = 0) := h0
          clear h0
          go_wp2_with (at_builtin; refine wpList_append_own _ rfl _ _ 26 rfl w.heap.size 2 i0 (.int .i64 0) 1 8 Ybaf.underlying26 hi hz0 hz1 hz2 rfl (by decide) _ _ _ rfl (hown.alloc _) ⟨wr.heap.size, 0, none⟩ 1 1 [Value.int .i64 1] rfl rfl ?c1 ?c2 ?c3 ?c4 ?c5 ?_)
          case c1 =>
            intro j u hj
            match j, hj with
            | 0, hj => simp at hj; subst hj; simp [Addr.add]
          case c2 => intro u hu; simp at hu; subst hu; rfl
          case c3 => unfold maxLen; omega
          case c4 => omega
          case c5 => have := hbel.size; simp; omega
          intro v' w2 hown' hgrow hnn'
          have hbel2 : Below w.heap.size w w2 := (hbel.alloc (by have := hbel.size; omega) _).grown hgrow (by have := hbel.size; simp; omega) (fun k hk => (hown.lt k hk).1)
          have hown2 : w2.ownsRow w.heap.size 2 1 v' m ((List.range m).map fun q => Value.int .i64 (kb q : Nat)) := by
            rw [hm9.out, hkb'.out]
            have h0 := h0'.out
            clear hd
            subst h0
            exact hown'
          obtain ⟨g1, c1, rfl, h1, h2, h3, h4⟩ := Row.of_owns hown2 hnn'
          go_wp2
          go_meet
          case rel => exact ⟨g1, c1, rfl, h1, h3, hbel2⟩
        · have hd : ((n0 : Int) == 0) = false := by simp [h0]
          have hm9 : m = n0 := by rw [hm'.out, if_neg h0]
          clear hm'
          subst hm9
          go_wp2
          go_meet
          case rel => exact ⟨g0, c0', rfl, hg0, hrow0.congr (fun q hq => by rw [hkb'.out]; simp [h0]), hbel⟩
        --]]
      case rest =>
        obtain ⟨gk, ck, rfl, hgk, hrowk, hbelc⟩ := hcut
        clear hown hnn hrow0 hcap0 hg0l hg0 hbel hm' hkb' hrb
        obtain ⟨i9, hi9, hz9, hs9, hby9⟩ := info_parts info29
        go_upto_block 2 with (refine wpList_make_blk (P := Ybaf.prog) _ (o := ⟨some 105, _, _, _, _, _⟩) rfl _ _ 27 rfl 29 i9 _ 4 Ybaf.underlying27 hi9 hz9 hs9 .i64 .i64 (m : Int) (m : Int) m m rfl rfl rfl rfl (Nat.le_refl _) ?hby ?mx ?_)
        case hby => rw [hby9]; omega
        case mx => unfold maxLen; omega
        intro w2 hb2 hsz2 hbel2
        obtain ⟨cs0, hcs0, hb2'⟩ : ∃ cs : Array Value, cs.size = m * 4 ∧ Blk w2 wc.heap.size 29 cs := ⟨_, by simp [madeCells], hb2⟩
        obtain ⟨sp, hspv⟩ : ∃ sp, sp = wc.heap.size := ⟨_, rfl⟩
        rw [← hspv] at hb2' ⊢
        have hgsp : gk < sp := by rw [hspv]; exact hrowk.lt
        have hwsp : w.heap.size ≤ sp := by rw [hspv]; exact hbelc.size
        have hrow2 := hrowk.below hbel2 hrowk.lt
        have hbw2 : Below w.heap.size w w2 := hbelc.trans (hbel2.mono hbelc.size)
        clear hb2 hsz2 hbel2 hrowk hbelc hspv
        go_upto_block 2 with fail
        go_cut [27, 28] from 106 to 131 (fun v27 _ wc => v27 = .int .i64 (P kb m : Nat) ∧ (∃ cs, Blk wc sp 29 cs ∧ SpanTo cs m kb m) ∧ Row wc gk 2 m (fun q => .int .i64 (kb q : Nat)) ∧ Below w.heap.size w wc)
        case first =>
          --[[
          go_wp2
          go_loopw [27, 28] (fun vt vq wr => ∃ q : Nat, vq = .int .i64 q ∧ q ≤ m ∧ vt = .int .i64 (P kb q : Nat) ∧ (∃ cs, Blk wr sp 29 cs ∧ SpanTo cs m kb q) ∧ Row wr gk 2 m (fun q => .int .i64 (kb q : Nat)) ∧ Below w.heap.size w wr)
            (fun _ vq _ => m - (intOf vq).toNat)
          case atStart => exact ⟨0, rfl, Nat.zero_le _, rfl, ⟨cs0, hb2', hcs0, fun j hj => by omega⟩, hrow2, hbw2⟩
          case round =>
            obtain ⟨q, rfl, hq, rfl, ⟨cs, hbs, hspt⟩, hrowr, hbelr⟩ := hrel
            clear hb2' hrow2 hbw2
            by_cases hqm : q < m
            · have c1 := hrowr.cell hqm
              have hkq := k5'.out q
              have hPb : P kb q ≤ 5000 * q := P_le k5'.out q
              have hPs : Hid (P kb (q + 1) = P kb q + 1000 * kb q) := rfl
              have hstp : Hid (SpanTo _ m kb (q + 1)) := hspt.step hqm
              have hsz := hspt.1
              clear hspt
              generalize P kb q = pq at hPb hPs hstp
              generalize hkqv : kb q = kq at c1 hkq hPs hstp
              obtain ⟨y0, hy0⟩ : ∃ y, wr.cell? ⟨sp, q * 4, none⟩ = some y := ⟨_, by rw [hbs.cell]; exact Array.getElem?_eq_getElem (by omega)⟩
              have f0 := hbs.frozen (q * 4)
              have hb1 := hbs.set (q * 4) (.int .i64 (1000 * (q : Int)))
              obtain ⟨y1, hy1⟩ : ∃ y, (wr.setCell ⟨sp, q * 4, none⟩ (.int .i64 (1000 * (q : Int)))).cell? ⟨sp, q * 4 + 1, none⟩ = some y := ⟨_, by rw [hb1.cell]; exact Array.getElem?_eq_getElem (by simp; omega)⟩
              have f1 := hb1.frozen (q * 4 + 1)
              have hb2 := hb1.set (q * 4 + 1) (.int .i64 (1000 * ((q : Int) + 1)))
              obtain ⟨y2, hy2⟩ : ∃ y, ((wr.setCell ⟨sp, q * 4, none⟩ (.int .i64 (1000 * (q : Int)))).setCell ⟨sp, q * 4 + 1, none⟩ (.int .i64 (1000 * ((q : Int) + 1)))).cell? ⟨sp, q * 4 + 2, none⟩ = some y := ⟨_, by rw [hb2.cell]; exact Array.getElem?_eq_getElem (by simp; omega)⟩
              have f2 := hb2.frozen (q * 4 + 2)
              have hb3 := hb2.set (q * 4 + 2) (.int .i64 (pq : Int))
              obtain ⟨y3, hy3⟩ : ∃ y, (((wr.setCell ⟨sp, q * 4, none⟩ (.int .i64 (1000 * (q : Int)))).setCell ⟨sp, q * 4 + 1, none⟩ (.int .i64 (1000 * ((q : Int) + 1)))).setCell ⟨sp, q * 4 + 2, none⟩ (.int .i64 (pq : Int))).cell? ⟨sp, q * 4 + 3, none⟩ = some y := ⟨_, by rw [hb3.cell]; exact Array.getElem?_eq_getElem (by simp; omega)⟩
              have f3 := hb3.frozen (q * 4 + 3)
              have hb4 := hb3.set (q * 4 + 3) (.int .i64 (kq : Int))
              have hrow4 := (((hrowr.setOther ⟨sp, q * 4, none⟩ (.int .i64 (1000 * (q : Int))) (by show gk ≠ sp; omega)).setOther ⟨sp, q * 4 + 1, none⟩ (.int .i64 (1000 * ((q : Int) + 1))) (by show gk ≠ sp; omega)).setOther ⟨sp, q * 4 + 2, none⟩ (.int .i64 (pq : Int)) (by show gk ≠ sp; omega)).setOther ⟨sp, q * 4 + 3, none⟩ (.int .i64 (kq : Int)) (by show gk ≠ sp; omega)
              have hbel4 := (((hbelr.setCell (show w.heap.size ≤ (⟨sp, q * 4, none⟩ : Addr).block from hwsp) (.int .i64 (1000 * (q : Int)))).setCell (show w.heap.size ≤ (⟨sp, q * 4 + 1, none⟩ : Addr).block from hwsp) (.int .i64 (1000 * ((q : Int) + 1)))).setCell (show w.heap.size ≤ (⟨sp, q * 4 + 2, none⟩ : Addr).block from hwsp) (.int .i64 (pq : Int))).setCell (show w.heap.size ≤ (⟨sp, q * 4 + 3, none⟩ : Addr).block from hwsp) (.int .i64 (kq : Int))
              have c4 := hrow4.cell hqm
              simp only [hkqv] at c4
              go_wp2
              refine ⟨⟨q + 1, rfl, by omega, ?_, ⟨_, hb4, hstp.out⟩, hrow4, hbel4⟩, by simp [intOf]; omega⟩
              rw [hPs.out]; congr 1
            · have hqm' : m = q := by omega
              subst hqm'
              go_wp2
              go_meet
              case rel => exact ⟨rfl, ⟨cs, hbs, hspt⟩, hrowr, hbelr⟩
          --]]
        case rest =>
          obtain ⟨rfl, ⟨cs, hbs, hspt⟩, hrow3, hbel3⟩ := hcut
          clear hb2' hrow2 hbw2 hcs0 hi9 hz9 hs9 hby9
          have hPm : P kb m ≤ 5000 * m := P_le k5'.out m
          have htr := fun (w' : World) (T : Nat) (h1 : Blk w' sp 29 cs) h2 => hspt.tr (w := w') (T := T) h1 h2 hm1 hm2 k5'.out
          have htr' : Hid (∀ (w' : World) (T : Nat) (h1 : Blk w' sp 29 cs) (h2 : Blk w' T 32 #[.int .i64 (1000 * (m : Int)), .int .i64 (P kb m : Nat), .slice (some ⟨sp, 0, none⟩) m m]), Tr w' T sp kb m) := htr
          clear htr hspt
          generalize P kb m = pm at hPm htr'
          go_upto_block 4 with (refine wpList_make_blk (P := Ybaf.prog) _ (o := ⟨some 141, _, _, _, _, _⟩) rfl _ _ 26 rfl 2 i0 _ 1 Ybaf.underlying26 hi hz0 hz1 .i64 .i64 0 ((n2 : Int) + 1) 0 (n2 + 1) rfl rfl rfl ?hC (Nat.zero_le _) ?hby ?mx ?_)
          case hC => omega
          case hby => rw [hz2]; omega
          case mx => unfold maxLen; omega
          intro w5 hbk5 hsz5 hbel5
          obtain ⟨T, hTv⟩ : ∃ T, T = wc.heap.size := ⟨_, rfl⟩
          have hTb : Blk (wc.alloc (.cells #[.int .i64 (1000 * (m : Int)), .int .i64 (pm : Nat), .slice (some ⟨sp, 0, none⟩) m m] 32)) T 32 #[.int .i64 (1000 * (m : Int)), .int .i64 (pm : Nat), .slice (some ⟨sp, 0, none⟩) m m] := by rw [hTv]; exact Blk.new _ _ _
          have hsz0 : (wc.alloc (.cells #[.int .i64 (1000 * (m : Int)), .int .i64 (pm : Nat), .slice (some ⟨sp, 0, none⟩) m m] 32)).heap.size = T + 1 := by rw [hTv]; simp
          simp only [← hTv] at hbk5 ⊢
          have hbel5' : Below (T + 1) (wc.alloc (.cells #[.int .i64 (1000 * (m : Int)), .int .i64 (pm : Nat), .slice (some ⟨sp, 0, none⟩) m m] 32)) w5 := by simp only [← hTv] at hbel5; exact hbel5
          have hbk6 : ∃ cs, cs.size = n2 + 1 ∧ Blk w5 (T + 1) 2 cs := ⟨madeCells #[Value.int IntKind.i64 0] (n2 + 1), by simp [madeCells], hbk5⟩
          obtain ⟨cs6, hcs6, hbk6⟩ := hbk6
          have hTr5 : Tr w5 T sp kb m := htr'.out w5 T ((hbs.alloc _).below hbel5' (by have := hbs.lt; omega)) (hTb.below hbel5' (by omega))
          have hrow5 := (hrow3.of_block (Below.heap_alloc wc (.cells #[.int .i64 (1000 * (m : Int)), .int .i64 (pm : Nat), .slice (some ⟨sp, 0, none⟩) m m] 32) gk hrow3.lt)).below hbel5' (by have := hrow3.lt; omega)
          have hbw5 : Below w.heap.size w w5 := (hbel3.alloc hbel3.size _).trans (hbel5'.mono (by have := hbel3.size; omega))
          have hwT : w.heap.size ≤ T := by have := hbel3.size; omega
          have hsT : sp < T := by have := hbs.lt; omega
          have hw5 : T + 1 < w5.heap.size := hbk6.lt
          have hown5 := owns_made (base := T + 1) (c := n2 + 1) hbk6 (Nat.le_refl _) (by unfold maxLen; omega) hcs6
          clear hbk5 hsz5 hbel5 hbel5' hbk6 hcs6 hTb hsz0 hbs hrow3 hbel3 hTv htr' hPm
          go_upto_block 4 with fail
          go_cut [30, 31] from 142 to 156 (fun v30 _ wc => wc.ownsRow (T + 1) 2 1 v30 n2 ((List.range n2).map fun q => Value.int .i64 (l q % 10000 : Nat)) ∧ v30 ≠ .slice none 0 0 ∧ Below (T + 1) w5 wc)
          case first =>
            --[[
            go_wp2
            go_loopw [30, 31] (fun vb vi wr => ∃ k : Nat, vi = .int .i64 k ∧ k ≤ n2 ∧ wr.ownsRow (T + 1) 2 1 vb k ((List.range k).map fun q => Value.int .i64 (l q % 10000 : Nat)) ∧ vb ≠ .slice none 0 0 ∧ Below (T + 1) w5 wr)
              (fun _ vi _ => n2 - (intOf vi).toNat)
            case atStart => exact ⟨0, rfl, Nat.zero_le _, by simpa using hown5, by simp, Below.refl _ _⟩
            case round =>
              obtain ⟨k, rfl, hk, hown, hnn, hbel⟩ := hrel
              clear hown5
              by_cases hkn : k < n2
              · obtain ⟨b1, o1, rfl, hb1lt, c1'⟩ := hl k hkn
                have c1 : wr.cell? ⟨b1, o1 + k, none⟩ = some (.int .u16 (l k : Nat)) := by rw [(hbw5.trans (hbel.mono (by omega))).cell (by exact hb1lt)]; exact c1'
                have hrk := hlb.out k hkn
                generalize hrkv : l k = rk at c1 hrk
                clear c1'
                go_wp2_with (at_builtin; refine wpList_append_own _ rfl _ _ 26 rfl (T + 1) 2 i0 (.int .i64 0) 1 8 Ybaf.underlying26 hi hz0 hz1 hz2 rfl (by decide) _ _ _ rfl (hown.alloc _) ⟨wr.heap.size, 0, none⟩ 1 1 [Value.int .i64 (rk % 10000 : Nat)] rfl rfl ?c1 ?c2 ?c3 ?c4 ?c5 ?_)
                case c1 =>
                  intro j u hj
                  match j, hj with
                  | 0, hj => simp at hj; subst hj; simp [Addr.add]
                case c2 => intro u hu; simp at hu; subst hu; rfl
                case c3 => unfold maxLen; omega
                case c4 => omega
                case c5 => have := hbel.size; simp; omega
                intro v' w2 hown' hgrow hnn'
                have hbel2 : Below (T + 1) w5 w2 := (hbel.alloc (by have := hbel.size; omega) _).grown hgrow (by have := hbel.size; simp; omega) (fun k hk => (hown.lt k hk).1)
                go_wp2
                go_roundw
                case rel =>
                  refine ⟨k + 1, by go_num, by omega, ?_, hnn', hbel2⟩
                  rw [range_snoc, hrkv]
                  exact hown'
                case measure => simp [intOf]; omega
              · have hkn' : n2 = k := by omega
                subst hkn'
                go_wp2
                go_meet
                case rel => exact ⟨hown, hnn, hbel⟩
            --]]
          case rest =>
            obtain ⟨hown, hnn, hbel⟩ := hcut
            obtain ⟨g1, c1', rfl, hg1, hg1l, hrow1, hcap1⟩ := Row.of_owns hown hnn
            obtain ⟨nL, hnL⟩ : ∃ m, m = if n2 = 0 then 1 else n2 := ⟨_, rfl⟩
            obtain ⟨lbf, hlbf⟩ : ∃ f : Nat → Nat, f = fun q => if n2 = 0 then 3000 else l q % 10000 := ⟨_, rfl⟩
            have hnL1 : 1 ≤ nL := by rw [hnL]; split <;> omega
            have hnL2 : nL ≤ 65537 := by rw [hnL]; split <;> omega
            have hlbb : ∀ q, lbf q ≤ 10000 := by intro q; rw [hlbf]; simp only []; split <;> omega
            have hnL' : Hid (nL = if n2 = 0 then 1 else n2) := hnL
            have hlbf' : Hid (lbf = fun q => if n2 = 0 then 3000 else l q % 10000) := hlbf
            have hlbb' : Hid (∀ q, lbf q ≤ 10000) := hlbb
            clear hnL hlbf hlbb
            go_upto_if 159 with fail
            go_cut [30] from 159 to 162 (fun v wc => ∃ g c, v = .slice (some ⟨g, 0, none⟩) nL c ∧ T + 1 ≤ g ∧ Row wc g 2 nL (fun q => .int .i64 (lbf q : Nat)) ∧ Below (T + 1) w5 wc)
            case first =>
              --[[
              by_cases h0 : n2 = 0
              · have hd : ((n2 : Int) == 0) = true := by simp [h0]
                have hm9 : Hid (nL = 1) := by unfold Hid; rw [hnL'.out, if_pos h0]
                have h0' : Hid (n2 = 0) := h0
                clear h0
                go_wp2_with (at_builtin; refine wpList_append_own _ rfl _ _ 26 rfl (T + 1) 2 i0 (.int .i64 0) 1 8 Ybaf.underlying26 hi hz0 hz1 hz2 rfl (by decide) _ _ _ rfl (hown.alloc _) ⟨wc.heap.size, 0, none⟩ 1 1 [Value.int .i64 3000] rfl rfl ?c1 ?c2 ?c3 ?c4 ?c5 ?_)
                case c1 =>
                  intro j u hj
                  match j, hj with
                  | 0, hj => simp at hj; subst hj; simp [Addr.add]
                case c2 => intro u hu; simp at hu; subst hu; rfl
                case c3 => unfold maxLen; omega
                case c4 => omega
                case c5 => have := hbel.size; simp; omega
                intro v' w2 hown' hgrow hnn'
                have hbel2 : Below (T + 1) w5 w2 := (hbel.alloc (by have := hbel.size; omega) _).grown hgrow (by have := hbel.size; simp; omega) (fun k hk => (hown.lt k hk).1)
                have hown2 : w2.ownsRow (T + 1) 2 1 v' nL ((List.range nL).map fun q => Value.int .i64 (lbf q : Nat)) := by
                  rw [hm9.out, hlbf'.out]
                  have h0 := h0'.out
                  clear hd
                  subst h0
                  exact hown'
                obtain ⟨g2, c2, rfl, h1, h2, h3, h4⟩ := Row.of_owns hown2 hnn'
                go_wp2
                go_meet
                case rel => exact ⟨g2, c2, rfl, h1, h3, hbel2⟩
              · have hd : ((n2 : Int) == 0) = false := by simp [h0]
                have hm9 : nL = n2 := by rw [hnL'.out, if_neg h0]
                clear hnL'
                subst hm9
                go_wp2
                go_meet
                case rel => exact ⟨g1, c1', rfl, hg1, hrow1.congr (fun q hq => by rw [hlbf'.out]; simp [h0]), hbel⟩
              --]]
            case rest =>
              obtain ⟨lb, cL, rfl, hlb0, hrowl, hbelc⟩ := hcut
              have hTrc := hTr5.below hbelc (by omega) (by omega)
              have hrowk := hrow5.below hbelc (by omega)
              have hbw : Below w.heap.size w wc := hbw5.trans (hbelc.mono (by omega))
              clear hown hnn hrow1 hcap1 hg1l hg1 hbel hnL' hlbf' hlb hTr5 hrow5 hbw5 hbelc hown5 hw5
              obtain ⟨cs, hcs⟩ : ∃ n, n = 1 + x3 % 3 := ⟨_, rfl⟩
              obtain ⟨st, hst⟩ : ∃ n, n = 1 + x4 % 6 := ⟨_, rfl⟩
              obtain ⟨C, hC⟩ : ∃ n, n = 1 + x5 % 6 := ⟨_, rfl⟩
              have hcs' : Hid (cs = 1 + x3 % 3) := hcs
              have hst' : Hid (st = 1 + x4 % 6) := hst
              have hC' : Hid (C = 1 + x5 % 6) := hC
              have hcs1 : 1 ≤ cs := by omega
              have hcs3 : cs ≤ 3 := by omega
              have hst1 : 1 ≤ st := by omega
              have hst6 : st ≤ 6 := by omega
              have hC1 : 1 ≤ C := by omega
              have hC6 : C ≤ 6 := by omega
              clear hcs hst hC
              go_upto_region 30 with fail
              have e3 : 1 + (x3 : Int) % 3 = (cs : Int) := by have := hcs'.out; omega
              have e4 : 1 + (x4 : Int) % 6 = (st : Int) := by have := hst'.out; omega
              have e5 : 1 + (x5 : Int) % 6 = (C : Int) := by have := hC'.out; omega
              simp only [e3, e4, e5]
              clear e3 e4 e5 hcs' hst' hC' hx3 hx4 hx5
              obtain ⟨C1, hC1v⟩ : ∃ n, n = C - 1 := ⟨_, rfl⟩
              have eC1 : (C : Int) - 1 = (C1 : Int) := by omega
              obtain ⟨pr, hpr⟩ : ∃ n, n = C1 * cs := ⟨_, rfl⟩
              have hprb : pr ≤ 5 * 3 := by rw [hpr]; exact Nat.mul_le_mul (by omega) hcs3
              have epr : (C1 : Int) * (cs : Int) = (pr : Int) := by rw [hpr]; exact (Int.natCast_mul _ _).symm
              obtain ⟨last, hlast⟩ : ∃ n, n = pr + st := ⟨_, rfl⟩
              have elast : (pr : Int) + (st : Int) = (last : Int) := by omega
              have hlastD : Hid (last = dl cs st (C - 1)) := by unfold Hid dl; rw [hlast, hpr, hC1v]
              have hlast1 : 1 ≤ last := by omega
              have hlast2 : last ≤ 21 := by omega
              obtain ⟨off, hoff⟩ : ∃ n, n = of % 16 := ⟨_, rfl⟩
              have eoff : (of : Int) % 16 = (off : Int) := by omega
              have hoff1 : off ≤ 15 := by omega
              obtain ⟨s6, hs6⟩ : ∃ n, n = x6 % last := ⟨_, rfl⟩
              have hs61 : s6 < last := by rw [hs6]; exact Nat.mod_lt _ hlast1
              have es6 : (x6 : Int) % (last : Int) = (s6 : Int) := by rw [hs6]; rfl
              obtain ⟨slot, hslot⟩ : ∃ n, n = 1 + s6 := ⟨_, rfl⟩
              have eslot : 1 + (s6 : Int) = (slot : Int) := by omega
              have hslot1 : 1 ≤ slot := by omega
              have hslot2 : slot ≤ last := by omega
              have hslotN : slot ≤ 21 := by omega
              clear hC1v hpr hlast hoff hs6 hslot
              have hzz := zzslot_calls gk ck kb m off slot
              have hWb : W kb m (off + slot - 1) 1 ≤ 5000 := Nat.le_trans (W_le k5'.out m _ 1) (by omega)
              obtain ⟨sb, hsb⟩ : ∃ n, n = W kb m (off + slot - 1) 1 := ⟨_, rfl⟩
              rw [← hsb] at hzz hWb
              have hsb' : Hid (sb = W kb m (off + slot - 1) 1) := hsb
              have hzz' := fun w' hr => hzz w' hr hm1 hm2 k5'.out (by omega) hslot1 (by omega)
              clear hsb hzz
              have hrowkA : Row (wc.alloc (.cells #[.pointer (some ⟨T, 0, none⟩), .int .i64 off, .int .i64 C, .int .i64 cs, .slice (some ⟨lb, 0, none⟩) nL cL, .int .i64 st, .int .i64 (4 * (cs : Int)), .string ByteArray.empty] 37)) gk 2 m (fun q => .int .i64 (kb q : Nat)) := hrowk.of_block (Below.heap_alloc wc _ gk hrowk.lt)
              go_upto_if 206 with (go_at_call 4; refine (hzz' _ hrowkA).mono ?_; rintro e w6 ⟨rfl, hw6⟩; obtain rfl := hw6.symm; clear hw6)
              obtain ⟨buf, hbuf⟩ : ∃ n, n = 4 * cs := ⟨_, rfl⟩
              have ebuf : 4 * (cs : Int) = (buf : Int) := by omega
              simp only [ebuf] at hrowkA ⊢
              obtain ⟨S, hS⟩ : ∃ n, n = wc.heap.size := ⟨_, rfl⟩
              obtain ⟨wS, hwS⟩ : ∃ x, x = wc.alloc (.cells #[.pointer (some ⟨T, 0, none⟩), .int .i64 off, .int .i64 C, .int .i64 cs, .slice (some ⟨lb, 0, none⟩) nL cL, .int .i64 st, .int .i64 buf, .string ByteArray.empty] 37) := ⟨_, rfl⟩
              have hSb : Blk wS S 37 #[.pointer (some ⟨T, 0, none⟩), .int .i64 off, .int .i64 C, .int .i64 cs, .slice (some ⟨lb, 0, none⟩) nL cL, .int .i64 st, .int .i64 buf, .string ByteArray.empty] := by rw [hwS, hS]; exact Blk.new _ _ _
              rw [← hwS] at hrowkA
              have hTrS : Tr wS T sp kb m := by rw [hwS]; exact hTrc.grown ((Below.refl _ wc).alloc (Nat.le_refl _) _)
              have hrowlS := hrowl.below (w' := wS) (by rw [hwS]; exact (Below.refl _ wc).alloc (Nat.le_refl _) _) hrowl.lt
              have hbwS : Below w.heap.size w wS := by rw [hwS]; exact hbw.alloc hbw.size _
              have hszS : wS.heap.size = S + 1 := by rw [hwS, hS]; simp
              have hlS : lb < S := by rw [hS]; exact hrowl.lt
              rw [← hwS, ← hS]
              clear hwS hS hbuf ebuf hrowk hTrc hrowl hbw
              obtain ⟨used, hused⟩ : ∃ n, n = if 0 < sb then x7 % sb else 0 := ⟨_, rfl⟩
              have hused1 : used ≤ sb := by
                rw [hused]; split
                · exact Nat.le_of_lt (Nat.mod_lt _ (by omega))
                · omega
              have hused2 : Hid (used < sb ∨ sb = 0) := by
                unfold Hid; rw [hused]; split
                · exact Or.inl (Nat.mod_lt _ (by omega))
                · right; omega
              have hused' : Hid (used = if 0 < sb then x7 % sb else 0) := hused
              clear hused
              go_cut [41] from 206 to 210 (fun v wx => v = .int .i64 used ∧ wx = wS)
              case first =>
                --[[
                by_cases hp : 0 < sb
                · have hd : decide (0 < sb) = true := decide_eq_true hp
                  have e7 : (x7 : Int) % (sb : Int) = (used : Int) := by rw [hused'.out, if_pos hp]; rfl
                  clear hused'
                  go_wp2
                  go_meet
                  case rel => exact ⟨by first | rfl | rw [e7], rfl⟩
                · have hd : decide (0 < sb) = false := decide_eq_false hp
                  have h0 : Hid (used = 0) := by unfold Hid; rw [hused'.out, if_neg hp]
                  clear hused'
                  go_wp2
                  go_meet
                  case rel => exact ⟨by rw [h0.out]; rfl, rfl⟩
                --]]
              case rest =>
                obtain ⟨rfl, hwx⟩ := hcut
                obtain rfl := hwx.symm
                clear hwx hused' hx7
                go_upto_block 6 with fail
                go_cut [42] from 211 to 225 (fun v wx => ∃ o : Nat, v = .int .i64 o ∧ wx = wS ∧ (1 ≤ o ∧ o ≤ C + 1 ∧ (∀ q, 1 ≤ q → q < o → dl cs st (q - 1) < slot) ∧ (o = C + 1 ∨ slot ≤ dl cs st (o - 1))))
                case first =>
                  --[[
                  go_wp2
                  go_loopw [42] (fun v wx => ∃ o : Nat, v = .int .i64 o ∧ wx = wS ∧ (1 ≤ o ∧ o ≤ C + 1 ∧ (∀ q, 1 ≤ q → q < o → dl cs st (q - 1) < slot)))
                    (fun v _ => C + 1 - (intOf v).toNat)
                  case atStart => exact ⟨1, rfl, rfl, Nat.le_refl _, by omega, fun q h1 h2 => by omega⟩
                  case round =>
                    obtain ⟨o, rfl, hwx, i1, i2, i3⟩ := hrel
                    obtain rfl := hwx.symm
                    clear hwx
                    have i3' : Hid (∀ q, 1 ≤ q → q < o → dl cs st (q - 1) < slot) := i3
                    clear i3
                    by_cases hoC : o ≤ C
                    · have hdec : decide (o ≤ C) = true := decide_eq_true hoC
                      obtain ⟨p, hp⟩ : ∃ p, p = o - 1 := ⟨_, rfl⟩
                      have hp1 : (o : Int) - 1 = (p : Int) := by omega
                      obtain ⟨pq, hpq⟩ : ∃ n, n = p * cs := ⟨_, rfl⟩
                      have hpqb : pq ≤ 5 * 3 := by rw [hpq]; exact Nat.mul_le_mul (by omega) hcs3
                      have epq : (p : Int) * (cs : Int) = (pq : Int) := by rw [hpq]; exact (Int.natCast_mul _ _).symm
                      obtain ⟨D, hD⟩ : ∃ n, n = pq + st := ⟨_, rfl⟩
                      have eD : (pq : Int) + (st : Int) = (D : Int) := by omega
                      have hDd : Hid (D = dl cs st (o - 1)) := by unfold Hid dl; rw [hD, hpq, hp]
                      have hDb : D ≤ 21 := by omega
                      clear hp hpq hD
                      by_cases hlt : D < slot
                      · have hdd : decide (D < slot) = true := decide_eq_true hlt
                        go_wp2
                        refine ⟨⟨o + 1, by first | rfl | trivial, by first | rfl | trivial, by omega, by omega, fun q q1 q2 => ?_⟩, by simp [intOf]; omega⟩
                        by_cases hq : q = o
                        · subst hq; rw [← hDd.out]; exact hlt
                        · exact i3'.out q q1 (by omega)
                      · have hdd : decide (D < slot) = false := decide_eq_false hlt
                        go_wp2
                        go_meet
                        case rel => exact ⟨o, rfl, rfl, i1, i2, i3'.out, Or.inr (by rw [← hDd.out]; omega)⟩
                    · have hdec : decide (o ≤ C) = false := decide_eq_false hoC
                      go_wp2
                      go_meet
                      case rel => exact ⟨o, rfl, rfl, i1, i2, i3'.out, Or.inl (by omega)⟩
                  --]]
                case rest =>
                  obtain ⟨old, rfl, hwx, o1, o2, o3, o4⟩ := hcut
                  obtain rfl := hwx.symm
                  clear hwx
                  have o3' : Hid (∀ q, 1 ≤ q → q < old → dl cs st (q - 1) < slot) := o3
                  have o4' : Hid (old = C + 1 ∨ slot ≤ dl cs st (old - 1)) := o4
                  have hold2 : old ≤ C := by
                    rcases Nat.lt_or_ge C old with h | h
                    · have h1 := o3 C hC1 h
                      rw [← hlastD.out] at h1
                      omega
                    · exact h
                  clear o3 o4 o2
                  obtain ⟨d, hd⟩ : ∃ n, n = C - old := ⟨_, rfl⟩
                  have ed : (C : Int) - (old : Int) = (d : Int) := by omega
                  obtain ⟨d1, hd1⟩ : ∃ n, n = d + 1 := ⟨_, rfl⟩
                  have ed1 : (d : Int) + 1 = (d1 : Int) := by omega
                  obtain ⟨r10, hr10⟩ : ∃ n, n = x10 % d1 := ⟨_, rfl⟩
                  have er10 : (x10 : Int) % (d1 : Int) = (r10 : Int) := by rw [hr10]; rfl
                  have hr10b : r10 < d1 := by rw [hr10]; exact Nat.mod_lt _ (by omega)
                  obtain ⟨i, hi'⟩ : ∃ n, n = old + r10 := ⟨_, rfl⟩
                  have ei : (old : Int) + (r10 : Int) = (i : Int) := by omega
                  have hoi : old ≤ i := by omega
                  have hiC : i ≤ C := by omega
                  have hd1p : 1 ≤ d1 := by omega
                  have hd1q : d1 ≤ 6 := by omega
                  clear hd hd1 hr10 hi'
                  go_upto_region 42 with fail
                  clear ed ed1 er10 ei hr10b hd1p hd1q
                  obtain ⟨i3, hi3, hz30, hz31, hz32⟩ := info_parts info3
                  obtain ⟨i4, hi4, hz40, hz41, hz42⟩ := info_parts info4
                  go_upto_block 8 with (refine wpList_make_blk (P := Ybaf.prog) _ (o := ⟨some 236, _, _, _, _, _⟩) rfl _ _ 39 rfl 3 i3 _ 1 Ybaf.underlying39 hi3 hz30 hz31 .i64 .i64 (C : Int) (C : Int) C C rfl rfl rfl rfl (Nat.le_refl _) ?hby ?mx ?_)
                  case hby => rw [hz32]; omega
                  case mx => unfold maxLen; omega
                  intro w7 hb7 hsz7 hbel7
                  go_upto_block 8 with (refine wpList_make_blk (P := Ybaf.prog) _ (o := ⟨some 238, _, _, _, _, _⟩) rfl _ _ 25 rfl 4 i4 _ 1 Ybaf.underlying25 hi4 hz40 hz41 .i64 .i64 (C : Int) (C : Int) C C rfl rfl rfl rfl (Nat.le_refl _) ?hby ?mx ?_)
                  case hby => rw [hz42]; omega
                  case mx => unfold maxLen; omega
                  intro w8 hb8 hsz8 hbel8
                  have hlr0 : Row w8 (S + 1) 3 C (fun _ => .int .i64 0) := ⟨_, hb7.below hbel8 (by omega), by simp [madeCells], fun q hq => made_get _ _ _ hq⟩
                  have hsr0 : Row w8 (S + 1 + 1) 4 C (fun _ => .bool false) := ⟨_, hb8, by simp [madeCells], fun q hq => made_get _ _ _ hq⟩
                  have hbel8' : Below (S + 1) wS w8 := hbel7.trans (hbel8.mono (by omega))
                  clear hb7 hb8 hbel7 hbel8 hi3 hz30 hz31 hz32 hi4 hz40 hz41 hz42 hsz7
                  obtain ⟨gl, hgl⟩ : ∃ n, n = S + 1 := ⟨_, rfl⟩
                  simp only [← hgl] at hlr0 hsr0 hbel8' hsz8 hszS ⊢
                  obtain ⟨gs, hgs⟩ : ∃ n, n = gl + 1 := ⟨_, rfl⟩
                  simp only [← hgs] at hsr0 hsz8 ⊢
                  have hSgl : S < gl := by omega
                  have hglgs : gl < gs := by omega
                  have hTr8 := hTrS.below hbel8' (by omega) (by omega)
                  have hrowk8 := hrowkA.below hbel8' (by omega)
                  have hrowl8 := hrowlS.below hbel8' (by omega)
                  have hS8 := hSb.below hbel8' hSgl
                  have hbw8 : Below w.heap.size w w8 := hbwS.trans (hbel8'.mono (by have := hbwS.size; omega))
                  have hwgl : w.heap.size ≤ gl := by have := hbwS.size; omega
                  clear hTrS hrowkA hrowlS hSb hbwS hbel8' hgl hgs hszS
                  obtain ⟨L0, hL0⟩ : ∃ f : Nat → Nat, f = fun q => if q < n8 then ls q % (nL + 1) else 0 := ⟨_, rfl⟩
                  obtain ⟨S0, hS0⟩ : ∃ f : Nat → Bool, f = fun q => if 0 < L0 q then true else if q < n9 then ss q else false := ⟨_, rfl⟩
                  have hL0b : ∀ q, L0 q ≤ nL := by
                    intro q; rw [hL0]; simp only []; split
                    · have := Nat.mod_lt (ls q) (show 0 < nL + 1 by omega); omega
                    · omega
                  have hL0' : Hid (L0 = fun q => if q < n8 then ls q % (nL + 1) else 0) := hL0
                  have hS0' : Hid (S0 = fun q => if 0 < L0 q then true else if q < n9 then ss q else false) := hS0
                  have hL0b' : Hid (∀ q, L0 q ≤ nL) := hL0b
                  clear hL0 hS0 hL0b
                  go_upto_block 8 with fail
                  go_cut [46] from 239 to 277 (fun _ wc => Row wc gl 3 C (fun j => .int .i64 (L0 j : Nat)) ∧ Row wc gs 4 C (fun j => .bool (S0 j)) ∧ Below gl w8 wc)
                  case first =>
                    --[[
                    go_wp2
                    go_loopw [46] (fun v wr => ∃ q : Nat, v = .int .i64 q ∧ q ≤ C ∧ Row wr gl 3 C (fun j => .int .i64 (if j < q then L0 j else 0 : Nat)) ∧ Row wr gs 4 C (fun j => .bool (if j < q then S0 j else false)) ∧ Below gl w8 wr)
                      (fun v _ => C - (intOf v).toNat)
                    case atStart => exact ⟨0, rfl, Nat.zero_le _, hlr0.congr (fun q _ => by simp), hsr0.congr (fun q _ => by simp), Below.refl _ _⟩
                    case round =>
                      obtain ⟨q, rfl, hq, hrl, hrs, hbr⟩ := hrel
                      clear hlr0 hsr0
                      by_cases hqC : q < C
                      · obtain ⟨lq, hlq⟩ : ∃ n, n = L0 q := ⟨_, rfl⟩
                        have hlqb : lq ≤ nL := by rw [hlq]; exact hL0b'.out q
                        have hlq' : Hid (lq = L0 q) := hlq
                        clear hlq
                        have hrlstep : Hid (∀ w', Row w' gl 3 C (fun j => if j = q then .int .i64 (lq : Nat) else .int .i64 (if j < q then L0 j else 0 : Nat)) → Row w' gl 3 C (fun j => .int .i64 (if j < q + 1 then L0 j else 0 : Nat))) := by
                          intro w' hw'
                          refine hw'.congr fun j hj => ?_
                          by_cases e : j = q
                          · subst e; simp [hlq'.out]
                          · simp only [e, if_false]
                            by_cases e2 : j < q
                            · simp [e2, show j < q + 1 by omega]
                            · simp [e2, show ¬ j < q + 1 by omega]
                        go_upto_if 247 with fail
                        go_cut [] from 239 to 277 (fun wc => Row wc gl 3 C (fun j => .int .i64 (if j < q + 1 then L0 j else 0 : Nat)) ∧ Row wc gs 4 C (fun j => .bool (if j < q then S0 j else false)) ∧ Below gl w8 wc)
                        case first =>
                          by_cases h8 : q < n8
                          · obtain ⟨b1, o1, rfl, hb1lt, c1'⟩ := hls q h8
                            have c1 : wr.cell? ⟨b1, o1 + q, none⟩ = some (.int .u8 (ls q : Nat)) := by rw [(hbw8.trans (hbr.mono hwgl)).cell (by exact hb1lt)]; exact c1'
                            have hlsq := hlsb.out q h8
                            have e8' : lq = ls q % (nL + 1) := by rw [hlq'.out, hL0'.out]; simp [h8]
                            have e8 : (ls q : Int) % ((nL : Int) + 1) = (lq : Int) := by rw [e8']; rfl
                            clear c1' e8'
                            have cl : wr.cell? ⟨gl, q, none⟩ = some (.int .i64 0) := by have := hrl.cell hqC; simpa using this
                            have fl := hrl.frozen q
                            have hd : decide (q < n8) = true := decide_eq_true h8
                            have hdone : Hid (Row (wr.setCell ⟨gl, q, none⟩ (.int .i64 (lq : Nat))) gl 3 C (fun j => .int .i64 (if j < q + 1 then L0 j else 0 : Nat)) ∧ Row (wr.setCell ⟨gl, q, none⟩ (.int .i64 (lq : Nat))) gs 4 C (fun j => .bool (if j < q then S0 j else false)) ∧ Below gl w8 (wr.setCell ⟨gl, q, none⟩ (.int .i64 (lq : Nat)))) :=
                              ⟨hrlstep.out _ (hrl.set hqC _), hrs.setOther _ _ (by show gs ≠ gl; omega), hbr.setCell (by exact Nat.le_refl _) _⟩
                            clear hrl hrs hbr
                            generalize ls q = lsq at c1 e8 hlsq
                            go_wp2
                            go_meet
                            case rel => exact hdone.out
                          · have hd : decide (q < n8) = false := decide_eq_false h8
                            have e8 : Hid (lq = 0) := by unfold Hid; rw [hlq'.out, hL0'.out]; simp [h8]
                            go_wp2
                            go_meet
                            case rel =>
                              refine ⟨hrlstep.out _ (hrl.congr fun j hj => ?_), hrs, hbr⟩
                              by_cases e : j = q
                              · subst e; simp [e8.out]
                              · simp [e]
                        case rest =>
                          obtain ⟨hrl1, hrs1, hbr1⟩ := hcut
                          clear hrl hrs hbr hrlstep
                          obtain ⟨s1, hs1⟩ : ∃ b : Bool, b = if q < n9 then ss q else false := ⟨_, rfl⟩
                          have hs1' : Hid (s1 = if q < n9 then ss q else false) := hs1
                          clear hs1
                          go_upto_if 262 with fail
                          go_cut [] from 239 to 277 (fun wc => Row wc gl 3 C (fun j => .int .i64 (if j < q + 1 then L0 j else 0 : Nat)) ∧ Row wc gs 4 C (fun j => if j = q then .bool s1 else .bool (if j < q then S0 j else false)) ∧ Below gl w8 wc)
                          case first =>
                            by_cases h9 : q < n9
                            · obtain ⟨b1, o1, rfl, hb1lt, c1'⟩ := hss q h9
                              have e9 : ss q = s1 := by rw [hs1'.out]; simp [h9]
                              have c1 : wc.cell? ⟨b1, o1 + q, none⟩ = some (.bool s1) := by rw [(hbw8.trans (hbr1.mono hwgl)).cell (by exact hb1lt), ← e9]; exact c1'
                              clear c1' e9
                              have cl : wc.cell? ⟨gs, q, none⟩ = some (.bool false) := by have := hrs1.cell hqC; simpa using this
                              have fl := hrs1.frozen q
                              have hd : decide (q < n9) = true := decide_eq_true h9
                              have hdone : Hid (Row (wc.setCell ⟨gs, q, none⟩ (.bool s1)) gl 3 C (fun j => .int .i64 (if j < q + 1 then L0 j else 0 : Nat)) ∧ Row (wc.setCell ⟨gs, q, none⟩ (.bool s1)) gs 4 C (fun j => if j = q then .bool s1 else .bool (if j < q then S0 j else false)) ∧ Below gl w8 (wc.setCell ⟨gs, q, none⟩ (.bool s1))) :=
                                ⟨hrl1.setOther _ _ (by show gl ≠ gs; omega), hrs1.set hqC _, hbr1.setCell (by show gl ≤ gs; omega) _⟩
                              clear hrl1 hrs1 hbr1
                              go_wp2
                              go_meet
                              case rel => exact hdone.out
                            · have hd : decide (q < n9) = false := decide_eq_false h9
                              have e9 : Hid (s1 = false) := by unfold Hid; rw [hs1'.out]; simp [h9]
                              go_wp2
                              go_meet
                              case rel =>
                                refine ⟨hrl1, hrs1.congr fun j hj => ?_, hbr1⟩
                                by_cases e : j = q
                                · subst e; simp [e9.out]
                                · simp [e]
                          case rest =>
                            obtain ⟨hrl2, hrs2, hbr2⟩ := hcut
                            clear hrl1 hrs1 hbr1
                            have cl : wc.cell? ⟨gl, q, none⟩ = some (.int .i64 (lq : Nat)) := by have := hrl2.cell hqC; simpa [← hlq'.out] using this
                            have hSq : Hid (S0 q = if 0 < lq then true else s1) := by unfold Hid; rw [hS0'.out]; simp only [← hlq'.out]; rw [hs1'.out]
                            by_cases h0 : 0 < lq
                            · have hd : decide (0 < lq) = true := decide_eq_true h0
                              have cs2 : wc.cell? ⟨gs, q, none⟩ = some (.bool s1) := by have := hrs2.cell hqC; simpa using this
                              have fl := hrs2.frozen q
                              have hdone : Hid (Row (wc.setCell ⟨gs, q, none⟩ (.bool true)) gl 3 C (fun j => .int .i64 (if j < q + 1 then L0 j else 0 : Nat)) ∧ Row (wc.setCell ⟨gs, q, none⟩ (.bool true)) gs 4 C (fun j => .bool (if j < q + 1 then S0 j else false)) ∧ Below gl w8 (wc.setCell ⟨gs, q, none⟩ (.bool true))) := by
                                refine ⟨hrl2.setOther _ _ (by show gl ≠ gs; omega), (hrs2.set hqC _).congr fun j hj => ?_, hbr2.setCell (by show gl ≤ gs; omega) _⟩
                                by_cases e : j = q
                                · subst e; simp [hSq.out, h0]
                                · by_cases e2 : j < q
                                  · simp [e, e2, show j < q + 1 by omega]
                                  · simp [e, e2, show ¬ j < q + 1 by omega]
                              clear hrl2 hrs2 hbr2
                              go_wp2
                              obtain ⟨hrl3, hrs3, hbr3⟩ := hdone.out
                              first
                                | exact ⟨⟨q + 1, by first | rfl | trivial | go_num, by omega, hrl3, hrs3, hbr3⟩, by simp [intOf]; omega⟩
                                | ((repeat apply Exists.intro); exact ⟨⟨q + 1, by first | rfl | trivial | go_num, by omega, hrl3, hrs3, hbr3⟩, rfl⟩)
                            · have hd : decide (0 < lq) = false := decide_eq_false h0
                              have hdone : Hid (Row wc gl 3 C (fun j => .int .i64 (if j < q + 1 then L0 j else 0 : Nat)) ∧ Row wc gs 4 C (fun j => .bool (if j < q + 1 then S0 j else false)) ∧ Below gl w8 wc) := by
                                refine ⟨hrl2, hrs2.congr fun j hj => ?_, hbr2⟩
                                by_cases e : j = q
                                · subst e; simp [hSq.out, h0]
                                · by_cases e2 : j < q
                                  · simp [e, e2, show j < q + 1 by omega]
                                  · simp [e, e2, show ¬ j < q + 1 by omega]
                              clear hrl2 hrs2 hbr2
                              go_wp2
                              obtain ⟨hrl3, hrs3, hbr3⟩ := hdone.out
                              first
                                | exact ⟨⟨q + 1, by first | rfl | trivial | go_num, by omega, hrl3, hrs3, hbr3⟩, by simp [intOf]; omega⟩
                                | ((repeat apply Exists.intro); exact ⟨⟨q + 1, by first | rfl | trivial | go_num, by omega, hrl3, hrs3, hbr3⟩, rfl⟩)
                      · have hqC' : C = q := by omega
                        subst hqC'
                        go_wp2
                        go_meet
                        case rel => exact ⟨hrl.congr (fun j hj => by simp [hj]), hrs.congr (fun j hj => by simp [hj]), hbr⟩
                    --]]
                  case rest =>
                    obtain ⟨hrl, hrs, hbr⟩ := hcut
                    clear hlr0 hsr0 hL0' hS0' hls hss hlsb
                    obtain ⟨p, hp⟩ : ∃ n, n = i - 1 := ⟨_, rfl⟩
                    have hp1 : (i : Int) - 1 = (p : Int) := by omega
                    have hpC : p < C := by omega
                    have hp' : Hid (p = i - 1) := hp
                    clear hp
                    obtain ⟨lp, hlp⟩ : ∃ n, n = L0 p := ⟨_, rfl⟩
                    have hlpb : lp ≤ nL := by rw [hlp]; exact hL0b'.out p
                    have clp : wc.cell? ⟨gl, p, none⟩ = some (.int .i64 (lp : Nat)) := by rw [hlp]; exact hrl.cell hpC
                    obtain ⟨L1, hL1⟩ : ∃ f : Nat → Nat, f = fun j => if j = p then (if L0 p = nL then nL - 1 else L0 p) else L0 j := ⟨_, rfl⟩
                    have hL1k : L1 p < nL := by
                      rw [hL1]; simp only [if_true]
                      have := hL0b'.out p
                      split <;> omega
                    have hL1' : Hid (L1 = fun j => if j = p then (if L0 p = nL then nL - 1 else L0 p) else L0 j) := hL1
                    have hlp' : Hid (lp = L0 p) := hlp
                    clear hL1 hlp hL0b'
                    go_upto_if 284 with fail
                    go_cut [] from 284 to 290 (fun wc => Row wc gl 3 C (fun j => .int .i64 (L1 j : Nat)) ∧ Row wc gs 4 C (fun j => .bool (S0 j)) ∧ Below gl w8 wc)
                    case first =>
                      --[[
                      by_cases hln : lp = nL
                      · have hd : ((lp : Int) == (nL : Int)) = true := by simp [hln]
                        obtain ⟨nm, hnm⟩ : ∃ n, n = nL - 1 := ⟨_, rfl⟩
                        have enm : (nL : Int) - 1 = (nm : Int) := by omega
                        have fl := hrl.frozen p
                        have hdone : Hid (Row (wc.setCell ⟨gl, p, none⟩ (.int .i64 (nm : Nat))) gl 3 C (fun j => .int .i64 (L1 j : Nat)) ∧ Row (wc.setCell ⟨gl, p, none⟩ (.int .i64 (nm : Nat))) gs 4 C (fun j => .bool (S0 j)) ∧ Below gl w8 (wc.setCell ⟨gl, p, none⟩ (.int .i64 (nm : Nat)))) := by
                          refine ⟨(hrl.set hpC _).congr fun j hj => ?_, hrs.setOther _ _ (by show gs ≠ gl; omega), hbr.setCell (by exact Nat.le_refl _) _⟩
                          rw [hL1'.out]
                          by_cases e : j = p
                          · subst e
                            have e1 : L0 j = nL := by rw [← hlp'.out]; exact hln
                            simp only [if_true, e1, hnm]
                          · simp [e]
                        clear hrl hrs hbr hnm
                        have hln' : Hid (lp = nL) := hln
                        clear hln
                        go_wp2
                        go_meet
                        case rel => exact hdone.out
                      · have hd : ((lp : Int) == (nL : Int)) = false := by simp; omega
                        go_wp2
                        go_meet
                        case rel =>
                          refine ⟨hrl.congr fun j hj => ?_, hrs, hbr⟩
                          rw [hL1'.out]
                          by_cases e : j = p
                          · subst e
                            have e1 : ¬ L0 j = nL := by rw [← hlp'.out]; exact hln
                            simp only [if_true, e1, if_false]
                          · simp [e]
                      --]]
                    case rest =>
                      obtain ⟨hrl1, hrs1, hbr1⟩ := hcut
                      clear hrl hrs hbr clp hL1' hlp' hlpb
                      obtain ⟨w9, hw9⟩ : ∃ x, x = wc := ⟨_, rfl⟩
                      rw [← hw9] at hrl1 hrs1 hbr1 ⊢
                      clear hw9
                      obtain ⟨held, hheld⟩ : ∃ n, n = cntT S0 (old - 1) (C + 1 - old) := ⟨_, rfl⟩
                      have hheldb : held ≤ 6 := by rw [hheld]; have := cntT_le S0 (old - 1) (C + 1 - old); omega
                      have hheld' : Hid (held = cntT S0 (old - 1) (C + 1 - old)) := hheld
                      clear hheld
                      go_upto_block 10 with fail
                      go_cut [47, 48] from 292 to 303 (fun v47 _ wx => v47 = .int .i64 (held : Nat) ∧ wx = w9)
                      case first =>
                        --[[
                        go_wp2
                        go_loopw [47, 48] (fun v47 v48 wx => ∃ h q : Nat, v47 = .int .i64 h ∧ v48 = .int .i64 q ∧ wx = w9 ∧ (old ≤ q ∧ q ≤ C + 1 ∧ h = cntT S0 (old - 1) (q - old)))
                          (fun _ v48 _ => C + 1 - (intOf v48).toNat)
                        case atStart => exact ⟨0, old, rfl, rfl, rfl, Nat.le_refl _, by omega, by simp [cntT]⟩
                        case round =>
                          obtain ⟨hh, q, rfl, rfl, hwx, i1, i2, i3⟩ := hrel
                          obtain rfl := hwx.symm
                          clear hwx
                          have i3b : hh ≤ 7 := by rw [i3]; have := cntT_le S0 (old - 1) (q - old); omega
                          have i3' : Hid (hh = cntT S0 (old - 1) (q - old)) := i3
                          clear i3
                          by_cases hqC : q ≤ C
                          · have hdec : decide (q ≤ C) = true := decide_eq_true hqC
                            obtain ⟨p', hp2⟩ : ∃ n, n = q - 1 := ⟨_, rfl⟩
                            have hp3 : (q : Int) - 1 = (p' : Int) := by omega
                            have hp4 : p' < C := by omega
                            have cq := hrs1.cell hp4
                            have hstep : Hid (cntT S0 (old - 1) (q + 1 - old) = hh + (if S0 p' then 1 else 0)) := by
                              unfold Hid
                              rw [show q + 1 - old = (q - old) + 1 by omega, i3'.out]
                              simp only [cntT]
                              rw [show old - 1 + (q - old) = p' by omega]
                            clear hp2
                            cases hsp : S0 p' with
                            | false =>
                              simp only [hsp] at cq
                              go_wp2
                              refine ⟨⟨hh, q + 1, rfl, by first | rfl | trivial, by first | rfl | trivial, by omega, by omega, ?_⟩, by simp [intOf]; omega⟩
                              have := hstep.out; rw [hsp] at this; simpa using this.symm
                            | true =>
                              simp only [hsp] at cq
                              go_wp2
                              refine ⟨⟨hh + 1, q + 1, rfl, by first | rfl | trivial, by first | rfl | trivial, by omega, by omega, ?_⟩, by simp [intOf]; omega⟩
                              have := hstep.out; rw [hsp] at this; simpa using this.symm
                          · have hdec : decide (q ≤ C) = false := decide_eq_false hqC
                            have e1 : hh = held := by rw [i3'.out, hheld'.out, show q = C + 1 by omega]
                            subst e1
                            go_wp2
                            go_meet
                            case rel => exact ⟨rfl, rfl⟩
                        --]]
                      case rest =>
                        obtain ⟨rfl, hwx⟩ := hcut
                        obtain rfl := hwx.symm
                        clear hwx
                        have hTr9 := hTr8.below hbr1 (by omega) (by omega)
                        have hrowk9 := hrowk8.below hbr1 (by omega)
                        have hrowl9 := hrowl8.below hbr1 (by omega)
                        have hS9 := hS8.below hbr1 hSgl
                        have hbw9 : Below w.heap.size w w9 := hbw8.trans (hbr1.mono hwgl)
                        have hgs9 := hrs1.lt
                        clear hTr8 hrowk8 hrowl8 hS8 hbw8 hbr1 hsz8
                        obtain ⟨N, hN⟩ : ∃ n, n = w9.heap.size := ⟨_, rfl⟩
                        have hcl5 : ∀ w', Below N w9 w' → Calls Ybaf.prog 5 #[.slice (some ⟨gl, 0, none⟩) C C] w' fun e w'' => ∃ g c', e = .returned (.slice (some ⟨g, 0, none⟩) C c') ∧ Row w'' g 3 C (fun j => .int .i64 (L1 j : Nat)) ∧ w'.heap.size ≤ g ∧ Below N w9 w'' ∧ Below w'.heap.size w' w'' := by
                          intro w' hb
                          refine (clone_ints ⟨gl, 0, none⟩ C L1 C w' (by omega) (hrl1.below hb (by rw [hN]; exact hrl1.lt)).reads).mono ?_
                          rintro e w'' ⟨g, c', rfl, h1, h2, h3, h4⟩
                          exact ⟨g, c', rfl, h1, h3, hb.trans (h4.mono (by have := hb.size; omega)), h4⟩
                        have hcl6 : ∀ w', Below N w9 w' → Calls Ybaf.prog 6 #[.slice (some ⟨gs, 0, none⟩) C C] w' fun e w'' => ∃ g c', e = .returned (.slice (some ⟨g, 0, none⟩) C c') ∧ Row w'' g 4 C (fun j => .bool (S0 j)) ∧ w'.heap.size ≤ g ∧ Below N w9 w'' ∧ Below w'.heap.size w' w'' := by
                          intro w' hb
                          refine (clone_bools ⟨gs, 0, none⟩ C S0 C w' (by omega) (hrs1.below hb (by rw [hN]; exact hrs1.lt)).reads).mono ?_
                          rintro e w'' ⟨g, c', rfl, h1, h2, h3, h4⟩
                          exact ⟨g, c', rfl, h1, h3, hb.trans (h4.mono (by have := hb.size; omega)), h4⟩
                        have hSc : Hid (∀ w', Below N w9 w' → w'.cell? ⟨S, 0, none⟩ = some (.pointer (some ⟨T, 0, none⟩)) ∧ w'.cell? ⟨S, 1, none⟩ = some (.int .i64 off) ∧ w'.cell? ⟨S, 2, none⟩ = some (.int .i64 C) ∧ w'.cell? ⟨S, 3, none⟩ = some (.int .i64 cs) ∧ w'.cell? ⟨S, 4, none⟩ = some (.slice (some ⟨lb, 0, none⟩) nL cL) ∧ w'.cell? ⟨S, 5, none⟩ = some (.int .i64 st) ∧ w'.cell? ⟨S, 6, none⟩ = some (.int .i64 buf) ∧ w'.cell? ⟨S, 7, none⟩ = some (.string ByteArray.empty)) := by
                          intro w' hb
                          have hS' := hS9.below hb (by rw [hN]; exact hS9.lt)
                          exact ⟨hS'.cell 0, hS'.cell 1, hS'.cell 2, hS'.cell 3, hS'.cell 4, hS'.cell 5, hS'.cell 6, hS'.cell 7⟩
                        obtain ⟨a0', a1', a2', a3', a4', a5', a6', a7'⟩ := hSc.out w9 (Below.refl _ _)
                        have hNs : N = w9.heap.size := hN
                        have hN' : Hid (N = w9.heap.size) := hN
                        clear hN
                        go_upto_region 62 with fail
                        go_cut [50] from 306 to 319 (fun v50 wx => ∃ K ly cLy sta cSt, v50 = .pointer (some ⟨K, 0, none⟩) ∧ Blk wx K 44 (cliV T off C cs lb nL cL st buf last slot used sb ly cLy sta cSt old held x6) ∧ Row wx ly 3 C (fun j => .int .i64 (L1 j : Nat)) ∧ Row wx sta 4 C (fun j => .bool (S0 j)) ∧ (N ≤ ly ∧ ly < sta ∧ sta < K) ∧ Below N w9 wx)
                        case first =>
                          --[[
                          clear hNs
                          go_region_with (first
                            | (go_at_call 6; refine (hcl6 _ hbA).mono ?_; rintro e wB ⟨sta, cSt, rfl, hrB, hgB, hbB, hbAB⟩; obtain ⟨b0', b1', b2', b3', b4', b5', b6', b7'⟩ := hSc.out wB hbB)
                            | (go_at_call 5; refine (hcl5 _ (by exact ⟨rfl, rfl, rfl, Nat.le_refl _, fun _ _ => rfl⟩)).mono ?_; rintro e wA ⟨ly, cLy, rfl, hrA, hgA, hbA, hbZ⟩; obtain ⟨q0', q1', q2', q3', q4', q5', q6', q7'⟩ := hSc.out wA hbA))
                          all_goals
                            have hgA' : w9.heap.size ≤ ly := hgA
                            have hlyA := hrA.lt
                            have hstB := hrB.lt
                            have hlyB := hrA.below hbAB hrA.lt
                            have hNN := hN'.out
                            have hszB := hbB.size
                            clear hN'
                            go_wp2
                            go_meet
                            case rel => exact ⟨wB.heap.size, ly, cLy, sta, cSt, rfl, Blk.new _ _ _, hlyB.of_block (Below.heap_alloc _ _ _ hlyB.lt), hrB.of_block (Below.heap_alloc _ _ _ hrB.lt), ⟨by omega, by omega, hstB⟩, hbB.alloc (by omega) _⟩
                          --]]
                        case rest =>
                          obtain ⟨K, ly, cLy, sta, cSt, rfl, hK, hly, hsta, ⟨hNly, hlysta, hstaK⟩, hb10⟩ := hcut
                          clear a0' a1' a2' a3' a4' a5' a6' a7' hSc
                          have hTN : T < N := by rw [hN'.out]; exact hTr9.blk.lt
                          have hspN : sp < N := by rw [hN'.out]; exact hTr9.lt
                          have hgkN : gk < N := by rw [hN'.out]; exact hrowk9.lt
                          have hlbN : lb < N := by rw [hN'.out]; exact hrowl9.lt
                          have hKl := hK.lt
                          have hwN : w.heap.size ≤ N := by rw [hN'.out]; exact hbw9.size
                          have hTr10 := hTr9.below hb10 hTN hspN
                          have hrowk10 := hrowk9.below hb10 hgkN
                          have hrowl10 := hrowl9.below hb10 hlbN
                          have hbw10 : Below w.heap.size w wc := hbw9.trans (hb10.mono hwN)
                          obtain ⟨kk, hkk⟩ : ∃ n, n = L1 p := ⟨_, rfl⟩
                          have hkkn : kk < nL := by rw [hkk]; exact hL1k
                          obtain ⟨need, hneed⟩ : ∃ n, n = lbf kk := ⟨_, rfl⟩
                          have hneedb : need ≤ 10000 := by rw [hneed]; exact hlbb'.out kk
                          obtain ⟨left, hleft⟩ : ∃ n, n = sb - used := ⟨_, rfl⟩
                          have eleft : (sb : Int) - (used : Int) = (left : Int) := by omega
                          have hul : used + left = sb := by omega
                          have hleftb : left ≤ 5000 := by omega
                          have hkk' : Hid (kk = L1 p) := hkk
                          have hneed' : Hid (need = lbf kk) := hneed
                          clear hkk hneed hleft hTr9 hrowk9 hrowl9 hS9 hbw9 hNs
                          have harm : Hid (∀ wA wB eL eS, Row wA eL 3 C (fun j => .int .i64 (L1 j : Nat)) → wc.heap.size ≤ eL → Below wc.heap.size wc wA → Row wB eS 4 C (fun j => .bool (S0 j)) → wA.heap.size ≤ eS → Below wA.heap.size wA wB →
                              (wB.cell? ⟨eL, p, none⟩ = some (.int .i64 (kk : Nat)) ∧ wB.cell? ⟨eS, p, none⟩ = some (.bool (S0 p)) ∧ wB.frozen? ⟨eS, p, none⟩ = false ∧ (wB.setCell ⟨eS, p, none⟩ (.bool true)).cell? ⟨lb, kk, none⟩ = some (.int .i64 (need : Nat)))) := by
                            intro wA wB eL eS h1 h2 h3 h4 h5 h6
                            have hs := h3.size
                            refine ⟨?_, h4.cell hpC, h4.frozen p, ?_⟩
                            · rw [(h1.below h6 h1.lt).cell hpC, ← hkk'.out]
                            · have hl1 := hrowl10.below (h3.trans (h6.mono hs)) hrowl10.lt
                              have hl2 := hl1.setOther ⟨eS, p, none⟩ (.bool true) (by show lb ≠ eS; have := hrowl10.lt; omega)
                              rw [hl2.cell hkkn, ← hneed'.out]
                          go_upto_if 345 with (first
                            | (go_at_call 6; refine (hcl6 _ hbE).mono ?_; rintro e wB ⟨eS, cS, rfl, hrS, hgS, hbS, hbS'⟩; obtain ⟨k1', k2', k3', k4'⟩ := harm.out wA wB eL eS hrE hgE hbE' hrS hgS hbS')
                            | (go_at_call 5; refine (hcl5 _ hb10).mono ?_; rintro e wA ⟨eL, cE, rfl, hrE, hgE, hbE, hbE'⟩))
                          obtain ⟨wM, hwM⟩ : ∃ x, x = wB.setCell ⟨eS, p, none⟩ (.bool true) := ⟨_, rfl⟩
                          have hEl := hrE.lt
                          have hSl := hrS.lt
                          have hszA := hbE'.size
                          have hKeL : K < eL := by omega
                          have heLS : eL < eS := by omega
                          have hbB : Below wc.heap.size wc wB := hbE'.trans (hbS'.mono hszA)
                          have hbM : Below wc.heap.size wc wM := by rw [hwM]; exact hbB.setCell (by show wc.heap.size ≤ eS; omega) _
                          have hTrM := hTr10.below hbM (by have := hTr10.blk.lt; omega) (by have := hTr10.lt; omega)
                          have hrowkM := hrowk10.below hbM hrowk10.lt
                          have hrowlM := hrowl10.below hbM hrowl10.lt
                          have hKM := hK.below hbM hKl
                          have hlyM := hly.below hbM hly.lt
                          have hstaM := hsta.below hbM hsta.lt
                          have hELM : Row wM eL 3 C (fun j => .int .i64 (L1 j : Nat)) := by rw [hwM]; exact (hrE.below hbS' hrE.lt).setOther _ _ (by show eL ≠ eS; omega)
                          have hESM : Row wM eS 4 C (fun j => .bool (if j = p then true else S0 j)) := by
                            rw [hwM]
                            refine (hrS.set hpC _).congr fun j hj => ?_
                            by_cases e : j = p
                            · subst e; simp
                            · simp [e]
                          have hbwM : Below w.heap.size w wM := hbw10.trans (hbM.mono hbw10.size)
                          rw [← hwM]
                          clear hwM hbM hbB hTr10 hrowk10 hrowl10 hK hly hsta hrE hrS hbS hbS' hbE hbE' hgE hgS hszA hEl hSl k1' k2' k3' k4' harm hcl5 hcl6 hrl1 hrs1 hb10 hbw10 hKl hgs9
                          obtain ⟨D, hDv⟩ : ∃ n, n = dl cs st p := ⟨_, rfl⟩
                          have hDd : Hid (D = dl cs st p) := hDv
                          have hsD : slot ≤ D := by
                            rw [hDv]
                            rcases o4'.out with h | h
                            · omega
                            · exact Nat.le_trans h (dl_mono cs st (by have := hp'.out; omega))
                          have hDlast : D ≤ 21 := by
                            have : D ≤ last := by rw [hDv, hlastD.out]; exact dl_mono cs st (by omega)
                            omega
                          clear hDv
                          have hzM := fun (j : Nat) h1 h2 => zzslot_calls gk ck kb m off j wM hrowkM hm1 hm2 k5'.out (by omega) h1 h2
                          have hzM' : Hid (∀ j : Nat, 1 ≤ j → j ≤ 128 → Calls Ybaf.prog 4 #[.slice (some ⟨gk, 0, none⟩) m ck, .int .i64 off, .int .i64 j] wM fun e w' => e = .returned (.int .i64 (W kb m (off + j - 1) 1 : Nat)) ∧ w' = wM) := hzM
                          clear hzM
                          have hfl := hELM.frozen p
                          have hcl := hELM.cell hpC
                          simp only [← hkk'.out] at hcl
                          have hdoneW : Hid (∀ v : Nat, v = kk + 1 → (Row (wM.setCell ⟨eL, p, none⟩ (.int .i64 ((kk : Int) + 1))) eL 3 C (fun j => .int .i64 (if j = p then L1 j + 1 else L1 j : Nat)) ∧ But eL wM.heap.size wM (wM.setCell ⟨eL, p, none⟩ (.int .i64 ((kk : Int) + 1))))) := by
                            intro v hv
                            refine ⟨(hELM.set hpC _).congr fun j hj => ?_, (But.refl _ _ wM).setCell p _⟩
                            by_cases e : j = p
                            · subst e; simp [hkk'.out]
                            · simp [e]
                          go_cut [56, 57, 58] from 345 to 402 (fun v56 v57 v58 wx => ∃ t0 u0 wst0 add : Nat, v56 = .int .i64 t0 ∧ v57 = .int .i64 u0 ∧ v58 = .int .i64 wst0 ∧ Way kb m off slot used left need D x6 t0 u0 wst0 add ∧ Row wx eL 3 C (fun j => .int .i64 (if j = p then L1 j + add else L1 j : Nat)) ∧ But eL wM.heap.size wM wx)
                          case first =>
                            --[[
                            by_cases hnl : need ≤ left
                            · have hd : decide (need ≤ left) = true := decide_eq_true hnl
                              go_wp2
                              go_meet
                              case rel => exact ⟨slot, used + need, x6, 1, rfl, by first | rfl | simp, rfl, Or.inl ⟨hnl, rfl, rfl, rfl, rfl⟩, (hdoneW.out _ rfl).1, (hdoneW.out _ rfl).2⟩
                            · have hd : decide (need ≤ left) = false := decide_eq_false hnl
                              obtain ⟨pq, hpq⟩ : ∃ n, n = p * cs := ⟨_, rfl⟩
                              have hpqb : pq ≤ 5 * 3 := by rw [hpq]; exact Nat.mul_le_mul (by omega) hcs3
                              have epq : (p : Int) * (cs : Int) = (pq : Int) := by rw [hpq]; exact (Int.natCast_mul _ _).symm
                              have eD : (pq : Int) + (st : Int) = (D : Int) := by have := hDd.out; unfold dl at this; omega
                              obtain ⟨rem, hrem⟩ : ∃ n, n = need - left := ⟨_, rfl⟩
                              have erem : (need : Int) - (left : Int) = (rem : Int) := by omega
                              have hrem0 : 0 < rem := by omega
                              have hremb : rem ≤ 10000 := by omega
                              have hrem' : Hid (rem = need - left) := hrem
                              clear hrem hpq
                              try simp only [hd]
                              go_wp2
                              go_loopw [56, 57, 61, 62, 63] (fun v56 v57 v61 v62 v63 wx => ∃ acc j : Nat, v56 = .int .i64 slot ∧ v57 = .int .i64 used ∧ v61 = .bool false ∧ v62 = .int .i64 acc ∧ v63 = .int .i64 j ∧ wx = wM ∧ (slot + 1 ≤ j ∧ j ≤ D + 1 ∧ acc = W kb m (off + slot) (j - slot - 1) ∧ acc < rem))
                                (fun _ _ _ _ v63 _ => D + 1 - (intOf v63).toNat)
                              case atStart => exact ⟨0, slot + 1, rfl, rfl, rfl, rfl, by first | rfl | simp, rfl, Nat.le_refl _, by omega, by simp [W], hrem0⟩
                              case round =>
                                obtain ⟨acc, j, rfl, rfl, rfl, rfl, rfl, hwx, i1, i2, i3, i4⟩ := hrel
                                obtain rfl := hwx.symm
                                clear hwx
                                have i3' : Hid (acc = W kb m (off + slot) (j - slot - 1)) := i3
                                clear i3
                                by_cases hjD : j ≤ D
                                · have hdec : decide (j ≤ D) = true := decide_eq_true hjD
                                  have hz := hzM'.out j (by omega) (by omega)
                                  have hsum : Hid (W kb m (off + slot) (j - slot) = acc + W kb m (off + j - 1) 1) := by
                                    unfold Hid
                                    have := W_add kb m (off + slot) (j - slot - 1) 1
                                    rw [show j - slot - 1 + 1 = j - slot by omega, show off + slot + (j - slot - 1) = off + j - 1 by omega] at this
                                    rw [this, i3'.out]
                                  have hbb : W kb m (off + j - 1) 1 ≤ 5000 := Nat.le_trans (W_le k5'.out m _ 1) (by omega)
                                  generalize W kb m (off + j - 1) 1 = b at hz hsum hbb
                                  obtain ⟨ab, hab⟩ : ∃ n, n = acc + b := ⟨_, rfl⟩
                                  have eab : (acc : Int) + (b : Int) = (ab : Int) := by omega
                                  have habb : ab ≤ 15000 := by omega
                                  have hab' : Hid (ab = acc + b) := hab
                                  clear hab
                                  by_cases hge : rem ≤ ab
                                  · have hdd : decide (rem ≤ ab) = true := decide_eq_true hge
                                    obtain ⟨u0, hu0⟩ : ∃ n, n = rem - acc := ⟨_, rfl⟩
                                    have eu0 : (rem : Int) - (acc : Int) = (u0 : Int) := by omega
                                    have hu0b : u0 ≤ 10000 := by omega
                                    have hu0' : Hid (u0 = rem - acc) := hu0
                                    clear hu0
                                    go_wp2_with (go_at_call 4; refine hz.mono ?_; rintro e w6 ⟨rfl, hw6⟩; obtain rfl := hw6.symm; clear hw6)
                                    go_meet
                                    case rel =>
                                      have hab := hab'.out
                                      have hu0 := hu0'.out
                                      refine ⟨j, u0, x6, 1, rfl, rfl, rfl, Or.inr (Or.inl ⟨by omega, by omega, hjD, ?_, ?_, ?_, rfl, rfl⟩), (hdoneW.out _ rfl).1, (hdoneW.out _ rfl).2⟩
                                      · rw [← i3'.out, ← hrem'.out]; exact i4
                                      · rw [hsum.out, ← hrem'.out, ← hab]; exact hge
                                      · rw [← i3'.out, ← hrem'.out]; omega
                                  · have hdd : decide (rem ≤ ab) = false := decide_eq_false hge
                                    go_wp2_with (go_at_call 4; refine hz.mono ?_; rintro e w6 ⟨rfl, hw6⟩; obtain rfl := hw6.symm; clear hw6)
                                    have hWn : W kb m (off + slot) (j + 1 - slot - 1) = ab := by rw [show j + 1 - slot - 1 = j - slot by omega, hsum.out, hab'.out]
                                    go_roundw
                                    case rel =>
                                      first
                                        | exact ⟨ab, j + 1, rfl, rfl, rfl, by first | rfl | trivial | simp, by first | rfl | trivial | simp, by first | rfl | trivial, by omega, by omega, hWn.symm, by omega⟩
                                        | ((repeat apply Exists.intro); refine ⟨?rr, rfl⟩; exact ⟨ab, j + 1, rfl, rfl, rfl, by first | rfl | trivial | simp, by first | rfl | trivial | simp, by first | rfl | trivial, by omega, by omega, hWn.symm, by omega⟩)
                                    case measure => simp [intOf]; omega
                                · have hdec : decide (j ≤ D) = false := decide_eq_false hjD
                                  obtain ⟨lw, hlw⟩ : ∃ n, n = left + acc := ⟨_, rfl⟩
                                  have elw : (left : Int) + (acc : Int) = (lw : Int) := by omega
                                  obtain ⟨wst0, hws⟩ : ∃ n, n = x6 + lw := ⟨_, rfl⟩
                                  have ews : (x6 : Int) + (lw : Int) = (wst0 : Int) := by omega
                                  have hlwb : lw ≤ 15000 := by omega
                                  have hwsb : wst0 ≤ 100000 := by omega
                                  have hej : j = D + 1 := by omega
                                  have hfin : Hid (Way kb m off slot used left need D x6 (D + 1) 0 wst0 0) := by
                                    refine Or.inr (Or.inr ⟨by omega, ?_, rfl, rfl, ?_, rfl⟩)
                                    · have := i3'.out; rw [show j - slot - 1 = D - slot by omega] at this; rw [← this, ← hrem'.out]; exact i4
                                    · have := i3'.out; rw [show j - slot - 1 = D - slot by omega] at this; rw [← this]; omega
                                  clear hlw hws hej
                                  go_wp2
                                  go_meet
                                  case rel => exact ⟨D + 1, 0, wst0, 0, by first | rfl | simp, rfl, rfl, hfin.out, hELM.congr (fun j hj => by simp), But.refl _ _ _⟩
                            --]]
                          case rest => as_aux_lemma =>
                            obtain ⟨t0, u0, wst0, add, rfl, rfl, rfl, hway0, hELx, hbutx⟩ := hcut
                            have hway : Hid (Way kb m off slot used left need D x6 t0 u0 wst0 add) := hway0
                            have hWD := W_le k5'.out m (off + slot) (D - slot)
                            have hb0 : (1 ≤ t0 ∧ t0 ≤ 22) ∧ u0 ≤ 15000 ∧ wst0 ≤ 300000 := by
                              rcases hway0 with h1 | h1 | h1
                              · omega
                              · omega
                              · omega
                            obtain ⟨⟨ht01, ht02⟩, hu0b, hws0b⟩ := hb0
                            clear hway0 hfl hcl hdoneW hWD
                            have hTrx := hTrM.but hbutx hTrM.blk.lt hTrM.lt (by have := hTrM.blk.lt; omega) (by omega)
                            have hrowkx := hrowkM.of_block (hbutx.block gk hrowkM.lt (by omega))
                            have hrowlx := hrowlM.of_block (hbutx.block lb hrowlM.lt (by omega))
                            have hKx : Blk wc K 44 (cliV T off C cs lb nL cL st buf last slot used sb ly cLy sta cSt old held x6) := hbutx.blk hKM hKM.lt (by omega)
                            have hlyx := hlyM.of_block (hbutx.block ly hlyM.lt (by omega))
                            have hstax := hstaM.of_block (hbutx.block sta hstaM.lt (by omega))
                            have hESx := hESM.of_block (hbutx.block eS hESM.lt (by omega))
                            have hbwx : Below w.heap.size w wc := hbwM.trans ⟨hbutx.os, hbutx.tape, hbutx.output, hbutx.size, fun k hk => hbutx.block k (by have := hbwM.size; omega) (by omega)⟩
                            clear hTrM hrowkM hrowlM hKM hlyM hstaM hELM hESM hbwM hbutx hzM'
                            obtain ⟨wX, hwX⟩ : ∃ x, x = wc := ⟨_, rfl⟩
                            rw [← hwX] at hTrx hrowkx hrowlx hKx hlyx hstax hESx hELx hbwx ⊢
                            clear hwX
                            have hzM := fun (j : Nat) h1 h2 => zzslot_calls gk ck kb m off j wX hrowkx hm1 hm2 k5'.out (by omega) h1 h2
                            have hzM' : Hid (∀ j : Nat, 1 ≤ j → j ≤ 128 → Calls Ybaf.prog 4 #[.slice (some ⟨gk, 0, none⟩) m ck, .int .i64 off, .int .i64 j] wX fun e w' => e = .returned (.int .i64 (W kb m (off + j - 1) 1 : Nat)) ∧ w' = wX) := hzM
                            clear hzM
                            have hz1 := hzM'.out t0 ht01 (by omega)
                            obtain ⟨b1, hb1v⟩ : ∃ n, n = W kb m (off + t0 - 1) 1 := ⟨_, rfl⟩
                            rw [← hb1v] at hz1
                            have hb1b : b1 ≤ 5000 := by rw [hb1v]; exact Nat.le_trans (W_le k5'.out m _ 1) (by omega)
                            have hb1' : Hid (b1 = W kb m (off + t0 - 1) 1) := hb1v
                            clear hb1v
                            obtain ⟨fl, hfl⟩ : ∃ fl, fl = decide (0 < u0 ∧ u0 = b1) := ⟨_, rfl⟩
                            have hfl' : Hid (fl = decide (0 < u0 ∧ u0 = b1)) := hfl
                            clear hfl
                            go_upto_region 91 with fail
                            go_cut [412] from 403 to 412 (fun v wx => v = .bool fl ∧ wx = wX)
                            case first =>
                              --[[
                              by_cases g0 : 0 < u0
                              · have g1 : decide (0 < u0) = true := decide_eq_true g0
                                by_cases g2 : u0 = b1
                                · have g3 : ((u0 : Int) == (b1 : Int)) = true := by simp [g2]
                                  have g4 : fl = true := by rw [hfl'.out]; exact decide_eq_true ⟨g0, g2⟩
                                  subst g4
                                  clear g2
                                  go_wp2_with (go_at_call 4; refine hz1.mono ?_; rintro e w6 ⟨rfl, hw6⟩; obtain rfl := hw6.symm; clear hw6)
                                  go_meet
                                  case rel => exact ⟨by first | rfl | simp, rfl⟩
                                · have g3 : ((u0 : Int) == (b1 : Int)) = false := by simp; omega
                                  have g4 : fl = false := by rw [hfl'.out]; exact decide_eq_false (fun h => g2 h.2)
                                  subst g4
                                  clear g2
                                  go_wp2_with (go_at_call 4; refine hz1.mono ?_; rintro e w6 ⟨rfl, hw6⟩; obtain rfl := hw6.symm; clear hw6)
                                  go_meet
                                  case rel => exact ⟨by first | rfl | simp, rfl⟩
                              · have g1 : decide (0 < u0) = false := decide_eq_false g0
                                have g4 : fl = false := by rw [hfl'.out]; exact decide_eq_false (fun h => g0 h.1)
                                subst g4
                                go_wp2
                                go_meet
                                case rel => exact ⟨by first | rfl | simp, rfl⟩
                              --]]
                            case rest =>
                              obtain ⟨rfl, hwx⟩ := hcut
                              obtain rfl := hwx.symm
                              clear hwx hz1
                              go_upto_if 412 with fail
                              go_cut [56, 57] from 412 to 414 (fun v56 v57 wx => ∃ t2 u2 : Nat, v56 = .int .i64 t2 ∧ v57 = .int .i64 u2 ∧ wx = wX ∧ ((0 < u0 ∧ u0 = b1 ∧ t2 = t0 + 1 ∧ u2 = 0) ∨ (¬ (0 < u0 ∧ u0 = b1) ∧ t2 = t0 ∧ u2 = u0)))
                              case first =>
                                --[[
                                by_cases g0 : 0 < u0 ∧ u0 = b1
                                · have g4 : fl = true := by rw [hfl'.out]; exact decide_eq_true g0
                                  subst g4
                                  have g0' : Hid (0 < u0 ∧ u0 = b1) := g0
                                  clear g0
                                  go_wp2
                                  go_meet
                                  case rel => exact ⟨t0 + 1, 0, by first | rfl | simp, rfl, rfl, Or.inl ⟨g0'.out.1, g0'.out.2, rfl, rfl⟩⟩
                                · have g4 : fl = false := by rw [hfl'.out]; exact decide_eq_false g0
                                  subst g4
                                  have g0' : Hid (¬ (0 < u0 ∧ u0 = b1)) := g0
                                  clear g0
                                  go_wp2
                                  go_meet
                                  case rel => exact ⟨t0, u0, rfl, rfl, rfl, Or.inr ⟨g0'.out, rfl, rfl⟩⟩
                                --]]
                              case rest => as_aux_lemma =>
                                obtain ⟨t2, u2, rfl, rfl, hwx, hfull0⟩ := hcut
                                obtain rfl := hwx.symm
                                clear hwx hfl'
                                have hfull : Hid ((0 < u0 ∧ u0 = b1 ∧ t2 = t0 + 1 ∧ u2 = 0) ∨ (¬ (0 < u0 ∧ u0 = b1) ∧ t2 = t0 ∧ u2 = u0)) := hfull0
                                have ht2 : 1 ≤ t2 ∧ t2 ≤ 23 := by rcases hfull0 with h | h <;> omega
                                obtain ⟨ht21, ht22⟩ := ht2
                                have hu2b : u2 ≤ 15000 := by rcases hfull0 with h | h <;> omega
                                clear hfull0
                                have hz2' := hzM'.out t2 ht21 (by omega)
                                obtain ⟨b2, hb2v⟩ : ∃ n, n = W kb m (off + t2 - 1) 1 := ⟨_, rfl⟩
                                rw [← hb2v] at hz2'
                                have hb2b : b2 ≤ 5000 := by rw [hb2v]; exact Nat.le_trans (W_le k5'.out m _ 1) (by omega)
                                have hb2' : Hid (b2 = W kb m (off + t2 - 1) 1) := hb2v
                                clear hb2v
                                go_upto_block 14 with (go_at_call 4; refine hz2'.mono ?_; rintro e w6 ⟨rfl, hw6⟩; obtain rfl := hw6.symm; clear hw6)
                                go_cut [66] from 419 to 433 (fun v wx => ∃ o : Nat, v = .int .i64 o ∧ wx = wX ∧ (1 ≤ o ∧ o ≤ C + 1 ∧ (∀ q, 1 ≤ q → q < o → dl cs st (q - 1) < t2) ∧ (o = C + 1 ∨ t2 ≤ dl cs st (o - 1))))
                                case first =>
                                  --[[
                                  go_wp2
                                  go_loopw [66] (fun v wx => ∃ o : Nat, v = .int .i64 o ∧ wx = wX ∧ (1 ≤ o ∧ o ≤ C + 1 ∧ (∀ q, 1 ≤ q → q < o → dl cs st (q - 1) < t2)))
                                    (fun v _ => C + 1 - (intOf v).toNat)
                                  case atStart => exact ⟨1, rfl, rfl, Nat.le_refl _, by omega, fun q h1 h2 => by omega⟩
                                  case round =>
                                    obtain ⟨o, rfl, hwx, i1, i2, i3⟩ := hrel
                                    obtain rfl := hwx.symm
                                    clear hwx
                                    have i3' : Hid (∀ q, 1 ≤ q → q < o → dl cs st (q - 1) < t2) := i3
                                    clear i3
                                    by_cases hoC : o ≤ C
                                    · have hdec : decide (o ≤ C) = true := decide_eq_true hoC
                                      obtain ⟨p, hp⟩ : ∃ p, p = o - 1 := ⟨_, rfl⟩
                                      have hp1 : (o : Int) - 1 = (p : Int) := by omega
                                      obtain ⟨pq, hpq⟩ : ∃ n, n = p * cs := ⟨_, rfl⟩
                                      have hpqb : pq ≤ 5 * 3 := by rw [hpq]; exact Nat.mul_le_mul (by omega) hcs3
                                      have epq : (p : Int) * (cs : Int) = (pq : Int) := by rw [hpq]; exact (Int.natCast_mul _ _).symm
                                      obtain ⟨D, hD⟩ : ∃ n, n = pq + st := ⟨_, rfl⟩
                                      have eD : (pq : Int) + (st : Int) = (D : Int) := by omega
                                      have hDd : Hid (D = dl cs st (o - 1)) := by unfold Hid dl; rw [hD, hpq, hp]
                                      have hDb : D ≤ 21 := by omega
                                      clear hp hpq hD
                                      by_cases hlt : D < t2
                                      · have hdd : decide (D < t2) = true := decide_eq_true hlt
                                        go_wp2
                                        refine ⟨⟨o + 1, by first | rfl | trivial, by first | rfl | trivial, by omega, by omega, fun q q1 q2 => ?_⟩, by simp [intOf]; omega⟩
                                        by_cases hq : q = o
                                        · subst hq; rw [← hDd.out]; exact hlt
                                        · exact i3'.out q q1 (by omega)
                                      · have hdd : decide (D < t2) = false := decide_eq_false hlt
                                        go_wp2
                                        go_meet
                                        case rel => exact ⟨o, rfl, rfl, i1, i2, i3'.out, Or.inr (by rw [← hDd.out]; omega)⟩
                                    · have hdec : decide (o ≤ C) = false := decide_eq_false hoC
                                      go_wp2
                                      go_meet
                                      case rel => exact ⟨o, rfl, rfl, i1, i2, i3'.out, Or.inl (by omega)⟩
                                  --]]
                                case rest =>
                                  obtain ⟨eO, rfl, hwx, eo1, eo2, eo3, eo4⟩ := hcut
                                  obtain rfl := hwx.symm
                                  clear hwx hz2'
                                  have eo3' : Hid (∀ q, 1 ≤ q → q < eO → dl cs st (q - 1) < t2) := eo3
                                  have eo4' : Hid (eO = C + 1 ∨ t2 ≤ dl cs st (eO - 1)) := eo4
                                  clear eo3 eo4
                                  obtain ⟨S1, hS1⟩ : ∃ f : Nat → Bool, f = fun j => if j = p then true else S0 j := ⟨_, rfl⟩
                                  have hESy : Row wX eS 4 C (fun j => .bool (S1 j)) := by rw [hS1]; exact hESx
                                  have hS1' : Hid (S1 = fun j => if j = p then true else S0 j) := hS1
                                  clear hS1 hESx
                                  obtain ⟨eH, heH⟩ : ∃ n, n = cntT S1 (eO - 1) (C + 1 - eO) := ⟨_, rfl⟩
                                  have heHb : eH ≤ 7 := by rw [heH]; have := cntT_le S1 (eO - 1) (C + 1 - eO); omega
                                  have heH' : Hid (eH = cntT S1 (eO - 1) (C + 1 - eO)) := heH
                                  clear heH
                                  go_upto_block 16 with fail
                                  go_cut [67, 68] from 435 to 446 (fun v47 _ wx => v47 = .int .i64 (eH : Nat) ∧ wx = wX)
                                  case first =>
                                    --[[
                                    go_wp2
                                    go_loopw [67, 68] (fun v47 v48 wx => ∃ h q : Nat, v47 = .int .i64 h ∧ v48 = .int .i64 q ∧ wx = wX ∧ (eO ≤ q ∧ q ≤ C + 1 ∧ h = cntT S1 (eO - 1) (q - eO)))
                                      (fun _ v48 _ => C + 1 - (intOf v48).toNat)
                                    case atStart => exact ⟨0, eO, rfl, rfl, rfl, Nat.le_refl _, by omega, by simp [cntT]⟩
                                    case round =>
                                      obtain ⟨hh, q, rfl, rfl, hwx, i1, i2, i3⟩ := hrel
                                      obtain rfl := hwx.symm
                                      clear hwx
                                      have i3b : hh ≤ 7 := by rw [i3]; have := cntT_le S1 (eO - 1) (q - eO); omega
                                      have i3' : Hid (hh = cntT S1 (eO - 1) (q - eO)) := i3
                                      clear i3
                                      by_cases hqC : q ≤ C
                                      · have hdec : decide (q ≤ C) = true := decide_eq_true hqC
                                        obtain ⟨p', hp2⟩ : ∃ n, n = q - 1 := ⟨_, rfl⟩
                                        have hp3 : (q : Int) - 1 = (p' : Int) := by omega
                                        have hp4 : p' < C := by omega
                                        have cq := hESy.cell hp4
                                        have hstep : Hid (cntT S1 (eO - 1) (q + 1 - eO) = hh + (if S1 p' then 1 else 0)) := by
                                          unfold Hid
                                          rw [show q + 1 - eO = (q - eO) + 1 by omega, i3'.out]
                                          simp only [cntT]
                                          rw [show eO - 1 + (q - eO) = p' by omega]
                                        clear hp2
                                        cases hsp : S1 p' with
                                        | false =>
                                          simp only [hsp] at cq
                                          go_wp2
                                          refine ⟨⟨hh, q + 1, rfl, by first | rfl | trivial, by first | rfl | trivial, by omega, by omega, ?_⟩, by simp [intOf]; omega⟩
                                          have := hstep.out; rw [hsp] at this; simpa using this.symm
                                        | true =>
                                          simp only [hsp] at cq
                                          go_wp2
                                          refine ⟨⟨hh + 1, q + 1, rfl, by first | rfl | trivial, by first | rfl | trivial, by omega, by omega, ?_⟩, by simp [intOf]; omega⟩
                                          have := hstep.out; rw [hsp] at this; simpa using this.symm
                                      · have hdec : decide (q ≤ C) = false := decide_eq_false hqC
                                        have e1 : hh = eH := by rw [i3'.out, heH'.out, show q = C + 1 by omega]
                                        subst e1
                                        go_wp2
                                        go_meet
                                        case rel => exact ⟨rfl, rfl⟩
                                    --]]
                                  case rest => as_aux_lemma =>
                                    obtain ⟨rfl, hwx⟩ := hcut
                                    obtain rfl := hwx.symm
                                    clear hwx
                                    have hst2 : slot ≤ t2 := by
                                      have h1 : slot ≤ t0 := by rcases hway.out with h | h | h <;> omega
                                      rcases hfull.out with h | h <;> omega
                                    have hF : Calls Ybaf.prog 7 #[.pointer (some ⟨K, 0, none⟩), .int .i64 i] wX fun e w' => e = .returned (.tuple #[]) ∧ Blk w' K 44 (cliV T off C cs lb nL cL st buf last t2 u2 b2 ly cLy sta cSt eO eH wst0) ∧
                                        Row w' ly 3 C (fun j => .int .i64 (if j = p then L1 j + add else L1 j : Nat)) ∧ Row w' sta 4 C (fun j => .bool (S1 j)) ∧ Row w' eL 3 C (fun j => .int .i64 (if j = p then L1 j + add else L1 j : Nat)) ∧ Row w' eS 4 C (fun j => .bool (S1 j)) ∧ Below w.heap.size w w' := by
                                      have hpi := hp'.out
                                      refine (fetch_calls K T sp kb m off C cs lb nL cL st buf last slot used sb ly cLy sta cSt old held x6 L1 S0 lbf i need D left t0 u0 wst0 add t2 u2 b1 b2 wX hTrx hKx hlyx hstax hrowlx
                                        (by omega) (by omega) (by omega) (by omega) (by omega) (by omega) (by omega) (by omega) (by omega) (by omega) (by omega) (by omega)
                                        (by omega) hslot1 hsD (by omega) (by rw [← hpi]; exact hDd) (by omega) (by omega) (by omega) o1 hoi hiC hheld' (by omega) hul (by rw [← hpi, ← hkk'.out]; exact hneed') hneedb (by rw [← hpi]; exact hL1k) (by omega) (by omega) hway hb1' hb2' hfull).mono ?_
                                      rintro e w' ⟨rfl, o, hd, q1, q2, q3, q4, r1, r2, r3, r4, r5⟩
                                      rw [← hpi] at q2 q3 r5
                                      rw [← hS1'.out] at r5
                                      have ho : o = eO := old_unique r1 r2 r3 r4 o3'.out hst2 o1 eo1 eo2 eo3'.out eo4'.out
                                      have hh : hd = eH := by rw [heH'.out, ← ho]; exact held_unique r1 r2 o1 r5
                                      subst ho
                                      subst hh
                                      refine ⟨rfl, q1, q2, q3.congr (fun j _ => by rw [hS1'.out]), hELx.of_block (q4.block eL hELx.lt (by omega) (by omega) (by omega)), hESy.of_block (q4.block eS hESy.lt (by omega) (by omega) (by omega)), hbwx.trans ⟨q4.os, q4.tape, q4.output, q4.size, fun k hk => q4.block k (by have := hbwx.size; omega) (by omega) (by omega) (by omega)⟩⟩
                                    clear hway hfull hb1' hb2' hTrx hKx hlyx hstax hrowlx hrowkx hELx hESy hbwx hDd hkk' hneed' hL1k hheld' o3' o4' eo3' eo4' heH' hS1' hzM' hp'
                                    obtain ⟨L2, hL2⟩ : ∃ f : Nat → Nat, f = fun j => if j = p then L1 j + add else L1 j := ⟨_, rfl⟩
                                    have hF2 : Calls Ybaf.prog 7 #[.pointer (some ⟨K, 0, none⟩), .int .i64 i] wX fun e w' => e = .returned (.tuple #[]) ∧ Blk w' K 44 (cliV T off C cs lb nL cL st buf last t2 u2 b2 ly cLy sta cSt eO eH wst0) ∧
                                        Row w' ly 3 C (fun j => .int .i64 (L2 j : Nat)) ∧ Row w' sta 4 C (fun j => .bool (S1 j)) ∧ Row w' eL 3 C (fun j => .int .i64 (L2 j : Nat)) ∧ Row w' eS 4 C (fun j => .bool (S1 j)) ∧ Below w.heap.size w w' := by
                                      rw [hL2]; exact hF
                                    clear hF hL2
                                    go_wp2_with (first
                                      | (go_at_call 9; refine (eq_bools (some ⟨sta, 0, none⟩) (some ⟨eS, 0, none⟩) C cSt cS S1 _ (by omega) f4d.out f6d.out).mono ?_; rintro e w5 ⟨rfl, n5, rfl⟩)
                                      | (go_at_call 8; refine (eq_ints (some ⟨ly, 0, none⟩) (some ⟨eL, 0, none⟩) C cLy cE L2 _ (by omega) f3.out f5.out).mono ?_; rintro e w4 ⟨rfl, n4, rfl⟩; have c14d : (wF.drewN n4).cell? ⟨K, 14, none⟩ = some (.slice (some ⟨sta, 0, none⟩) C cSt) := c14; have f4d : Hid (Reads (wF.drewN n4) (some ⟨sta, 0, none⟩) C (fun j => .bool (S1 j))) := f4.out; have f6d : Hid (Reads (wF.drewN n4) (some ⟨eS, 0, none⟩) C (fun j => .bool (S1 j))) := f6.out)
                                      | (go_at_call 7; refine hF2.mono ?_; rintro e wF ⟨rfl, q1, q2, q3, q4, q5, q6⟩; obtain ⟨c0, c1, c2, c3, c4, c5, c6, c7, c8, c9, c10, c11, c12, c13, c14, c15, c16, c17⟩ := cli_at q1; have f3 : Hid (Reads wF (some ⟨ly, 0, none⟩) C (fun j => .int .i64 (L2 j : Nat))) := q2.reads; have f4 : Hid (Reads wF (some ⟨sta, 0, none⟩) C (fun j => .bool (S1 j))) := q3.reads; have f5 : Hid (Reads wF (some ⟨eL, 0, none⟩) C (fun j => .int .i64 (L2 j : Nat))) := q4.reads; have f6 : Hid (Reads wF (some ⟨eS, 0, none⟩) C (fun j => .bool (S1 j))) := q5.reads; clear q1 q2 q3 q4 q5 c0 c1 c2 c3 c4 c5 c6 c7))
                                    go_ret
                                    exact ⟨by first | rfl | simp, by first | exact below_drewN q6 _ | exact below_drewN (below_drewN q6 _) _⟩
end Go.Proofs.YbulkeeawFmt
