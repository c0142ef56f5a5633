import Derived.Test.YbulkeeeqPreD
import Derived.Lib.Builder
namespace Go.Proofs.Ybulkeeeq
open Go.RowKit
set_option linter.unusedVariables false

/-- When the model is through: what it has written. -/
structure L5 (M : Mdl) (X : Cx) (B wb wn ib k : Nat) (w wr : World) (Y : Hp) (wk ix : Nat → Nat) (j : Nat) : Prop where
  hw : WRow wr wb wn (leftN M.s0 + j) (logs M.s0 (leftN M.s0) ++ stops j)
  hI : Idl M X B ib k w wr Y wk ix
theorem L4.done {M : Mdl} {X : Cx} {B pb wb wn ib k : Nat} {w wr : World} {Y : Hp} {wk ix : Nat → Nat} {i : Nat} (h : L4 M X B pb wb wn ib k w wr Y wk ix i) (hn : (it M.s0 i).n = 0) : i = leftN M.s0 ∧ L5 M X B wb wn ib k w wr Y wk ix 0 := by
  have h1 := h.g.left
  have h2 := left_zero hn
  have e : i = leftN M.s0 := by omega
  subst e
  exact ⟨rfl, by have := h.hw; simpa [stops] using this, h.hI⟩
theorem L5.step {M : Mdl} {X : Cx} {B wb wn ib k : Nat} {w wr wz w5 : World} {Y : Hp} {wk ix : Nat → Nat} {j : Nat} (h : L5 M X B wb wn ib k w wr Y wk ix j) (hB : B ≤ wb) (hb : Below wr.heap.size wr wz) (ho : Only wb wz w5) {ws cs5 : Array Value} (hws : Blk wr wb 59 ws) (h5 : Blk w5 wb 59 cs5) (hs5 : cs5.size = wn * 3) (hroom : leftN M.s0 + j + 1 ≤ wn)
    (h1 : ∀ r, r < [Value.bool true, .int .i64 j, .int .i64 0].length → cs5[(leftN M.s0 + j) * 3 + r]? = [Value.bool true, .int .i64 j, .int .i64 0][r]?) (h2 : ∀ r, r < (leftN M.s0 + j) * 3 → cs5[r]? = ws[r]?) : L5 M X B wb wn ib k w w5 Y wk ix (j + 1) := by
  obtain ⟨vs, v1, v2, v3, v4, v5⟩ := h.hw
  obtain rfl := v1.uniq hws
  have v1z := v1.below hb v1.lt
  refine ⟨?_, (h.hI.below hb).only ho v1z (Or.inr rfl) hB⟩
  have := WRow.snoc h5 hs5 hroom v4 v5.out (fun r hr => h1 r (by simpa using hr)) h2
  rw [show logs M.s0 (leftN M.s0) ++ stops (j + 1) = (logs M.s0 (leftN M.s0) ++ stops j) ++ [.bool true, .int .i64 j, .int .i64 0] by simp [stops, List.append_assoc]]
  exact this

/-- Behind the run: all that is asked. -/
structure L6 (M : Mdl) (B nl : Nat) (wb wn k : Nat) (w wr : World) : Prop where
  hc : ∃ va vc lcs, Blk wr B 33 #[.int .i64 (it M.s0 (leftN M.s0)).now, .slice va 0 vc, .slice (some ⟨B + 3, 0, none⟩) nl nl, .int .u64 (it M.s0 (leftN M.s0)).seq, .pointer none, .slice none 0 0] ∧ Blk wr (B + 3) 40 lcs ∧ ∀ j, j < nl → lcs[j]? = some (.pointer (some ⟨B + 6 + j, 0, none⟩))
  hl : ∀ j, j < nl → ∃ (d : Int) (va : Option Addr) (vc n : Nat), Blk wr (B + 6 + j) 42 #[.int .i64 d, .slice va n vc, .int .i64 n]
  hst : ∃ la lc, Blk wr (B + 1) 37 #[.pointer (some ⟨B, 0, none⟩), .slice la (leftN M.s0 + k) lc, .int .i64 (it M.s0 (leftN M.s0)).nid] ∧ ∀ j, j < (leftN M.s0 + k) * 3 → ∃ g, la = some ⟨g, 0, none⟩ ∧ wr.cell? ⟨g, j, none⟩ = (logs M.s0 (leftN M.s0) ++ stops k)[j]?
  hsv : Blk wr (B + 2) 34 #[.pointer (some ⟨B + 1, 0, none⟩)]
  hw : WRow wr wb wn (leftN M.s0 + k) (logs M.s0 (leftN M.s0) ++ stops k)
  hb : Below B w wr

theorem run_done {M : Mdl} {B nl : Nat} {lcs : Array Value} {wb wn ib k : Nat} {w wr : World} {Y : Hp} {wk ix : Nat → Nat} (hX : (mkX B nl lcs).Ok) (h : L5 M (mkX B nl lcs) B wb wn ib k w wr Y wk ix k) (hN : M.N ≤ 1024) (hk : k ≤ 255) (hdd : ∀ i, M.d i ≤ 255) :
    Calls Yba.prog 9 #[.pointer (some ⟨B, 0, none⟩)] wr fun ex w' => ex = .returned (.tuple #[]) ∧ L6 M B nl wb wn k w w' := by
  obtain ⟨⟨ws, hw1, hw2⟩, hI⟩ := h
  obtain ⟨ics, hi1, hi2, hi3⟩ := hI.hi
  refine (run_calls hX M.s0 ib k (B + 2) ics wk ix M.uniq (fun j _ => hdd j) hN hN hN hk hI.S hi1 hi3 hI.hwk hI.hsv hI.hix).mono ?_
  rintro ex w' ⟨rfl, Y', S', hn0, hm0, kp⟩
  refine ⟨rfl, ?_, ?_, ?_, ?_, ?_, ?_⟩
  · have hr := S'.hr
    rw [hn0] at hr
    obtain ⟨va, vc, hv⟩ := len_of hr
    have hc := S'.hc
    rw [hv] at hc
    exact ⟨va, vc, lcs, hc, S'.hlb, hX.hlcs⟩
  · intro j hj
    obtain ⟨hd, n, h', k1, k2, k3, _⟩ := S'.hL j hj
    have hm := hm0 j hj
    have e : hd = n := by omega
    subst e
    rcases k2 with ⟨e1, e2⟩ | ⟨g, cap, cs, e1, _⟩
    · rw [e1] at k1
      subst e2
      exact ⟨_, none, 0, 0, k1⟩
    · rw [e1] at k1
      exact ⟨_, _, cap, hd, k1⟩
  · have hs := S'.hst
    rcases S'.hlog with ⟨l1, ⟨e1, e2⟩ | ⟨g, cap, cur, e1, e2, e3, e4, e5, e6, e7⟩⟩
    · rw [e1] at hs
      refine ⟨none, 0, ?_, fun j hj => by omega⟩
      rw [e2]; exact hs
    · rw [e1] at hs
      refine ⟨_, cap, hs, fun j hj => ⟨g, rfl, ?_⟩⟩
      rw [(show Blk w' g 59 cur from e3).cell, ← e7, List.getElem?_take, if_pos hj]
      simp
  · exact kp.blk hI.hsv (hI.S.notFoot hI.hsv (by decide) (by decide) (by decide) (by decide) (by decide))
  · refine ⟨ws, kp.blk hw1 ?_, hw2⟩
    rintro (h | h | ⟨j, hj, h⟩ | h | ⟨j, hj, h⟩ | h)
    · exact hw1.ne hI.S.hc (by decide) h
    · exact hw1.ne hI.S.hst (by decide) h
    · obtain ⟨hd, n, h', k1, _⟩ := hI.S.hL j hj
      exact hw1.ne k1 (by decide) h
    · obtain ⟨cs, hcs⟩ := hI.S.hr.own_blk h; exact absurd (hw1.ty hcs) (by decide)
    · obtain ⟨cs, hcs⟩ := (hI.S.hL j hj).own_blk h; exact absurd (hw1.ty hcs) (by decide)
    · rw [hI.hlog] at h; simp [Value.ownBlock] at h
  · exact hI.hb.trans (kp.low hI.S.lowFoot (by have := hI.hsv.lt; omega))
theorem rec_logs (s0 : St) : ∀ n i, i < n → ∃ (b : Bool) (id t : Int), (logs s0 n)[i * 3]? = some (.bool b) ∧ (logs s0 n)[i * 3 + 1]? = some (.int .i64 id) ∧ (logs s0 n)[i * 3 + 2]? = some (.int .i64 t)
  | 0, i, h => by omega
  | n + 1, i, h => by
    simp only [logs]
    by_cases e : i = n
    · subst e
      refine ⟨false, (outE (it s0 i)).id, (outE (it s0 i)).t, ?_, ?_, ?_⟩
      · rw [List.getElem?_append_right (by rw [logs_len]; omega), logs_len, show i * 3 - i * 3 = 0 by omega]; rfl
      · rw [List.getElem?_append_right (by rw [logs_len]; omega), logs_len, show i * 3 + 1 - i * 3 = 1 by omega]; rfl
      · rw [List.getElem?_append_right (by rw [logs_len]; omega), logs_len, show i * 3 + 2 - i * 3 = 2 by omega]; rfl
    · obtain ⟨b, id, t, h1, h2, h3⟩ := rec_logs s0 n i (by omega)
      refine ⟨b, id, t, ?_, ?_, ?_⟩
      · rw [List.getElem?_append_left (by rw [logs_len]; omega)]; exact h1
      · rw [List.getElem?_append_left (by rw [logs_len]; omega)]; exact h2
      · rw [List.getElem?_append_left (by rw [logs_len]; omega)]; exact h3
theorem rec_stops : ∀ n i, i < n → ∃ (b : Bool) (id t : Int), (stops n)[i * 3]? = some (.bool b) ∧ (stops n)[i * 3 + 1]? = some (.int .i64 id) ∧ (stops n)[i * 3 + 2]? = some (.int .i64 t)
  | 0, i, h => by omega
  | n + 1, i, h => by
    simp only [stops]
    by_cases e : i = n
    · subst e
      refine ⟨true, i, 0, ?_, ?_, ?_⟩
      · rw [List.getElem?_append_right (by rw [stops_len]; omega), stops_len, show i * 3 - i * 3 = 0 by omega]; rfl
      · rw [List.getElem?_append_right (by rw [stops_len]; omega), stops_len, show i * 3 + 1 - i * 3 = 1 by omega]; rfl
      · rw [List.getElem?_append_right (by rw [stops_len]; omega), stops_len, show i * 3 + 2 - i * 3 = 2 by omega]; rfl
    · obtain ⟨b, id, t, h1, h2, h3⟩ := rec_stops n i (by omega)
      refine ⟨b, id, t, ?_, ?_, ?_⟩
      · rw [List.getElem?_append_left (by rw [stops_len]; omega)]; exact h1
      · rw [List.getElem?_append_left (by rw [stops_len]; omega)]; exact h2
      · rw [List.getElem?_append_left (by rw [stops_len]; omega)]; exact h3
theorem rec_all (s0 : St) (T k i : Nat) (h : i < T + k) : ∃ (b : Bool) (id t : Int), (logs s0 T ++ stops k)[i * 3]? = some (.bool b) ∧ (logs s0 T ++ stops k)[i * 3 + 1]? = some (.int .i64 id) ∧ (logs s0 T ++ stops k)[i * 3 + 2]? = some (.int .i64 t) := by
  by_cases e : i < T
  · obtain ⟨b, id, t, h1, h2, h3⟩ := rec_logs s0 T i e
    refine ⟨b, id, t, ?_, ?_, ?_⟩
    · rw [List.getElem?_append_left (by rw [logs_len]; omega)]; exact h1
    · rw [List.getElem?_append_left (by rw [logs_len]; omega)]; exact h2
    · rw [List.getElem?_append_left (by rw [logs_len]; omega)]; exact h3
  · obtain ⟨b, id, t, h1, h2, h3⟩ := rec_stops k (i - T) (by omega)
    refine ⟨b, id, t, ?_, ?_, ?_⟩
    · rw [List.getElem?_append_right (by rw [logs_len]; omega), logs_len, show i * 3 - T * 3 = (i - T) * 3 by omega]; exact h1
    · rw [List.getElem?_append_right (by rw [logs_len]; omega), logs_len, show i * 3 + 1 - T * 3 = (i - T) * 3 + 1 by omega]; exact h2
    · rw [List.getElem?_append_right (by rw [logs_len]; omega), logs_len, show i * 3 + 2 - T * 3 = (i - T) * 3 + 2 by omega]; exact h3
/-- The two records at i. -/
theorem L6.recs {M : Mdl} {B nl wb wn k : Nat} {w wr : World} (h : L6 M B nl wb wn k w wr) {la : Option Addr} {lc i : Nat} (hst : Blk wr (B + 1) 37 #[.pointer (some ⟨B, 0, none⟩), .slice la (leftN M.s0 + k) lc, .int .i64 (it M.s0 (leftN M.s0)).nid]) (hi : i < leftN M.s0 + k) : ∃ (g : Nat) (b : Bool) (id t : Int), la = some ⟨g, 0, none⟩ ∧
    wr.cell? ⟨g, i * 3, none⟩ = some (.bool b) ∧ wr.cell? ⟨g, i * 3 + 1, none⟩ = some (.int .i64 id) ∧ wr.cell? ⟨g, i * 3 + 2, none⟩ = some (.int .i64 t) ∧
    wr.cell? ⟨wb, i * 3, none⟩ = some (.bool b) ∧ wr.cell? ⟨wb, i * 3 + 1, none⟩ = some (.int .i64 id) ∧ wr.cell? ⟨wb, i * 3 + 2, none⟩ = some (.int .i64 t) := by
  obtain ⟨b, id, t, h1, h2, h3⟩ := rec_all M.s0 (leftN M.s0) k i hi
  obtain ⟨la', lc', k1, k2⟩ := h.hst
  have e := hst.uniq k1
  have e1 : la = la' := by simp at e; exact e.1
  subst e1
  obtain ⟨ws, w1, w2, w3, w4, w5⟩ := h.hw
  obtain ⟨g, e2, c0⟩ := k2 (i * 3) (by omega)
  obtain ⟨g1, e3, c1⟩ := k2 (i * 3 + 1) (by omega)
  obtain ⟨g2, e4, c2⟩ := k2 (i * 3 + 2) (by omega)
  subst e2
  cases e3
  cases e4
  refine ⟨g, b, id, t, rfl, by rw [c0]; exact h1, by rw [c1]; exact h2, by rw [c2]; exact h3, ?_, ?_, ?_⟩
  · rw [w1.cell, w5.out _ (by omega)]; exact h1
  · rw [w1.cell, w5.out _ (by omega)]; exact h2
  · rw [w1.cell, w5.out _ (by omega)]; exact h3
theorem info42 : (Yba.prog.info? 42).map (fun i => (i.zero, i.size, i.bytes)) = some (some (.agg #[.int .i64 0, .slice none 0 0, .int .i64 0]), 3, 40) := by kernel_rfl
theorem ptr_same (w : World) (g : Nat) : (binOp .neq 40 (.pointer (some ⟨g, 0, none⟩)) (.pointer (some ⟨g, 0, none⟩))).run Yba.prog w = .ok (.bool false) w := by
  obtain ⟨i0, hi, _, _, _⟩ := info_parts info42
  exact Lib.run_neq_ptr_same w ⟨g, 0, none⟩ Yba.underlying40 hi
end Go.Proofs.Ybulkeeeq
