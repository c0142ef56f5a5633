import Derived.Test.YbulkeeawFmtMem
import Derived.Test.YbulkeeawFmtPlain
import Derived.Test.YbulkeeawFmtProg
import Derived.Laws.MathBits
namespace Go.Proofs.YbulkeeawFmt
open Go.RowKit

set_option maxHeartbeats 400000 in
theorem mul_small (x : Nat) (hx : x ≤ 1048576) (w : World) :
    Calls Ybaf.prog 25 #[.int .u64 x, .int .u64 1000] w fun e w' => e = .returned (.tuple #[.int .u64 0, .int .u64 (1000 * x : Nat)]) ∧ w' = w := by
  have a1 : bits .and .u64 (x : Int) 4294967295 = (x : Int) := by rw [and_low32 _ (by omega) (by omega)]; omega
  have a2 : bits .and .u64 1000 4294967295 = 1000 := by rw [and_low32 _ (by omega) (by omega)]; omega
  have a3 : bits .and .u64 0 4294967295 = 0 := by rw [and_low32 _ (by omega) (by omega)]; omega
  have a4 : (x : Int) / 4294967296 = 0 := by omega
  have a5 : (x : Int) * 1000 / 4294967296 = 0 := by omega
  go_enter Ybaf.func25, Ybaf.ntmps25
  go_wp2
  go_ret2
  exact ⟨by go_num, rfl⟩

set_option maxHeartbeats 400000 in
theorem div_small (x d : Nat) (hx : x ≤ 1048576000) (hd : 0 < d) (hd1 : d ≤ 1048576000) (w : World) :
    Calls Ybaf.prog 29 #[.int .u64 0, .int .u64 x, .int .u64 d] w fun e w' => e = .returned (.tuple #[.int .u64 (x / d : Nat), .int .u64 (x % d : Nat)]) ∧ Draws w w' := by
  have hq : (x : Int) / (d : Int) = ((x / d : Nat) : Int) := (Int.natCast_ediv x d).symm
  have hr : (x : Int) % (d : Int) = ((x % d : Nat) : Int) := (Int.natCast_emod x d).symm
  have hq1 : x / d ≤ 1048576000 := Nat.le_trans (Nat.div_le_self x d) hx
  have hr1 : x % d < d := Nat.mod_lt x hd
  generalize x / d = q at *
  generalize x % d = r at *
  go_enter Ybaf.func29, Ybaf.ntmps29
  go_wp2
  go_quiet (fail)
  go_wp2
  go_ret2
  exact ⟨by go_num, (Draws.refl w).drewN _⟩

set_option maxHeartbeats 400000 in
theorem rem_small (x d : Nat) (hx : x ≤ 1048576000) (hd : 0 < d) (hd1 : d ≤ 1048576000) (w : World) :
    Calls Ybaf.prog 26 #[.int .u64 0, .int .u64 x, .int .u64 d] w fun e w' => e = .returned (.int .u64 (x % d : Nat)) ∧ Draws w w' := by
  go_enter Ybaf.func26, Ybaf.ntmps26
  go_wp2_with (go_at_call 29; refine (div_small x d hx hd hd1 _).mono ?_; rintro e w1 ⟨rfl, hdr⟩)
  go_ret
  exact ⟨rfl, hdr⟩

/-- The trace in memory. -/
structure Tr (w : World) (T sp : Nat) (kb : Nat → Nat) (m : Nat) : Prop where
  blk : Blk w T 32 #[.int .i64 (1000 * m : Nat), .int .i64 (P kb m : Nat), .slice (some ⟨sp, 0, none⟩) m m]
  lt : sp < w.heap.size
  s0 : ∀ q, q < m → w.cell? ⟨sp, q * 4, none⟩ = some (.int .i64 (1000 * q : Nat))
  s1 : ∀ q, q < m → w.cell? ⟨sp, q * 4 + 1, none⟩ = some (.int .i64 (1000 * (q + 1) : Nat))
  s2 : ∀ q, q < m → w.cell? ⟨sp, q * 4 + 2, none⟩ = some (.int .i64 (P kb q : Nat))
  s3 : ∀ q, q < m → w.cell? ⟨sp, q * 4 + 3, none⟩ = some (.int .i64 (kb q : Nat))
  m1 : 1 ≤ m
  m2 : m ≤ 65537
  k5 : ∀ q, kb q ≤ 5

theorem Tr.below {w w' : World} {T sp : Nat} {kb : Nat → Nat} {m B : Nat} (h : Tr w T sp kb m) (hb : Below B w w') (h1 : T < B) (h2 : sp < B) : Tr w' T sp kb m :=
  ⟨h.blk.below hb h1, by have := hb.size; have := h.lt; omega, fun q hq => by rw [hb.cell (by exact h2)]; exact h.s0 q hq, fun q hq => by rw [hb.cell (by exact h2)]; exact h.s1 q hq, fun q hq => by rw [hb.cell (by exact h2)]; exact h.s2 q hq, fun q hq => by rw [hb.cell (by exact h2)]; exact h.s3 q hq, h.m1, h.m2, h.k5⟩
theorem Tr.grown {w w' : World} {T sp : Nat} {kb : Nat → Nat} {m : Nat} (h : Tr w T sp kb m) (hb : Below w.heap.size w w') : Tr w' T sp kb m := h.below hb h.blk.lt h.lt

set_option maxHeartbeats 400000 in
theorem clo_end (T sp : Nat) (kb : Nat → Nat) (m i : Nat) (ms : Int) (g2 g3 : Nat) (w : World) (h : Tr w T sp kb m) (hi : i < m) (c2 : w.cell? ⟨g2, 0, none⟩ = some (.pointer (some ⟨T, 0, none⟩))) (c3 : w.cell? ⟨g3, 0, none⟩ = some (.int .i64 ms)) :
    Calls Ybaf.prog 28 #[.int .i64 i, .pointer (some ⟨g2, 0, none⟩), .pointer (some ⟨g3, 0, none⟩)] w fun e w' => e = .returned (.bool (decide (ms < 1000 * (i + 1)))) ∧ Draws w w' := by
  have ct := h.blk.cell 2
  have cs := h.s1 i hi
  have hm := h.m2
  simp at ct
  generalize hv : ((1000 * (i + 1) : Nat) : Int) = v at cs
  have e : (1000 * ((i : Int) + 1)) = v := by omega
  rw [e]
  clear h hv e
  go_enter Ybaf.func28, Ybaf.ntmps28
  go_wp2
  go_quiet (fail)
  go_wp2
  go_ret
  exact ⟨rfl, (Draws.refl w).drewN _⟩

theorem Tr.draws {w w' : World} {T sp : Nat} {kb : Nat → Nat} {m : Nat} (h : Tr w T sp kb m) (hd : Draws w w') : Tr w' T sp kb m := h.grown (hd.below (Below.refl _ w))

set_option maxHeartbeats 400000 in
theorem search_calls (T sp : Nat) (kb : Nat → Nat) (m x : Nat) (g2 g3 : Nat) (w : World) (h : Tr w T sp kb m) (hx : x ≤ m) (c2 : w.cell? ⟨g2, 0, none⟩ = some (.pointer (some ⟨T, 0, none⟩))) (c3 : w.cell? ⟨g3, 0, none⟩ = some (.int .i64 (1000 * x : Nat))) :
    Calls Ybaf.prog 27 #[.int .i64 m, .func (.func 28) #[] #[.pointer (some ⟨g2, 0, none⟩), .pointer (some ⟨g3, 0, none⟩)]] w fun e w' => e = .returned (.int .i64 x) ∧ Draws w w' := by
  have hm := h.m2
  go_enter Ybaf.func27, Ybaf.ntmps27
  go_wp2
  go_loopw [5, 6] (fun vi vj wr => ∃ i j : Nat, vi = .int .i64 i ∧ vj = .int .i64 j ∧ i ≤ x ∧ x ≤ j ∧ j ≤ m ∧ Draws w wr) (fun vi vj _ => (intOf vj).toNat - (intOf vi).toNat)
  case atStart => exact ⟨0, m, rfl, rfl, Nat.zero_le _, hx, Nat.le_refl _, Draws.refl _⟩
  case round =>
    obtain ⟨i, j, rfl, rfl, hix, hxj, hjm, hdr⟩ := hrel
    by_cases hij : i < j
    · obtain ⟨k, hk⟩ : ∃ k, k = (i + j) / 2 := ⟨_, rfl⟩
      have e1 : ((i : Int) + (j : Int)) / 2 = (k : Int) := by omega
      have hki : i ≤ k := by omega
      have hkj : k < j := by omega
      have hkm : k < m := by omega
      have hk' : Hid (k = (i + j) / 2) := hk
      clear hk
      have hcl := fun wr (hd : Draws w wr) => clo_end T sp kb m k (1000 * x : Nat) g2 g3 wr (h.draws hd) hkm (hd.cell c2) (hd.cell c3)
      by_cases hxk : x ≤ k
      · have hdec : decide ((((1000 * x : Nat) : Int)) < 1000 * ((k : Int) + 1)) = true := by simp; omega
        rw [hdec] at hcl
        go_wp2_with (go_at_call 28; refine (hcl _ hdr).mono ?_; rintro e w1 ⟨rfl, hdr1⟩)
        have hdr2 : Draws w w1 := by obtain ⟨a, rfl⟩ := hdr; obtain ⟨b, rfl⟩ := hdr1; exact ⟨a + b, by rw [World.drewN_drewN]⟩
        refine ⟨⟨i, k, rfl, by go_num, hix, hxk, by omega, hdr2⟩, by simp [intOf]; omega⟩
      · have hdec : decide ((((1000 * x : Nat) : Int)) < 1000 * ((k : Int) + 1)) = false := by simp; omega
        rw [hdec] at hcl
        go_wp2_with (go_at_call 28; refine (hcl _ hdr).mono ?_; rintro e w1 ⟨rfl, hdr1⟩)
        have hdr2 : Draws w w1 := by obtain ⟨a, rfl⟩ := hdr; obtain ⟨b, rfl⟩ := hdr1; exact ⟨a + b, by rw [World.drewN_drewN]⟩
        refine ⟨⟨k + 1, j, by go_num, rfl, by omega, hxj, hjm, hdr2⟩, by simp [intOf]; omega⟩
    · have : i = x := by omega
      subst this
      go_wp2
      go_ret
      exact ⟨rfl, hdr⟩

theorem box_cell (w : World) (T : TypeId) (v : Value) : (w.alloc (.cells #[v] T)).cell? ⟨w.heap.size, 0, none⟩ = some v := by
  rw [(Blk.new w T #[v]).cell 0]; rfl
theorem box_cell2 (w : World) (T U : TypeId) (v u : Value) : ((w.alloc (.cells #[v] T)).alloc (.cells #[u] U)).cell? ⟨w.heap.size, 0, none⟩ = some v := by
  rw [((Blk.new w T #[v]).alloc _).cell 0]; rfl
theorem box_cell3 (w : World) (T U : TypeId) (v u : Value) : ((w.alloc (.cells #[v] T)).alloc (.cells #[u] U)).cell? ⟨w.heap.size + 1, 0, none⟩ = some u := by
  have e : w.heap.size + 1 = (w.alloc (.cells #[v] T)).heap.size := by simp
  rw [e]
  exact box_cell _ U u

set_option maxHeartbeats 400000 in
theorem before_end (T sp : Nat) (kb : Nat → Nat) (m : Nat) (w : World) (h : Tr w T sp kb m) :
    Calls Ybaf.prog 24 #[.pointer (some ⟨T, 0, none⟩), .int .i64 (1000 * m : Nat)] w fun e w' => e = .returned (.int .i64 (P kb m : Nat)) ∧ Below w.heap.size w w' := by
  have ct := h.blk.cell 2
  have hm := h.m2
  have hT := h.blk.lt
  simp at ct
  have hb : Below w.heap.size w ((w.alloc (.cells #[.pointer (some ⟨T, 0, none⟩)] 30)).alloc (.cells #[.int .i64 ((1000 * m : Nat) : Int)] 2)) := ((Below.refl _ w).alloc (Nat.le_refl _) _).alloc (by simp) _
  have h2 := h.grown hb
  go_enter Ybaf.func24, Ybaf.ntmps24
  go_wp2_with (go_at_call 27; refine (search_calls T sp kb m m w.heap.size (w.heap.size + 1) _ h2 (Nat.le_refl _) (box_cell2 _ _ _ _ _) (box_cell3 _ _ _ _ _)).mono ?_; rintro e w1 ⟨rfl, hdr⟩; have d2 := hdr.cell (box_cell2 w 30 2 (.pointer (some ⟨T, 0, none⟩)) (.int .i64 ((1000 * m : Nat) : Int))); have d3 := (hdr.blk h2.blk).cell 2; have d4 := (hdr.blk h2.blk).cell 1; simp at d3 d4)
  go_ret
  exact ⟨rfl, hdr.below hb⟩

set_option maxHeartbeats 1000000 in
theorem before_in (T sp : Nat) (kb : Nat → Nat) (m x : Nat) (w : World) (h : Tr w T sp kb m) (hx : x < m) :
    Calls Ybaf.prog 24 #[.pointer (some ⟨T, 0, none⟩), .int .i64 (1000 * x : Nat)] w fun e w' => e = .returned (.int .i64 (P kb x : Nat)) ∧ Below w.heap.size w w' := by
  have ct := h.blk.cell 2
  have hm := h.m2
  have hT := h.blk.lt
  have hP := P_le h.k5 x
  have hk := h.k5 x
  simp at ct
  have hb : Below w.heap.size w ((w.alloc (.cells #[.pointer (some ⟨T, 0, none⟩)] 30)).alloc (.cells #[.int .i64 ((1000 * x : Nat) : Int)] 2)) := ((Below.refl _ w).alloc (Nat.le_refl _) _).alloc (by simp) _
  have h2 := h.grown hb
  have hne : ((x : Int) == (m : Int)) = false := by simp; omega
  go_enter Ybaf.func24, Ybaf.ntmps24
  go_wp2_with (go_at_call 27; refine (search_calls T sp kb m x w.heap.size (w.heap.size + 1) _ h2 (Nat.le_of_lt hx) (box_cell2 _ _ _ _ _) (box_cell3 _ _ _ _ _)).mono ?_; rintro e w1 ⟨rfl, hdr⟩; have d2 := hdr.cell (box_cell2 w 30 2 (.pointer (some ⟨T, 0, none⟩)) (.int .i64 ((1000 * x : Nat) : Int))); have d2' := hdr.cell (box_cell3 w 30 2 (.pointer (some ⟨T, 0, none⟩)) (.int .i64 ((1000 * x : Nat) : Int))); have d3 := (hdr.blk h2.blk).cell 2; have e0 := (h2.draws hdr).s0 x hx; have e1 := (h2.draws hdr).s1 x hx; have e2 := (h2.draws hdr).s2 x hx; have e3 := (h2.draws hdr).s3 x hx; simp at d3; have hlt1 : w.heap.size + 1 < w1.heap.size := lt_of_cell d2')
  go_ret
  exact ⟨rfl, (hdr.below hb).alloc (by omega) _⟩

/-- bitsBefore at a whole second. -/
theorem before_calls (T sp : Nat) (kb : Nat → Nat) (m x : Nat) (w : World) (h : Tr w T sp kb m) (hx : x ≤ m) :
    Calls Ybaf.prog 24 #[.pointer (some ⟨T, 0, none⟩), .int .i64 (1000 * x : Nat)] w fun e w' => e = .returned (.int .i64 (P kb x : Nat)) ∧ Below w.heap.size w w' := by
  rcases Nat.lt_or_ge x m with h1 | h1
  · exact before_in T sp kb m x w h h1
  · obtain rfl : x = m := by omega
    exact before_end T sp kb x w h

end Go.Proofs.YbulkeeawFmt
