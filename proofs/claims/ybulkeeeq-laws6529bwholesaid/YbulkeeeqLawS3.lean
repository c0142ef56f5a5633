import Derived.Test.YbulkeeeqLawT
namespace Go.Proofs.Ybulkeeeq
open Go.RowKit
set_option linter.unusedVariables false

set_option maxHeartbeats 20000000 in
set_option maxRecDepth 1000000 in
theorem sec3 : trunkB.owed.g3 := by
  intro N cap a en vb sh sl eh el sp st s w hN b1 b2 b3 b4 b5 b6 i3 hi3 hz3 hs3 hb3 B hvals' hvn' hkz' hby' hread' hgt b8 m8 _ w1 hB' w2 wc u18 u66 u67 u68 u69 u70 u71 u72 u73 hmf w3 h C hCB hbase3 hrow3 hdom hsrt hC' w4 _ _ hu0 hB4 _ _ _ _
  go_wp2
  go_loopw [19, 21, 82] (fun v19 _ v82 wr => ∃ (p M g cp : Nat) (u : Nat → Nat), v82 = .int .i64 p ∧ p ≤ N ∧ v19 = .slice (some ⟨g, 0, none⟩) M cp ∧ wr.ownsRow C 3 1 (.slice (some ⟨g, 0, none⟩) M cp) M (urow M u) ∧ Uq3 N en h p M u ∧ Below C w3 wr) (fun _ _ v82 _ => N - (intOf v82).toNat)
  case atStart => exact ⟨0, 0, C, N, _, rfl, Nat.zero_le _, rfl, hu0.out, Uq3.start _ _ _ _, hB4.out⟩
  case round =>
    obtain ⟨p, M, g, cp, u, rfl, hpN, rfl, hown, huq, hbel⟩ := hrel
    have hown' : Hid (wr.ownsRow C 3 1 (.slice (some ⟨g, 0, none⟩) M cp) M (urow M u)) := hown
    have huq' : Hid (Uq3 N en h p M u) := huq
    have hbel' : Hid (Below C w3 wr) := hbel
    by_cases hlt : p < N
    · have hd : decide (p < N) = true := decide_eq_true hlt
      obtain ⟨x, hx⟩ : ∃ x, x = h p := ⟨_, rfl⟩
      have hxN : x < N := by rw [hx]; exact hdom.out p hlt
      have cr : wr.cell? ⟨B + 1, p, none⟩ = some (.int .i64 (x : Nat)) := by rw [hx]; exact (hrow3.out.below (by rw [← hC'.out]; exact hbel)).cell hlt
      have hbw := hbase3.out.step hbel (by omega)
      have cb := hbw.c0
      obtain ⟨b, off, ea, _, cx, _⟩ := hbw.rd hread'.out hB'.out x hxN
      rw [ea] at cb
      have hx' : Hid (x = h p) := hx
      have ea2 : Hid (a = some ⟨b, off, none⟩) := ea
      obtain ⟨kx, hkx⟩ : ∃ k, k = (en x).key := ⟨_, rfl⟩
      rw [← hkx] at cx
      have hkx' : Hid (kx = (en x).key) := hkx
      obtain ⟨p1, hp1⟩ : ∃ x, x = p + 1 := ⟨_, rfl⟩
      have ep1 : (p : Int) + 1 = (p1 : Int) := by omega
      have hp1' : Hid (p1 = p + 1) := hp1
      have hcw : C ≤ wr.heap.size := by have := hbel.size; rw [← hC'.out] at this; exact this
      have hMle := huq.le
      have happ : Hid (∀ (w1 : World) (g' cap' : Nat), w1.ownsRow C 3 1 (.slice (some ⟨g', 0, none⟩) (M + 1) cap') (M + 1) (urow M u ++ [.int .i64 (x : Nat)]) → (0 < M → (en (u (M - 1))).key ≠ kx) → w1.ownsRow C 3 1 (.slice (some ⟨g', 0, none⟩) (M + 1) cap') (M + 1) (urow (M + 1) (updN u M x)) ∧ Uq3 N en h (p + 1) (M + 1) (updN u M x)) := fun w1 g' cap' h1 h2 => by
        rw [urow_snoc] at h1
        refine ⟨h1, ?_⟩
        rw [hx]
        exact huq.app (hdom.out p hlt) (fun hp => of_decide_eq_false (hsrt.out (p - 1) p (by omega) (by omega) hlt)) (fun hM => by rw [← hx, ← hkx]; exact h2 hM)
      have hgb : Hid (∀ (wz wy : World), Below C w3 wz → wz.grownBy wy (Value.slice (some ⟨g, 0, none⟩) M cp).ownBlock → Below C w3 wy) := fun wz wy h1 h2 => h1.grown h2 (by have := h1.size; rw [← hC'.out] at this; exact this) (fun k e => by simp [Value.ownBlock] at e; subst e; exact (own_cap hown).1)
      clear hown huq hbel hx hkx hp1 hbw ea
      by_cases hM : M = 0
      · subst hM
        have happ2 : Hid (∀ (w1 : World) (g' cap' : Nat), w1.ownsRow C 3 1 (.slice (some ⟨g', 0, none⟩) (0 + 1) cap') (0 + 1) (urow 0 u ++ [.int .i64 (x : Nat)]) → w1.ownsRow C 3 1 (.slice (some ⟨g', 0, none⟩) (0 + 1) cap') (0 + 1) (urow (0 + 1) (updN u 0 x)) ∧ Uq3 N en h (p + 1) (0 + 1) (updN u 0 x)) := fun w1 g' cap' h1 => happ.out w1 g' cap' h1 (fun h => by omega)
        go_upto_region 14 with fail
        go_quiet (fail)
        generalize hwq : World.drewN wr _ = wq
        have ho1 : Hid (wq.ownsRow C 3 1 (.slice (some ⟨g, 0, none⟩) 0 cp) 0 (urow 0 u)) := by rw [← hwq]; exact hown'.out
        have hbq : Hid (Below C w3 wq) := by rw [← hwq]; exact below_drewN hbel'.out _
        have hCH : C ≤ wq.heap.size := by rw [← hwq]; exact hcw
        clear hwq
        go_upto_region 16 with (at_builtin; go_loud (refine wpList_append_lies _ rfl _ _ _ rfl C 3 i3 _ 1 8 Yba.underlying66 hi3 hz3 hs3 hb3 rfl (by omega) (.slice (some ⟨g, 0, none⟩) 0 cp) 0 (urow 0 u) rfl (by exact ho1.out.alloc _) ⟨wq.heap.size, 0, none⟩ 1 1 [.int .i64 (x : Nat)] rfl rfl (World.news_of_block (cs := #[.int .i64 (x : Nat)]) (t := 3) (fr := (0, 0)) (heap_alloc_new wq _)) (by simp [Value.oneCell']) (by omega) (by unfold maxLen; omega) (by omega) (by simp; omega) (wq.heap.size + 1) (by simp) ?_); intro g' cap' w5 ho5 hgr hat hlt5)
        have hq5 := happ2.out w5 g' cap' ho5
        have hb5 := hgb.out _ w5 (hbq.out.alloc hCH _) hgr
        clear ho5 hgr hat hlt5
        go_wp2
        go_roundw
        case rel => first | exact ⟨p1, 0 + 1, g', cap', _, rfl, by have := hp1'.out; omega, rfl, hq5.1, by rw [hp1'.out]; exact hq5.2, hb5⟩ | ((repeat apply Exists.intro); exact ⟨⟨p1, 0 + 1, g', cap', _, rfl, by have := hp1'.out; omega, rfl, hq5.1, by rw [hp1'.out]; exact hq5.2, hb5⟩, rfl⟩)
        case measure => have := hp1'.out; simp [intOf]; omega
      · obtain ⟨m, hm⟩ : ∃ x, x = M - 1 := ⟨_, rfl⟩
        have em : (M : Int) - 1 = (m : Int) := by omega
        have hmM : m < M := by omega
        have hM0 : decide ((0 : Int) < (M : Int)) = true := decide_eq_true (by omega)
        have hM1 : decide (0 < M) = true := decide_eq_true (by omega)
        obtain ⟨um, hum⟩ : ∃ x, x = u m := ⟨_, rfl⟩
        have cu : wr.cell? ⟨g, m, none⟩ = some (.int .i64 (um : Nat)) := by rw [hum]; exact urow_get hown'.out hmM
        have humN : um < N := by rw [hum]; exact huq'.out.uq.dom m hmM
        obtain ⟨b', off', ea', _, cy, _⟩ := (hbase3.out.step hbel'.out (by omega)).rd hread'.out hB'.out um humN
        rw [ea2.out] at ea'
        injection ea' with ea'
        injection ea' with e1 e2
        subst e1 e2
        obtain ⟨ku, hku⟩ : ∃ k, k = (en um).key := ⟨_, rfl⟩
        rw [← hku] at cy
        have hku' : Hid (ku = (en um).key) := hku
        have hum' : Hid (um = u m) := hum
        have hm' : Hid (m = M - 1) := hm
        clear hku hum hm
        by_cases hkk : ku = kx
        · subst hkk
          have hskip : Hid (Uq3 N en h (p + 1) M u) := huq'.out.skip (by omega) (by rw [← hm'.out, ← hum'.out, ← hku'.out, hkx'.out, hx'.out])
          go_upto_region 14 with fail
          go_quiet (fail)
          go_wp2
          exact ⟨⟨p1, M, g, cp, _, rfl, by have := hp1'.out; omega, rfl, hown'.out, by rw [hp1'.out]; exact hskip.out, below_drewN hbel'.out _⟩, by have := hp1'.out; simp [intOf]; omega⟩
        · have hne : (ku.toList == kx.toList) = false := str_ne hkk
          go_upto_region 14 with fail
          go_quiet (fail)
          generalize hwq : World.drewN wr _ = wq
          have ho1 : Hid (wq.ownsRow C 3 1 (.slice (some ⟨g, 0, none⟩) M cp) M (urow M u)) := by rw [← hwq]; exact hown'.out
          have hbq : Hid (Below C w3 wq) := by rw [← hwq]; exact below_drewN hbel'.out _
          have hCH : C ≤ wq.heap.size := by rw [← hwq]; exact hcw
          clear hwq
          go_upto_region 16 with (at_builtin; go_loud (refine wpList_append_lies _ rfl _ _ _ rfl C 3 i3 _ 1 8 Yba.underlying66 hi3 hz3 hs3 hb3 rfl (by omega) (.slice (some ⟨g, 0, none⟩) M cp) M (urow M u) rfl (by exact ho1.out.alloc _) ⟨wq.heap.size, 0, none⟩ 1 1 [.int .i64 (x : Nat)] rfl rfl (World.news_of_block (cs := #[.int .i64 (x : Nat)]) (t := 3) (fr := (0, 0)) (heap_alloc_new wq _)) (by simp [Value.oneCell']) (by omega) (by unfold maxLen; omega) (by omega) (by simp; omega) (wq.heap.size + 1) (by simp) ?_); intro g' cap' w5 ho5 hgr hat hlt5)
          have hq5 := happ.out w5 g' cap' ho5 (fun _ => by rw [← hm'.out, ← hum'.out, ← hku'.out]; exact hkk)
          have hb5 := hgb.out _ w5 (hbq.out.alloc hCH _) hgr
          clear ho5 hgr hat hlt5
          go_wp2
          go_roundw
          case rel => first | exact ⟨p1, M + 1, g', cap', _, rfl, by have := hp1'.out; omega, rfl, hq5.1, by rw [hp1'.out]; exact hq5.2, hb5⟩ | ((repeat apply Exists.intro); exact ⟨⟨p1, M + 1, g', cap', _, rfl, by have := hp1'.out; omega, rfl, hq5.1, by rw [hp1'.out]; exact hq5.2, hb5⟩, rfl⟩)
          case measure => have := hp1'.out; simp [intOf]; omega
    · have hd : decide (p < N) = false := decide_eq_false hlt
      have hMp := huq.le
      clear hown huq hbel
      go_wp2
      go_meet
      case rel => exact ⟨M, g, cp, u, rfl, hown'.out, huq'.out.uq, by omega, hbel'.out⟩
end Go.Proofs.Ybulkeeeq
