import Derived.Test.YbulkeebyNodes
import Derived.Deep.Cut
namespace Go.Proofs.Ybulkeeby
open Go.RowKit

theorem info9c : (Yba.prog.info? 9).map (fun i => (i.zero, i.size, i.bytes)) = some (some (.string ByteArray.empty), 1, 16) := by kernel_rfl
theorem info3c : (Yba.prog.info? 3).map (fun i => (i.zero, i.size, i.bytes)) = some (some (.int .i64 0), 1, 8) := by kernel_rfl

/-- A slice value whose n elements read f, wherever they lie. -/
def Reads (w : World) (a : Option Addr) (n : Nat) (f : Nat → Value) : Prop := ∀ i, i < n → ∃ b off, a = some ⟨b, off, none⟩ ∧ b < w.heap.size ∧ w.cell? ⟨b, off + i, none⟩ = some (f i)

theorem Reads.below {w w' : World} {a : Option Addr} {n : Nat} {f : Nat → Value} (h : Reads w a n f) (hb : Below w.heap.size w w') : Reads w' a n f := by
  intro i hi
  obtain ⟨b, off, e, hlt, hc⟩ := h i hi
  exact ⟨b, off, e, by have := hb.size; omega, by rw [hb.cell (by exact hlt)]; exact hc⟩

/-- The first k cells of a row of n. -/
def RowTo (cs : Array Value) (n : Nat) (f : Nat → Value) (k : Nat) : Prop := cs.size = n ∧ ∀ j, j < k → cs[j]? = some (f j)

theorem RowTo.step {cs : Array Value} {n k : Nat} {f : Nat → Value} (h : RowTo cs n f k) (hk : k < n) : RowTo (cs.setIfInBounds k (f k)) n f (k + 1) := by
  obtain ⟨h1, h2⟩ := h
  refine ⟨by simpa using h1, fun j hj => ?_⟩
  by_cases e : j = k
  · subst e; rw [Array.getElem?_setIfInBounds_self_of_lt (by omega)]
  · rw [Array.getElem?_setIfInBounds_ne (by omega)]; exact h2 j (by omega)

theorem Reads.of_blk {w : World} {g n : Nat} {T : TypeId} {cs : Array Value} {f : Nat → Value} (hb : Blk w g T cs) (h : RowTo cs n f n) : Reads w (some ⟨g, 0, none⟩) n f := by
  intro i hi
  exact ⟨g, 0, rfl, hb.lt, by rw [Nat.zero_add, hb.cell]; exact h.2 i hi⟩

theorem nodes_fn (r : Nat) (an aw : Option Addr) (n cn m cm : Nat) (lay : Int) (nm : Nat → ByteArray) (wt : Nat → Int) (w : World) (hn : n ≤ 1048576) (hm : m ≤ n)
    (hr0 : w.cell? ⟨r, 0, none⟩ = some (.slice an n cn)) (hr13 : w.cell? ⟨r, 13, none⟩ = some (.slice aw m cm)) (hr12 : w.cell? ⟨r, 12, none⟩ = some (.int .u8 lay)) (hrw : r < w.heap.size)
    (hc : Reads w an n (fun i => .string (nm i))) (hcw : Reads w aw m (fun i => .int .i64 (wt i))) :
    Calls Yba.prog 6 #[.pointer (some ⟨r, 0, none⟩)] w fun e w' => ∃ cs, e = .returned (.slice (some ⟨w.heap.size, 0, none⟩) n n) ∧ Blk w' w.heap.size 26 cs ∧
      NodesAre cs n (fun j => nm (src lay n j)) (fun j => wTo m wt (src lay n j)) ∧ Below w.heap.size w w' := by
  have e : ∀ i, i < n → ((List.range n).map nm).getD i ByteArray.empty = nm i := fun i hi => by simp [hi]
  refine (nodes_walk r an aw n cn m cm lay ((List.range n).map nm) wt w hn hm hr0 hr13 hr12 hrw (fun i hi => by rw [e i hi]; exact hc i hi) hcw).mono ?_
  rintro _ w' ⟨cs, rfl, hb, hns, hbel⟩
  refine ⟨cs, rfl, hb, hns.congr (fun j hj => ?_) (fun _ _ => rfl), hbel⟩
  have : src lay n j < n := by unfold src; split <;> omega
  exact e _ this

/-- Nothing but draws lies between the two worlds. -/
def Draws (w w' : World) : Prop := ∃ n, w' = w.drewN n
theorem Draws.refl (w : World) : Draws w w := ⟨0, rfl⟩
theorem Draws.drewN {w w' : World} (h : Draws w w') (n : Nat) : Draws w (w'.drewN n) := by
  obtain ⟨m, rfl⟩ := h; exact ⟨m + n, by rw [World.drewN_drewN]⟩
theorem Draws.blk {w w' : World} (h : Draws w w') {g : Nat} {T : TypeId} {cs : Array Value} (hb : Blk w g T cs) : Blk w' g T cs := by
  obtain ⟨m, rfl⟩ := h; exact hb
theorem Draws.cell {w w' : World} (h : Draws w w') {a : Addr} {v : Value} (hb : w.cell? a = some v) : w'.cell? a = some v := by
  obtain ⟨m, rfl⟩ := h; exact hb
theorem Draws.below {w w' w0 : World} {B : Nat} (h : Draws w w') (hb : Below B w0 w) : Below B w0 w' := by
  obtain ⟨m, rfl⟩ := h; exact below_drewN hb m

set_option maxRecDepth 100000 in
set_option maxHeartbeats 400000 in
theorem lawC_big (an aw : Option Addr) (n cn l cl : Nat) (lay : Int) (w : World) (hn : 1048576 < n + l) (hm : n ≤ 140737488351232) (hm' : l ≤ 140737488351232) :
    Calls Yba.prog 4 #[.slice an n cn, .slice aw l cl, .int .u8 lay] w fun e w' => e = .returned (.bool true) ∧ Below w.heap.size w w' := by
  go_enter Yba.func4, Yba.ntmps4
  go_wp2
  go_ret
  exact ⟨rfl, Below.refl _ _⟩

set_option maxRecDepth 100000 in
set_option maxHeartbeats 1000000 in
theorem lawC_walk (an aw : Option Addr) (n cn l cl : Nat) (lay : Int) (nm : Nat → ByteArray) (wt : Nat → Int) (w : World) (hnl : n + l ≤ 1048576)
    (hann : Hid (an = none → n = 0)) (hawn : Hid (aw = none → l = 0))
    (hc : Reads w an n (fun i => .string (nm i))) (hcw : Reads w aw l (fun i => .int .i64 (wt i))) :
    Calls Yba.prog 4 #[.slice an n cn, .slice aw l cl, .int .u8 lay] w fun e w' => e = .returned (.bool true) ∧ Below w.heap.size w w' := by
  obtain ⟨i9, hi9, hz90, hz91, hz92⟩ := info_parts info9c
  obtain ⟨i3, hi3, hz30, hz31, hz32⟩ := info_parts info3c
  have n22 := fun (w : World) (a : Option Addr) (n c : Nat) => run_neq_slice_nil_any (P := Yba.prog) w 22 9 a n c 0 0 Yba.underlying22
  have n28 := fun (w : World) (a : Option Addr) (n c : Nat) => run_neq_slice_nil_any (P := Yba.prog) w 28 3 a n c 0 0 Yba.underlying28
  have q22 := fun (w : World) (a : Option Addr) (n c : Nat) => Lib.run_eql_slice_nil (P := Yba.prog) w 22 9 a n c 0 0 Yba.underlying22
  have q23 := fun (w : World) (a : Option Addr) (n c : Nat) => Lib.run_eql_slice_nil (P := Yba.prog) w 23 26 a n c 0 0 Yba.underlying23
  have q28 := fun (w : World) (a : Option Addr) (n c : Nat) => Lib.run_eql_slice_nil (P := Yba.prog) w 28 3 a n c 0 0 Yba.underlying28
  have hd : decide ((1048576 : Int) < (n : Int) + (l : Int)) = false := decide_eq_false (by omega)
  go_enter Yba.func4, Yba.ntmps4
  go_upto_if 27 with fail
  go_cut [7] from 20 (fun v wc => ∃ a c, v = .slice a n c ∧ a.isNone = an.isNone ∧ Reads wc a n (fun i => .string (nm i)) ∧ Below w.heap.size w wc)
  case first =>
    cases an with
    | none =>
      have hn0 : Hid (n = 0) := hann.out rfl
      go_wp2
      go_meet
      case rel => exact ⟨none, 0, by rw [hn0.out], rfl, fun i hi => absurd hi (by have := hn0.out; omega), Below.refl _ _⟩
    | some x =>
      go_wp2_with (at_make; refine wpList_make_blk _ rfl _ _ 22 rfl 9 i9 _ 1 Yba.underlying22 hi9 hz90 hz91 .i64 .i64 n n n n rfl rfl rfl rfl (Nat.le_refl _) (by rw [hz92]; omega) (by unfold maxLen; omega) ?_; intro w1 hb1 hs1 hbel1)
      go_loopw [8] (fun i wr => ∃ k : Nat, k ≤ n ∧ i = .int .i64 k ∧ ∃ cs, Blk wr w.heap.size 9 cs ∧ RowTo cs n (fun i => .string (nm i)) k ∧ Below w.heap.size w wr) (fun i _ => n - (intOf i).toNat)
      case atStart => exact ⟨0, Nat.zero_le _, rfl, _, hb1, ⟨by simp [size_madeCells], fun j hj => absurd hj (by omega)⟩, hbel1⟩
      case round =>
        obtain ⟨k, hk, rfl, cs, hblk, hto, hbel⟩ := hrel
        clear hb1 hs1 hbel1
        by_cases hlt : k < n
        · obtain ⟨b, off, e, hbw, hcell⟩ := hc k hlt
          simp only [Option.some.injEq] at e
          subst e
          have hcx := (hbel.cell (p := ⟨b, off + k, none⟩) hbw).trans hcell
          have hsz := hto.1
          have hf : ∀ j, wr.frozen? ⟨w.heap.size, j, none⟩ = false := hblk.frozen
          have hc0 := (hblk.cell k).trans (Array.getElem?_eq_getElem (by omega))
          go_wp2
          go_roundw
          case rel => exact ⟨k + 1, by omega, by go_num, _, hblk.set _ _, hto.step hlt, hbel.setCell (Nat.le_refl _) _⟩
          case measure => simp [intOf]; omega
        · have hkn : k = n := by omega
          subst hkn
          go_wp2
          go_meet
          case rel => exact ⟨_, _, rfl, rfl, Reads.of_blk hblk hto, hbel⟩
  case rest =>
    obtain ⟨nca, ncc, rfl, hncn, hnc, hbel0⟩ := hcut
    obtain ⟨K, hK⟩ : ∃ K, K = min l n := ⟨_, rfl⟩
    have HK : Hid (K = min l n) := hK
    have hKl : K ≤ l := by omega
    have hKn : K ≤ n := by omega
    clear hK
    go_upto_if 49 with fail
    go_cut [9] from 20 (fun v wd => v = .int .i64 K ∧ wd = wc)
    case first =>
      have hk := HK.out
      by_cases hln : n < l
      · have e : K = n := by omega
        clear hk
        subst e
        go_wp2
        go_meet
        case rel => exact ⟨rfl, rfl⟩
      · have e : K = l := by omega
        clear hk
        subst e
        go_wp2
        go_meet
        case rel => exact ⟨rfl, rfl⟩
    case rest =>
      obtain ⟨rfl, hwc⟩ := hcut
      subst hwc
      go_upto_if 53 with fail
      go_cut [10] from 20 (fun v we => ∃ a c, v = .slice a K c ∧ a.isNone = aw.isNone ∧ Reads we a K (fun i => .int .i64 (wt i)) ∧ Below wc.heap.size wc we)
      case first =>
        cases aw with
        | none =>
          have hn0 : Hid (K = 0) := by have := hawn.out rfl; show K = 0; omega
          go_wp2
          go_meet
          case rel => exact ⟨none, 0, by rw [hn0.out], rfl, fun i hi => absurd hi (by have := hn0.out; omega), Below.refl _ _⟩
        | some x =>
          go_wp2_with (at_make; refine wpList_make_blk _ rfl _ _ 28 rfl 3 i3 _ 1 Yba.underlying28 hi3 hz30 hz31 .i64 .i64 K K K K rfl rfl rfl rfl (Nat.le_refl _) (by rw [hz32]; omega) (by unfold maxLen; omega) ?_; intro w1 hb1 hs1 hbel1)
          go_loopw [11] (fun i wr => ∃ k : Nat, k ≤ K ∧ i = .int .i64 k ∧ ∃ cs, Blk wr wc.heap.size 3 cs ∧ RowTo cs K (fun i => .int .i64 (wt i)) k ∧ Below wc.heap.size wc wr) (fun i _ => K - (intOf i).toNat)
          case atStart => exact ⟨0, Nat.zero_le _, rfl, _, hb1, ⟨by simp [size_madeCells], fun j hj => absurd hj (by omega)⟩, hbel1⟩
          case round =>
            obtain ⟨k, hk, rfl, cs, hblk, hto, hbel⟩ := hrel
            clear hb1 hs1 hbel1
            by_cases hlt : k < K
            · obtain ⟨b, off, e, hbw, hcell⟩ := hcw k (by omega)
              simp only [Option.some.injEq] at e
              subst e
              have hcx := ((hbel0.trans (hbel.mono hbel0.size)).cell (p := ⟨b, off + k, none⟩) hbw).trans hcell
              have hsz := hto.1
              have hf : ∀ j, wr.frozen? ⟨wc.heap.size, j, none⟩ = false := hblk.frozen
              have hc0 := (hblk.cell k).trans (Array.getElem?_eq_getElem (by omega))
              go_wp2
              go_roundw
              case rel => exact ⟨k + 1, by omega, by go_num, _, hblk.set _ _, hto.step hlt, hbel.setCell (Nat.le_refl _) _⟩
              case measure => simp [intOf]; omega
            · have hkn : k = K := by omega
              subst hkn
              go_wp2
              go_meet
              case rel => exact ⟨_, _, rfl, rfl, Reads.of_blk hblk hto, hbel⟩
      case rest =>
        obtain ⟨wca, wcc, rfl, hwcn, hwc, hbel1⟩ := hcut
        go_wp2_with fail
        have hring := Blk.new wc 41 #[Value.slice nca n ncc, Value.slice none 0 0, Value.slice none 0 0, Value.slice none 0 0, Value.int IntKind.u64 0, Value.int IntKind.u32 0, Value.int IntKind.u32 0, Value.slice none 0 0, Value.slice none 0 0, Value.int IntKind.u64 0, Value.int IntKind.u64 0, Value.int IntKind.i64 0, Value.int IntKind.u8 lay, Value.slice wca K wcc, Value.int IntKind.i64 0]
        have hbA : Below wc.heap.size wc (wc.alloc (.cells #[Value.slice nca n ncc, Value.slice none 0 0, Value.slice none 0 0, Value.slice none 0 0, Value.int IntKind.u64 0, Value.int IntKind.u32 0, Value.int IntKind.u32 0, Value.slice none 0 0, Value.slice none 0 0, Value.int IntKind.u64 0, Value.int IntKind.u64 0, Value.int IntKind.i64 0, Value.int IntKind.u8 lay, Value.slice wca K wcc, Value.int IntKind.i64 0] 41)) := (Below.refl _ _).alloc (Nat.le_refl _) _
        refine (nodes_fn wc.heap.size nca wca n ncc K wcc lay nm wt _ (by omega) hKn (by rw [hring.cell]; rfl) (by rw [hring.cell]; rfl) (by rw [hring.cell]; rfl) (by simp) ((hnc.below hbel1).below hbA) (hwc.below hbA)).mono ?_
        rintro e w3 ⟨cs, rfl, hb3, hns, hbel3⟩
        have hsz : (wc.alloc (.cells #[Value.slice nca n ncc, Value.slice none 0 0, Value.slice none 0 0, Value.slice none 0 0, Value.int IntKind.u64 0, Value.int IntKind.u32 0, Value.int IntKind.u32 0, Value.slice none 0 0, Value.slice none 0 0, Value.int IntKind.u64 0, Value.int IntKind.u64 0, Value.int IntKind.i64 0, Value.int IntKind.u8 lay, Value.slice wca K wcc, Value.int IntKind.i64 0] 41)).heap.size = wc.heap.size + 1 := by simp
        have hring3 := hring.below hbel3 (by rw [hsz]; omega)
        have hnc3 := ((hnc.below hbel1).below hbA).below hbel3
        have hwc3 := (hwc.below hbA).below hbel3
        have hbel : Below w.heap.size w w3 := ((hbel0.trans (hbel1.mono hbel0.size)).trans (hbA.mono (by have := hbel0.size; have := hbel1.size; omega))).trans (hbel3.mono (by rw [hsz]; have := hbel0.size; have := hbel1.size; omega))
        rw [hsz] at hb3
        simp only [hsz]
        clear hring hbA hbel3 hnc hwc hsz
        generalize wc.heap.size = G at *
        go_wp2
        go_loopw [15] (fun i wr => ∃ k : Nat, k ≤ n ∧ i = .int .i64 k ∧ Draws w3 wr) (fun i _ => n - (intOf i).toNat)
        case atStart => exact ⟨0, Nat.zero_le _, rfl, Draws.refl _⟩
        case round =>
          obtain ⟨k, hk, rfl, hdr⟩ := hrel
          have hbelr := hdr.below hbel
          have hb3r := hdr.blk hb3
          by_cases hlt : k < n
          · obtain ⟨n1, n2⟩ := hns.2 k hlt
            dsimp only at n1 n2
            by_cases hlay : lay = 2
            · have hl2 : (lay == 2) = true := by simp [hlay]
              have HL : Hid (lay = 2) := hlay
              clear hlay
              have e : src lay n k = n - 1 - k := by simp [src, HL.out]
              rw [e] at n1 n2
              obtain ⟨b, off, rfl, hbw, hcell⟩ := hc (n - 1 - k) (by omega)
              have c0 := (hbelr.cell (p := ⟨b, off + (n - 1 - k), none⟩) hbw).trans hcell
              have c1 := (hb3r.cell (k * 2)).trans n1
              have c2 := (hb3r.cell (k * 2 + 1)).trans n2
              clear e n1 n2
              by_cases hkK : n - 1 - k < K
              · rw [show wTo K wt (n - 1 - k) = wt (n - 1 - k) by simp [wTo, hkK]] at c2
                obtain ⟨b', off', rfl, hbw', hcell'⟩ := hcw (n - 1 - k) (by omega)
                have c3 := (hbelr.cell (p := ⟨b', off' + (n - 1 - k), none⟩) hbw').trans hcell'
                go_wp2
                go_quiet (fail)
                go_wp2
                go_roundw
                case rel => exact ⟨k + 1, by omega, by go_num, hdr.drewN _⟩
                case measure => simp [intOf]; omega
              · rw [show wTo K wt (n - 1 - k) = 1 by simp [wTo, hkK]] at c2
                go_wp2
                go_quiet (fail)
                go_wp2
                go_roundw
                case rel => exact ⟨k + 1, by omega, by go_num, hdr.drewN _⟩
                case measure => simp [intOf]; omega
            · have hl2 : (lay == 2) = false := by simp [hlay]
              have HL : Hid (¬ lay = 2) := hlay
              clear hlay
              have e : src lay n k = k := by simp [src, HL.out]
              rw [e] at n1 n2
              obtain ⟨b, off, rfl, hbw, hcell⟩ := hc k hlt
              have c0 := (hbelr.cell (p := ⟨b, off + k, none⟩) hbw).trans hcell
              have c1 := (hb3r.cell (k * 2)).trans n1
              have c2 := (hb3r.cell (k * 2 + 1)).trans n2
              clear e n1 n2
              by_cases hkK : k < K
              · rw [show wTo K wt k = wt k by simp [wTo, hkK]] at c2
                obtain ⟨b', off', rfl, hbw', hcell'⟩ := hcw k (by omega)
                have c3 := (hbelr.cell (p := ⟨b', off' + k, none⟩) hbw').trans hcell'
                go_wp2
                go_quiet (fail)
                go_wp2
                go_roundw
                case rel => exact ⟨k + 1, by omega, by go_num, hdr.drewN _⟩
                case measure => simp [intOf]; omega
              · rw [show wTo K wt k = 1 by simp [wTo, hkK]] at c2
                go_wp2
                go_quiet (fail)
                go_wp2
                go_roundw
                case rel => exact ⟨k + 1, by omega, by go_num, hdr.drewN _⟩
                case measure => simp [intOf]; omega
          · have r0 := hdr.cell ((hring3.cell 0).trans rfl)
            have r12 := hdr.cell ((hring3.cell 12).trans rfl)
            have r13 := hdr.cell ((hring3.cell 13).trans rfl)
            go_wp2
            go_loopw [18] (fun i wr => ∃ k : Nat, k ≤ n ∧ i = .int .i64 k ∧ Draws w3 wr) (fun i _ => n - (intOf i).toNat)
            case atStart => exact ⟨0, Nat.zero_le _, rfl, hdr⟩
            case round =>
              clear hdr hbelr hb3r r0 r12 r13
              obtain ⟨q, hq, rfl, hdr⟩ := hrel
              have hbelr := hdr.below hbel
              have r0 := hdr.cell ((hring3.cell 0).trans rfl)
              by_cases hlq : q < n
              · obtain ⟨b, off, rfl, hbw, hcell⟩ := hc q hlq
                have c0 := (hbelr.cell (p := ⟨b, off + q, none⟩) hbw).trans hcell
                obtain ⟨b', off', rfl, hbw', hcell'⟩ := hnc3 q hlq
                have c1 := hdr.cell hcell'
                go_wp2
                go_quiet (fail)
                go_wp2
                go_roundw
                case rel => first | exact ⟨q + 1, by omega, by go_num, hdr.drewN _⟩ | ((repeat apply Exists.intro); exact ⟨⟨q + 1, by omega, by go_num, hdr.drewN _⟩, rfl⟩)
                case measure => simp [intOf]; omega
              · go_wp2
                go_loopw [19] (fun i wr => ∃ k : Nat, k ≤ K ∧ i = .int .i64 k ∧ Draws w3 wr) (fun i _ => K - (intOf i).toNat)
                case atStart => exact ⟨0, Nat.zero_le _, rfl, hdr⟩
                case round =>
                  clear hdr hbelr r0
                  obtain ⟨t, ht, rfl, hdr⟩ := hrel
                  have hbelr := hdr.below hbel
                  have r13 := hdr.cell ((hring3.cell 13).trans rfl)
                  by_cases hlt : t < K
                  · obtain ⟨b, off, rfl, hbw, hcell⟩ := hcw t (by omega)
                    have c0 := (hbelr.cell (p := ⟨b, off + t, none⟩) hbw).trans hcell
                    obtain ⟨b', off', rfl, hbw', hcell'⟩ := hwc3 t hlt
                    have c1 := hdr.cell hcell'
                    go_wp2
                    go_quiet (fail)
                    go_wp2
                    go_roundw
                    case rel => first | exact ⟨t + 1, by omega, by go_num, hdr.drewN _⟩ | ((repeat apply Exists.intro); exact ⟨⟨t + 1, by omega, by go_num, hdr.drewN _⟩, rfl⟩)
                    case measure => simp [intOf]; omega
                  · go_wp2
                    go_ret
                    exact ⟨rfl, hbelr⟩

end Go.Proofs.Ybulkeeby
