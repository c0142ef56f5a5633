import Derived.Test.YbulkeeeqUq
import Derived.Test.YbulkeeeqRuns
import Derived.Test.YbulkeeeqBld
import Derived.Test.YbulkeeeqWnt
import Derived.Test.YbulkeeeqEnd
import Derived.Test.YbulkeeeqBid
import Derived.Test.YbulkeeeqEqb
import Derived.Deep.CutRange
import Derived.Deep.AppendLies
import Derived.Deep.RegionHeld3
import Derived.Handy
namespace Go.Proofs.Ybulkeeeq
open Go.RowKit
set_option linter.unusedVariables false

theorem info3 : (Yba.prog.info? 3).map (fun i => (i.zero, i.size, i.bytes)) = some (some (.int .i64 0), 1, 8) := by kernel_rfl
theorem info79w : (Yba.prog.info? 79).map (fun i => (i.zero, i.size, i.bytes)) = some (some (.agg (kidA ByteArray.empty 0 0)), 21, 40) := by kernel_rfl
theorem info74 : (Yba.prog.info? 74).map (fun i => (i.zero, i.size, i.bytes)) = some (some (.slice none 0 0), 1, 24) := by kernel_rfl
/-- 'uniq[p:q]' -/
theorem run_cut66 (w : World) (g M c p q : Nat) (h1 : p ≤ q) (h2 : q ≤ M) (h3 : M ≤ c) (h4 : p < c) : (Instr.slice 66 (.slice (some ⟨g, 0, none⟩) M c) (some (.int .i64 (p : Int))) (some (.int .i64 (q : Int))) none).run Yba.prog w = .ok (.slice (some ⟨g, p, none⟩) (q - p) (c - p)) w := by
  have eu : Yba.prog.underlying 66 = some (.slice (Yba.prog.elem 66)) := by
    have e : Yba.prog.elem 66 = 3 := by kernel_rfl
    rw [e]; exact Yba.underlying66
  rw [run_slice_lh w 66 (some ⟨g, 0, none⟩) M c eu .i64 .i64 (p : Int) (q : Int) (by omega) (by omega) (by omega)]
  have : (sizeOf (Yba.prog.elem 66)).run Yba.prog w = .ok 1 w := by
    have e : Yba.prog.elem 66 = 3 := by kernel_rfl
    rw [e]; exact Yba.sizeOf3 w
  rw [this]
  have hne : ¬ c = p := by omega
  simp [Result.andThen, sliced, WideShapes.add_plain, hne]
theorem made_int (n : Nat) : (madeCells #[Value.int .i64 0] n).size = n := by simp [madeCells]
theorem ERead.below {N : Nat} {en : Nat → Ent} {w w' : World} {a : Option Addr} (h : ERead N en w a) (hb : Below w.heap.size w w') : ERead N en w' a := fun i hi => by
  obtain ⟨b, off, e, hl, c0, c1, c2, c3, c4, c5⟩ := h i hi
  have hc : ∀ o, w'.cell? ⟨b, o, none⟩ = w.cell? ⟨b, o, none⟩ := fun o => hb.cell (by exact hl)
  exact ⟨b, off, e, Nat.lt_of_lt_of_le hl hb.size, by rw [hc]; exact c0, by rw [hc]; exact c1, by rw [hc]; exact c2, by rw [hc]; exact c3, by rw [hc]; exact c4, by rw [hc]; exact c5⟩
theorem str_ne {a b : ByteArray} (h : a ≠ b) : (a.toList == b.toList) = false := by
  rw [beq_eq_false_iff_ne]
  intro e
  apply h
  rw [ByteArray.toList_eq, ByteArray.toList_eq] at e
  cases a with | mk x => cases b with | mk y => congr 1; exact Array.toList_inj.1 e
/-- What every part of the law may lean on: the entries' box; below it nothing has turned. -/
structure Base (N cap : Nat) (a : Option Addr) (w0 w : World) (B : Nat) : Prop where
  box : Blk w B 65 #[.slice a N cap]
  bel : Below B w0 w
theorem Base.step {N cap : Nat} {a : Option Addr} {w0 w w' : World} {B D : Nat} (h : Base N cap a w0 w B) (hb : Below D w w') (hD : B < D) : Base N cap a w0 w' B :=
  ⟨h.box.below hb hD, h.bel.trans (hb.mono (by omega))⟩
theorem Base.rd {N cap : Nat} {a : Option Addr} {en : Nat → Ent} {w0 w : World} {B : Nat} (h : Base N cap a w0 w B) (hr : ERead N en w0 a) (hB : B = w0.heap.size) : ERead N en w a := hr.below (by rw [← hB]; exact h.bel)
theorem Base.c0 {N cap : Nat} {a : Option Addr} {w0 w : World} {B : Nat} (h : Base N cap a w0 w B) : w.cell? ⟨B, 0, none⟩ = some (.slice a N cap) := by rw [h.box.cell]; rfl
theorem made_g (z : Value) (n j : Nat) (h : j < n) : (madeCells #[z] n)[j]? = some z := by simp [madeCells, h, Nat.mod_one]

theorem run_slice79 (k : ByteArray) (hi lo : Nat) (w : World) : (Instr.buildSlice 74 1 #[(0, .agg (kidA k hi lo))]).run Yba.prog w = .ok (.slice (some ⟨w.heap.size, 0, none⟩) 1 1) (w.alloc (.cells (kidA k hi lo) 79)) := by kernel_rfl
theorem step_slice79 {ops : Array Oper} {o : Oper} {a : Act} {w : World} {K : Act → World → Prop} {Q : Exit → Act → World → Prop} {E : Prop} {k : ByteArray} {hi lo : Nat}
    (hg : o.guard = none) (x : Operand) (hop : o.op = Op.buildSlice 74 1 #[(0, x)]) (hx : a.eval x = .agg (kidA k hi lo)) (hK : K (a.put o.dst (.slice (some ⟨w.heap.size, 0, none⟩) 1 1)) (w.alloc (.cells (kidA k hi lo) 79))) :
    if Region.wanted o (yielded ops a.tmps) = true then Oper.wp Yba.prog o a w K Q else E := by
  have hw : Region.wanted o (yielded ops a.tmps) = true := by simp [Region.wanted, hg]
  have h := run_slice79 k hi lo w
  rw [if_pos hw]
  unfold Oper.wp
  simp [execOp, hop, hx, h, Result.andThen]
  exact hK
theorem step_op79 {ops : Array Oper} {o : Oper} {a : Act} {w : World} {K : Act → World → Prop} {Q : Exit → Act → World → Prop} {E : Prop} {k : ByteArray} {iv kv : Array Value}
    (h : ∀ w, (Instr.build 79 #[(0, .string k), (1, .agg iv)]).run Yba.prog w = .ok (.agg kv) w) (hg : o.guard = none) (x y : Operand) (hop : o.op = Op.build 79 #[(0, x), (1, y)]) (hx : a.eval x = .string k) (hy : a.eval y = .agg iv) (hK : K (a.put o.dst (.agg kv)) w) :
    if Region.wanted o (yielded ops a.tmps) = true then Oper.wp Yba.prog o a w K Q else E := by
  have hw : Region.wanted o (yielded ops a.tmps) = true := by simp [Region.wanted, hg]
  rw [if_pos hw]
  unfold Oper.wp
  simp [execOp, hop, hx, hy, h, Result.andThen]
  exact hK

/-- What the trunk of the law owes: one statement a section. -/
structure OwedB where
  g1 : Prop
  g3 : Prop
  g4 : Prop
  g5 : Prop
  g8 : Prop
  g9 : Prop
  g10 : Prop
/-- The sections, proved. -/
structure PayB (o : OwedB) : Type where
  p1 : o.g1
  p3 : o.g3
  p4 : o.g4
  p5 : o.g5
  p8 : o.g8
  p9 : o.g9
  p10 : o.g10
structure TrunkB where
  owed : OwedB
  law : PayB owed → ∀ (N cap : Nat) (a : Option Addr) (en : Nat → Ent) (vb : Nat → Nat → Nat) (sh sl eh el sp st : Nat) (s : ByteArray) (w : World) (hN : N ≤ 65536) (hread : ERead N en w a) (hvals : ∀ i, i < N → Reads w (en i).va (en i).vn (fun j => .int .u8 (vb i j : Nat))) (hvn : ∀ i, i < N → (en i).vn ≤ 9223372036854775807) (hkz : ∀ i, i < N → (en i).key.size ≤ maxLen) (hby : ∀ i, i < N → (en i).hi ≤ 255 ∧ (en i).lo ≤ 255 ∧ (en i).wh ≤ 255 ∧ (en i).ver < 18446744073709551616) (b1 : sh ≤ 255) (b2 : sl ≤ 255) (b3 : eh ≤ 255) (b4 : el ≤ 255) (b5 : sp ≤ 255) (b6 : st ≤ 255),
    Calls Yba.prog 4 #[.slice a N cap, .int .u8 sh, .int .u8 sl, .int .u8 eh, .int .u8 el, .string s, .int .u8 sp, .int .u8 st] w fun e w' => e = .returned (.bool true) ∧ Below w.heap.size w w'
def TrunkB.of (g1 g3 g4 g5 g8 g9 g10 : Prop) (h : PayB ⟨g1, g3, g4, g5, g8, g9, g10⟩ → ∀ (N cap : Nat) (a : Option Addr) (en : Nat → Ent) (vb : Nat → Nat → Nat) (sh sl eh el sp st : Nat) (s : ByteArray) (w : World) (hN : N ≤ 65536) (hread : ERead N en w a) (hvals : ∀ i, i < N → Reads w (en i).va (en i).vn (fun j => .int .u8 (vb i j : Nat))) (hvn : ∀ i, i < N → (en i).vn ≤ 9223372036854775807) (hkz : ∀ i, i < N → (en i).key.size ≤ maxLen) (hby : ∀ i, i < N → (en i).hi ≤ 255 ∧ (en i).lo ≤ 255 ∧ (en i).wh ≤ 255 ∧ (en i).ver < 18446744073709551616) (b1 : sh ≤ 255) (b2 : sl ≤ 255) (b3 : eh ≤ 255) (b4 : el ≤ 255) (b5 : sp ≤ 255) (b6 : st ≤ 255),
    Calls Yba.prog 4 #[.slice a N cap, .int .u8 sh, .int .u8 sl, .int .u8 eh, .int .u8 el, .string s, .int .u8 sp, .int .u8 st] w fun e w' => e = .returned (.bool true) ∧ Below w.heap.size w w') : TrunkB := ⟨⟨g1, g3, g4, g5, g8, g9, g10⟩, h⟩
theorem keepB {p : Prop} (h : p) : p := h

set_option maxHeartbeats 20000000 in
set_option maxRecDepth 1000000 in
/-- The trunk: each section's statement is the goal at its place, with all that stands there ahead of it; out of all of them comes the law. -/
def trunkB : TrunkB := by
  apply TrunkB.of
  · refine keepB ?_
    intro pay N cap a en vb sh sl eh el sp st s w hN hread hvals hvn hkz hby b1 b2 b3 b4 b5 b6
    obtain ⟨i3, hi3, hz3, hs3, hb3⟩ := info_parts info3
    obtain ⟨B, hB⟩ : ∃ x, x = w.heap.size := ⟨_, rfl⟩
    have hbox : Blk (w.alloc (.cells #[.slice a N cap] 65)) B 65 #[.slice a N cap] := by rw [hB]; exact Blk.new w _ _
    have hbel1 : Below B w (w.alloc (.cells #[.slice a N cap] 65)) := by rw [hB]; exact (Below.refl _ w).alloc (Nat.le_refl _) _
    have hvals' : Hid (∀ i, i < N → Reads w (en i).va (en i).vn (fun j => .int .u8 (vb i j : Nat))) := hvals
    have hvn' : Hid (∀ i, i < N → (en i).vn ≤ 9223372036854775807) := hvn
    have hkz' : Hid (∀ i, i < N → (en i).key.size ≤ maxLen) := hkz
    have hby' : Hid (∀ i, i < N → (en i).hi ≤ 255 ∧ (en i).lo ≤ 255 ∧ (en i).wh ≤ 255 ∧ (en i).ver < 18446744073709551616) := hby
    have hread' : Hid (ERead N en w a) := hread
    have hgt : decide ((65536 : Int) < (N : Int)) = false := decide_eq_false (by omega)
    have b8 : i3.bytes * N ≤ 281474976710656 := by rw [hb3]; omega
    have m8 : N ≤ maxLen := by unfold maxLen; omega
    clear hvals hvn hkz hby hread
    go_enter Yba.func4, Yba.ntmps4
    go_upto_region 1 with fail
    obtain ⟨w1, hw1⟩ : ∃ x, x = w.alloc (.cells #[.slice a N cap] 65) := ⟨_, rfl⟩
    have hs1 : w1.heap.size = B + 1 := by rw [hw1, hB]; simp
    rw [← hw1] at hbox hbel1 ⊢
    rw [← hB]
    have hbase1 : Hid (Base N cap a w w1 B) := ⟨hbox, hbel1⟩
    have c0 : w1.cell? ⟨B, 0, none⟩ = some (.slice a N cap) := by rw [hbox.cell]; rfl
    have hB' : Hid (B = w.heap.size) := hB
    have hs1' : Hid (w1.heap.size = B + 1) := hs1
    clear hw1 hB hbox hbel1
    go_upto_block 0 with (at_make; refine wpList_make_blk (P := Yba.prog) _ rfl _ _ 66 rfl 3 i3 _ 1 Yba.underlying66 hi3 hz3 hs3 .i64 .i64 (N : Int) (N : Int) N N rfl rfl rfl rfl (Nat.le_refl _) b8 m8 ?_; intro w2 hb2 hs2 hbel2)
    rw [hs1] at hb2 hs2 hbel2
    (try simp only [hs1])
    have hir : Hid (IRow w2 (B + 1) N (fun _ => 0)) := ⟨_, hb2, by show (madeCells #[_] _).size = _; rw [made_int]; omega, fun j hj => by
      show (madeCells #[_] _)[j]? = _
      rw [made_g _ _ _ (by omega)]; rfl⟩
    have hbase2 : Hid (Base N cap a w w2 B) := hbase1.out.step hbel2 (by omega)
    have hs2' : Hid (w2.heap.size = B + 1 + 1) := hs2
    clear hb2 hs2 hbel2 c0 hs1
    go_cut [18] from 66 to 73 (fun _ wc => IRow wc (B + 1) N (fun i => i) ∧ Base N cap a w wc B ∧ wc.heap.size = B + 1 + 1)
    case first =>
      rename_i zz1 zz2 zz3 zz4 zz5 zz6 zz7
      revert N cap a en vb sh sl eh el sp st s w hN b1 b2 b3 b4 b5 b6 i3 hi3 hz3 hs3 hb3 B hvals' hvn' hkz' hby' hread' hgt b8 m8 zz1 w1 hbase1 hB' hs1' w2 zz2 zz3 hir hbase2 hs2' zz4 zz5 zz6 zz7
      exact pay.p1
    case rest =>
      obtain ⟨hrow, hbs, hsz⟩ := hcut
      have hbs' : Hid (Base N cap a w wc B) := hbs
      have hcmp : CmpAt (B + 1) wc N (cvK (fun i => (en i).key)) (.pointer (some ⟨B, 0, none⟩)) := by
        by_cases h0 : N = 0
        · intro w' _ x y hx; omega
        · refine cmp_at N cap B (B + 1) en a wc hN hbs.box (hbs.rd hread'.out hB'.out) (by omega) (fun x hx => ?_)
          obtain ⟨b, off, e, hl, _⟩ := hread'.out 0 (by omega)
          rw [hx] at e; injection e with e; rw [e]; have := hB'.out; show b ≠ B + 1; omega
      have hsort : Hid (Calls Yba.prog 10 #[.slice (some ⟨B + 1, 0, none⟩) N N, .func (.func 11) #[] #[.pointer (some ⟨B, 0, none⟩)]] wc fun ex w' => ex = .returned (.tuple #[]) ∧ ∃ h, IRow w' (B + 1) N h ∧ Merged (ltOf (cvK (fun i => (en i).key))) (fun i => i) h 0 N ∧ Fr (B + 1) none wc.heap.size wc w') :=
        sortStable_calls (B + 1) N N _ (weakK _) (fun i => i) _ wc wc hrow (Fr.of_below (Below.refl _ _)) hcmp hN (fun j hj => hj)
      have hmf : ∀ (fn : Fn) (first cap : Array Value) (w : World), (Instr.makeFunc fn first cap).run Yba.prog w = .ok (.func fn first cap) w := fun _ _ _ _ => rfl
      clear hrow hbs hcmp hir hbase1 hbase2 hs1' hs2'
      go_upto_region 10 with (go_at_call 10; refine hsort.out.mono ?_; rintro ex w3 ⟨rfl, h, q1, q2, q3⟩)
      obtain ⟨C, hC⟩ : ∃ x, x = w3.heap.size := ⟨_, rfl⟩
      have hCB : B + 1 < C := by rw [hC]; exact q1.lt
      have hbase3 : Hid (Base N cap a w w3 B) := hbs'.out.step (D := B + 1) ⟨q3.os, q3.tape, q3.output, q3.size, fun k hk => q3.block k (by omega) (by omega) (by simp)⟩ (by omega)
      have hrow3 : Hid (IRow w3 (B + 1) N h) := q1
      have hdom : Hid (∀ j, j < N → h j < N) := fun j hj => by
        obtain ⟨j', _, j2, e⟩ := q2.1.2 j (by omega) hj
        rw [e]; exact j2
      have hsrt : Hid (Srt (ltOf (cvK (fun i => (en i).key))) h 0 N) := q2.2
      have hC' : Hid (C = w3.heap.size) := hC
      clear q1 q2 q3 hsort hbs' hsz
      go_upto_block 2 with (at_make; refine wpList_make_blk (P := Yba.prog) _ rfl _ _ 66 rfl 3 i3 _ 1 Yba.underlying66 hi3 hz3 hs3 .i64 .i64 (0 : Int) (N : Int) 0 N rfl rfl rfl rfl (Nat.zero_le _) b8 m8 ?_; intro w4 hb4 hs4 hbel4)
      rw [← hC] at hb4 hs4 hbel4
      rw [← hC]
      have hu0 : Hid (w4.ownsRow C 3 1 (.slice (some ⟨C, 0, none⟩) 0 N) 0 (urow 0 (fun _ => 0))) := ⟨rfl, Or.inr ⟨C, N, _, rfl, Nat.le_refl _, hb4, Nat.zero_le _, m8, by show (madeCells #[_] _).size = _; rw [made_int], rfl⟩⟩
      have hB4 : Hid (Below C w3 w4) := hbel4
      clear hb4 hs4 hbel4 hC
      go_cut [19, 21] from 82 to 111 (fun v19 _ wc => ∃ (M g cp : Nat) (u : Nat → Nat), v19 = .slice (some ⟨g, 0, none⟩) M cp ∧ wc.ownsRow C 3 1 (.slice (some ⟨g, 0, none⟩) M cp) M (urow M u) ∧ Uq N en M u ∧ M ≤ N ∧ Below C w3 wc)
      case first =>
        rename_i zz1 zz2 zz3 zz4 zz5 zz6 zz7
        revert N cap a en vb sh sl eh el sp st s w hN b1 b2 b3 b4 b5 b6 i3 hi3 hz3 hs3 hb3 B hvals' hvn' hkz' hby' hread' hgt b8 m8 zz1 w1 hB' w2 wc u18 u66 u67 u68 u69 u70 u71 u72 u73 hmf w3 h C hCB hbase3 hrow3 hdom hsrt hC' w4 zz2 zz3 hu0 hB4 zz4 zz5 zz6 zz7
        exact pay.p3
      case rest =>
        obtain ⟨M, g, cp, u, rfl, hown, huq, hMN, hbel⟩ := hcut
        obtain ⟨w5, rfl⟩ : ∃ x, x = wc := ⟨_, rfl⟩
        obtain ⟨E, hE⟩ : ∃ x, x = w5.heap.size := ⟨_, rfl⟩
        have hgE : g < E := by rw [hE]; exact (own_cap hown).2.2
        have hMc : M ≤ cp := (own_cap hown).2.1
        have hCE : C ≤ E := by have := hbel.size; rw [← hC'.out, ← hE] at this; exact this
        have hbase5 : Hid (Base N cap a w w5 B) := hbase3.out.step hbel (by omega)
        have hown5 : Hid (w5.ownsRow C 3 1 (.slice (some ⟨g, 0, none⟩) M cp) M (urow M u)) := hown
        have huq5 : Hid (Uq N en M u) := huq
        have hE' : Hid (E = w5.heap.size) := hE
        obtain ⟨l3, hl3⟩ : ∃ x, x = sp % 4 := ⟨_, rfl⟩
        have e4 : (sp : Int) % 4 = (l3 : Int) := by omega
        have e4t : Int.tmod (sp : Int) 4 = (l3 : Int) := by rw [Int.tmod_eq_emod_of_nonneg (by omega)]; exact e4
        have hl3b : l3 ≤ 3 := by omega
        obtain ⟨L, hL⟩ : ∃ x, x = 1 + l3 := ⟨_, rfl⟩
        have eL : 1 + (l3 : Int) = (L : Int) := by omega
        have hL0 : 0 < L := by omega
        have hL4 : L ≤ 4 := by omega
        clear hl3 hL hown huq hbel hE hrow3 hdom hsrt hu0 hB4
        go_upto_block 4 with fail
        go_cut [23, 24, 25, 26, 28] from 116 to 166 (fun v23 _ _ _ _ wd => ∃ (r : Nat) (rb rc : Nat → Nat) (vr : Value), vr = v23 ∧ RunsI wd E L M r (fun i => en (u i)) vr rb rc ∧ Parts L M r ∧ Below E w5 wd)
        case first =>
          go_wp2
          go_loopw [23, 24, 25, 26, 28] (fun v23 v24 _ _ _ wr => ∃ (r p : Nat) (rb rc : Nat → Nat) (vr : Value), vr = v23 ∧ v24 = .int .i64 p ∧ p = r * L ∧ p ≤ M + 4 ∧ RunsI wr E L M r (fun i => en (u i)) vr rb rc ∧ (∀ q, q < r → q * L < M) ∧ Below E w5 wr) (fun _ v24 _ _ _ _ => M + 5 - (intOf v24).toNat)
          case atStart => exact ⟨0, 0, _, _, _, rfl, rfl, by omega, by omega, RunsI.start _ _ _ _ _, fun q h => by omega, Below.refl _ _⟩
          case round =>
            obtain ⟨r, p, rb, rc, vr, rfl, rfl, hpr, hpM, hruns, hq0, hbel⟩ := hrel
            obtain ⟨wo, rfl⟩ : ∃ x, x = wr := ⟨_, rfl⟩
            have hruns' : Hid (RunsI wo E L M r (fun i => en (u i)) vr rb rc) := hruns
            have hpr' : Hid (p = r * L) := hpr
            have hq0' : Hid (∀ q, q < r → q * L < M) := hq0
            have hbel' : Hid (Below E w5 wo) := hbel
            by_cases hlt : p < M
            · have hd : decide (p < M) = true := decide_eq_true hlt
              obtain ⟨pl, hpl⟩ : ∃ x, x = p + L := ⟨_, rfl⟩
              have epl : (p : Int) + (L : Int) = (pl : Int) := by omega
              obtain ⟨q, hq⟩ : ∃ x, x = min pl M := ⟨_, rfl⟩
              have eq1 : min (pl : Int) (M : Int) = (q : Int) := by omega
              have hqM : q ≤ M := by omega
              have hpq : p < q := by omega
              obtain ⟨m, hm⟩ : ∃ x, x = q - p := ⟨_, rfl⟩
              have em : (q : Int) - (p : Int) = (m : Int) := by omega
              have hmr : Hid (m = rlen L M r) := by unfold Hid rlen; rw [← hpr]; omega
              have hm4 : m ≤ 4 := by omega
              have hplb : pl ≤ 65544 := by omega
              obtain ⟨i79, hi79, hz79, hs79, hb79⟩ := info_parts info79w
              obtain ⟨i74, hi74, hz74, hs74, hb74⟩ := info_parts info74
              have b79 : i79.bytes * m ≤ 281474976710656 := by rw [hb79]; omega
              have m79 : m ≤ maxLen := by unfold maxLen; omega
              have hsl : ∀ w, (Instr.slice 66 (.slice (some ⟨g, 0, none⟩) M cp) (some (.int .i64 (p : Int))) (some (.int .i64 (q : Int))) none).run Yba.prog w = .ok (.slice (some ⟨g, p, none⟩) m (cp - p)) w := fun w => by rw [hm]; exact run_cut66 w g M cp p q (by omega) hqM hMc (by omega)
              have hpl' : Hid (pl = p + L) := hpl
              have hpm : Hid (p + m ≤ M) := by unfold Hid; omega
              obtain ⟨F, hF⟩ : ∃ x, x = wo.heap.size := ⟨_, rfl⟩
              have hEF : E ≤ F := by have := hbel.size; rw [← hE'.out, ← hF] at this; exact this
              have hF' : Hid (F = wo.heap.size) := hF
              clear hpr hruns hq0 hbel hpl hq hm
              go_upto_block 6 with (at_make; refine wpList_make_blk (P := Yba.prog) _ rfl _ _ 74 rfl 79 i79 _ 21 Yba.underlying74 hi79 hz79 hs79 .i64 .i64 (0 : Int) (m : Int) 0 m rfl rfl rfl rfl (Nat.zero_le _) b79 m79 ?_; intro w6 hb6 hs6 hbel6)
              rw [← hF] at hb6 hs6 hbel6
              rw [← hF]
              have hr0 : Hid (w6.ownsRow F 79 21 (.slice (some ⟨F, 0, none⟩) 0 m) 0 (kids (fun i => en (u i)) p 0)) := ⟨rfl, Or.inr ⟨F, m, _, rfl, Nat.le_refl _, hb6, Nat.zero_le _, m79, by simp [madeCells], rfl⟩⟩
              have hB6 : Hid (Below F wo w6) := hbel6
              clear hb6 hs6 hbel6 hF
              go_cut [26, 28] from 138 to 162 (fun v26 _ wd => ∃ gr cr : Nat, v26 = .slice (some ⟨gr, 0, none⟩) m cr ∧ wd.ownsRow F 79 21 (.slice (some ⟨gr, 0, none⟩) m cr) m (kids (fun i => en (u i)) p m) ∧ Below F wo wd)
              case first =>
                rename_i zz1 zz2 zz3 zz4 zz5 zz6 zz7 zz8 zz9 zz10 zz11 zz12 zz13 zz14 zz15 zz16
                revert N cap a en vb sh sl eh el sp st s w hN b1 b2 b3 b4 b5 b6 i3 hi3 hz3 hs3 hb3 B hvals' hvn' hkz' hby' hread' hgt b8 m8 zz1 w1 hB' w2 wc u18 u66 u67 u68 u69 u70 u71 u72 u73 hmf w3 h C hCB hbase3 hC' w4 u21 u82 u83 u84 u85 u86 u87 u88 u89 u90 u91 u92 u93 u94 u95 u96 u97 u98 u99 u100 u101 u102 u103 u104 u105 u106 u107 u108 u109 u110 u111 M g cp u hMN w5 E hgE hMc hCE hbase5 hown5 huq5 hE' l3 e4 e4t hl3b L eL hL0 hL4 zz2 zz3 zz4 zz5 zz6 zz7 u25 u26 u28 u116 u117 u118 u119 u120 u121 u122 u123 u124 u125 u126 u127 u128 u129 u130 u131 u132 u133 u134 u135 u136 u137 u138 u139 u140 u141 u142 u143 u144 u145 u146 u147 u148 u149 u150 u151 u152 u153 u154 u155 u156 u157 u158 u159 u160 u161 u162 u163 u164 u165 u166 r p rb rc vr hpM wo hruns' hpr' hq0' hbel' hlt hd pl epl q eq1 hqM hpq m em hmr hm4 hplb i79 hi79 hz79 hs79 hb79 i74 hi74 hz74 hs74 hb74 b79 m79 hsl hpl' hpm F hEF hF' zz8 zz9 zz10 w6 zz11 zz12 hr0 hB6 zz13 zz14 zz15 zz16
                exact pay.p4
              case rest =>
                obtain ⟨gr, cr, rfl, hrow, hbd⟩ := hcut
                obtain ⟨k1, k2, ⟨bc, k3⟩, k4⟩ := krow_of hrow
                have hFd : F ≤ wc.heap.size := by have := hbd.size; rw [← hF'.out] at this; exact this
                have hbE : Below E w5 wc := hbel'.out.trans (hbd.mono hEF)
                have hrc : Hid (RunsI wc E L M r (fun i => en (u i)) vr rb rc) := hruns'.out.below (by rw [← hF'.out]; exact hbd)
                have hrM : r ≤ 65536 := by
                  have h1 := hpr'.out
                  have h2 : r * 1 ≤ r * L := Nat.mul_le_mul_left r hL0
                  omega
                have hbE' : Hid (Below E w5 wc) := hbE
                have k1' : Hid (E ≤ gr) := Nat.le_trans hEF k1
                have k2' : Hid (m ≤ cr) := k2
                have k3' : Hid (Blk wc gr 79 bc) := k3
                have k4' : Hid (KRow wc gr m (fun e => en (u (p + e)))) := k4
                have hEw : E ≤ wc.heap.size := by omega
                clear hrow hbd k1 k2 k3 k4 hbE
                go_upto_region 21 with (at_builtin; refine wpList_append_lies _ rfl _ _ _ rfl E 74 i74 _ 1 24 Yba.underlying73 hi74 hz74 hs74 hb74 rfl (by omega) vr r (RV L M rb rc r) rfl (by exact hrc.out.own.alloc _) ⟨wc.heap.size, 0, none⟩ 1 1 [.slice (some ⟨gr, 0, none⟩) m cr] rfl rfl (World.news_of_block (cs := #[.slice (some ⟨gr, 0, none⟩) m cr]) (t := 74) (fr := (0, 0)) (heap_alloc_new wc _)) (by simp [Value.oneCell']) (by omega) (by unfold maxLen; omega) (by omega) (by simp; omega) (wc.heap.size + 1) (by simp) ?_; intro g' cr' w8 ho8 hgr8 hat8 hlt8)
                have hmore : Hid (RunsI w8 E L M (r + 1) (fun i => en (u i)) (.slice (some ⟨g', 0, none⟩) (r + 1) cr') (updN rb r gr) (updN rc r cr)) := by
                  have hmr2 := hmr.out
                  refine RunsI.more hrc.out (y := wc.alloc (.cells #[.slice (some ⟨gr, 0, none⟩) m cr] 74)) ((Below.refl _ wc).alloc (Nat.le_refl _) _) (b := gr) (c := cr) (by rw [← hmr2]; exact k2'.out) k1'.out ⟨bc, k3'.out.alloc _⟩ ?_ hgr8 (by rw [← hmr2]; exact ho8)
                  rw [← hmr2, ← hpr'.out]
                  exact k4'.out.below ((Below.refl _ wc).alloc (Nat.le_refl _) _) k3'.out.lt
                have hb8 : Hid (Below E w5 w8) := (hbE'.out.alloc hEw _).grown hgr8 (by simp; omega) (fun q e => by
                  rcases hrc.out.own.2 with ⟨rfl, _⟩ | ⟨gg, cc, cur, rfl, hgg, _⟩
                  · simp [Value.ownBlock] at e
                  · simp [Value.ownBlock] at e; subst e; exact hgg)
                have hpn : Hid (pl = (r + 1) * L) := by unfold Hid; rw [hpl'.out, hpr'.out, Nat.add_mul, Nat.one_mul]
                have hqn : Hid (∀ q, q < r + 1 → q * L < M) := fun q hq => by
                  by_cases e : q = r
                  · rw [e, ← hpr'.out]; exact hlt
                  · exact hq0'.out q (by omega)
                clear ho8 hgr8 hat8 hlt8
                go_wp2
                exact ⟨⟨r + 1, pl, _, _, _, rfl, rfl, hpn.out, by have := hpl'.out; omega, hmore.out, hqn.out, hb8.out⟩, by have := hpl'.out; simp [intOf]; omega⟩
            · have hd : decide (p < M) = false := decide_eq_false hlt
              clear hpr hruns hq0 hbel
              go_wp2
              go_meet
              case rel => exact ⟨r, rb, rc, _, rfl, hruns'.out, ⟨hL0, hq0'.out, by rw [← hpr'.out]; omega⟩, hbel'.out⟩
        case rest =>
          obtain ⟨r, rb, rc, vr, rfl, hruns, hparts, hbel⟩ := hcut
          obtain ⟨w9, rfl⟩ : ∃ x, x = wc := ⟨_, rfl⟩
          obtain ⟨G, hG⟩ : ∃ x, x = w9.heap.size := ⟨_, rfl⟩
          have hEG : E ≤ G := by have := hbel.size; rw [← hE'.out, ← hG] at this; exact this
          have hbase9 : Hid (Base N cap a w w9 B) := hbase5.out.step hbel (by omega)
          have hown9 : Hid (w9.ownsRow C 3 1 (.slice (some ⟨g, 0, none⟩) M cp) M (urow M u)) := owns_below hown5.out hbel hgE
          have hruns9 : Hid (RunsI w9 E L M r (fun i => en (u i)) vr rb rc) := hruns
          have hparts9 : Hid (Parts L M r) := hparts
          have hG' : Hid (G = w9.heap.size) := hG
          have hmm := @run_makeMap Yba.prog
          clear hruns hparts hbel hbase5 hown5
          go_upto_block 8 with fail
          rw [← hG]
          obtain ⟨wa, hwa⟩ : ∃ x, x = ((w9.alloc (.map #[] 0)).alloc (.map #[] 0)).alloc (.map #[] 0) := ⟨_, rfl⟩
          have hmi0 : Hid (MI wa G 0 (fun i => en (u i)) (fun _ => none) (fun _ => none) (fun _ => none)) := by
            have h0 := ((MapIs.made w9).alloc (.map #[] 0)).alloc (.map #[] 0)
            have h1 := (MapIs.made (w9.alloc (.map #[] 0))).alloc (.map #[] 0)
            have h2 := MapIs.made ((w9.alloc (.map #[] 0)).alloc (.map #[] 0))
            simp only [World.size_alloc] at h0 h1 h2
            rw [← hwa, ← hG] at h0 h1 h2
            exact MI.start _ _ _ h0 h1 h2
          have hba0 : Hid (Below G w9 wa) := by unfold Hid; rw [hwa, hG]; exact (((Below.refl _ w9).alloc (Nat.le_refl _) _).alloc (by simp) _).alloc (by simp; omega) _
          have hwas : Hid (wa.heap.size = G + 3) := by unfold Hid; rw [hwa, hG]; simp
          rw [← hwa]
          clear hwa hmm hG
          go_cut [33, 34, 35, 36] from 172 to 230 (fun _ _ _ _ wd => ∃ fo fu fc, MI wd G M (fun i => en (u i)) fo fu fc ∧ Below G w9 wd ∧ G + 3 ≤ wd.heap.size)
          case first =>
            rename_i zz1 zz2 zz3 zz4 zz5 zz6 zz7
            revert N cap a en vb sh sl eh el sp st s w hN b1 b2 b3 b4 b5 b6 i3 hi3 hz3 hs3 hb3 B hvals' hvn' hkz' hby' hread' hgt b8 m8 zz1 w1 hB' w2 wc u18 u66 u67 u68 u69 u70 u71 u72 u73 hmf w3 h C hCB hbase3 hC' w4 u21 u82 u83 u84 u85 u86 u87 u88 u89 u90 u91 u92 u93 u94 u95 u96 u97 u98 u99 u100 u101 u102 u103 u104 u105 u106 u107 u108 u109 u110 u111 M g cp u hMN w5 E hgE hMc hCE huq5 hE' l3 e4 e4t hl3b L eL hL0 hL4 u24 u25 u26 u28 u116 u117 u118 u119 u120 u121 u122 u123 u124 u125 u126 u127 u128 u129 u130 u131 u132 u133 u134 u135 u136 u137 u138 u139 u140 u141 u142 u143 u144 u145 u146 u147 u148 u149 u150 u151 u152 u153 u154 u155 u156 u157 u158 u159 u160 u161 u162 u163 u164 u165 u166 r rb rc vr w9 G hEG hbase9 hown9 hruns9 hparts9 hG' zz2 zz3 wa hmi0 hba0 hwas zz4 zz5 zz6 zz7
            exact pay.p5
          case rest =>
            obtain ⟨fo, fu, fc, hmi, hbm, hsm⟩ := hcut
            obtain ⟨wm, rfl⟩ : ∃ x, x = wc := ⟨_, rfl⟩
            have hmi' : Hid (MI wm G M (fun i => en (u i)) fo fu fc) := hmi
            have hbm' : Hid (Below G w9 wm) := hbm
            obtain ⟨nb, hnb⟩ : ∃ x, x = wm.heap.size := ⟨_, rfl⟩
            have hnb' : Hid (nb = wm.heap.size) := hnb
            have hGnb : G + 3 ≤ nb := by rw [hnb]; exact hsm
            obtain ⟨ra, cR, rfl⟩ := hruns9.out.shape
            have hid : Hid (∀ hi lo y, Calls Yba.prog 13 #[.int .u8 ((hi : Nat) : Int), .int .u8 ((lo : Nat) : Int)] y fun ex w' => ex = .returned (.agg (idA hi lo)) ∧ Below y.heap.size y w') := fun hi lo y => bid_calls hi lo y
            clear hmi hbm hnb hsm
            go_upto_region 47 with (first
              | ((with_reducible refine wpList_build87 _ (o := ⟨some 232, _, _, _, _, _⟩) ?_ (.tmp 231) ?_ ra r cR ?_ ?_); (· rfl); (· rfl); (· rfl))
              | ((with_reducible refine wpList_build121 _ (o := ⟨some 236, _, _, _, _, _⟩) ?_ (.tmp 232) (.tmp 233) (.tmp 234) (.tmp 235) ?_ G (G + 1) (G + 1 + 1) ra r cR ?_ ?_ ?_ ?_ ?_); (· rfl); (· rfl); (· rfl); (· rfl); (· rfl); (· rfl))
              | ((with_reducible refine wpList_boxed _ (o := ⟨some 237, _, _, _, _, _⟩) ?_ 121 (.tmp 236) ?_ (nodeA G (G + 1) (G + 1 + 1) (.slice ra r cR)) ?_ ?_); (· rfl); (· rfl); (· rfl); intro wn hwn; rw [← hnb'.out]))
            obtain ⟨wn, hwn⟩ : ∃ x, x = wm.alloc (.cells (nodeA G (G + 1) (G + 1 + 1) (.slice ra r cR)) 121) := ⟨_, rfl⟩
            have hnode0 : Blk wn nb 121 (nodeA G (G + 1) (G + 1 + 1) (.slice ra r cR)) := by rw [hwn, hnb'.out]; exact Blk.new _ _ _
            have hbn0 : Below nb wm wn := by rw [hwn, hnb'.out]; exact (Below.refl _ _).alloc (Nat.le_refl _) _
            have hszn : wn.heap.size = nb + 1 := by rw [hwn, hnb'.out]; simp
            rw [← hwn]
            have hnode0' : Hid (Blk wn nb 121 (nodeA G (G + 1) (G + 1 + 1) (.slice ra r cR))) := hnode0
            have hbn0' : Hid (Below nb wm wn) := hbn0
            have hszn' : Hid (wn.heap.size = nb + 1) := hszn
            clear hwn hnode0 hbn0 hszn
            go_upto_region 48 with (first
              | (go_at_call 13; refine (hid.out _ _ _).mono ?_; rintro ex wb ⟨rfl, hqb⟩)
              | ((with_reducible refine wpList_store76 _ (o := ⟨none, Op.store 76 _ _, _, _, _, _⟩) ?_ (.tmp 38) (.tmp 240) ?_ wb.heap.size sh sl _ ?_ ?_ (Blk.new _ _ _) ?_ ?_); (· rfl); (· rfl); (· rfl); (· rfl); (· rfl); intro wd r1 r2))
            obtain ⟨sB, hsB⟩ : ∃ x, x = wb.heap.size := ⟨_, rfl⟩
            have hbq1 : Below wn.heap.size wn wd := (hqb.alloc hqb.size _).trans (r2.below hqb.size)
            have hsd : wd.heap.size = sB + 1 := by rw [r2.size, hsB]; simp
            have hsn : nb + 1 ≤ sB := by have := hqb.size; rw [hszn'.out] at this; omega
            rw [← hsB] at r1
            rw [← hsB]
            have hS0 : Hid (Blk wd sB 76 (idA sh sl)) := r1
            have hbq1' : Hid (Below (nb + 1) wn wd) := by unfold Hid; rw [← hszn'.out]; exact hbq1
            have hsd' : Hid (wd.heap.size = sB + 1) := hsd
            clear r1 r2 hqb hbq1 hsB hsd
            go_upto_region 49 with (first
              | (go_at_call 13; refine (hid.out _ _ _).mono ?_; rintro ex wf ⟨rfl, hqf⟩)
              | ((with_reducible refine wpList_store76 _ (o := ⟨none, Op.store 76 _ _, _, _, _, _⟩) ?_ (.tmp 39) (.tmp 243) ?_ wf.heap.size eh el _ ?_ ?_ (Blk.new _ _ _) ?_ ?_); (· rfl); (· rfl); (· rfl); (· rfl); (· rfl); intro wh r1 r2))
            obtain ⟨eB, heB⟩ : ∃ x, x = wf.heap.size := ⟨_, rfl⟩
            have hbq2 : Below wd.heap.size wd wh := (hqf.alloc hqf.size _).trans (r2.below hqf.size)
            have hsh : wh.heap.size = eB + 1 := by rw [r2.size, heB]; simp
            have hsn2 : sB + 1 ≤ eB := by have := hqf.size; rw [hsd'.out] at this; omega
            rw [← heB] at r1
            rw [← heB]
            have hE0 : Hid (Blk wh eB 76 (idA eh el)) := r1
            have hS1 : Hid (Blk wh sB 76 (idA sh sl)) := hS0.out.below hbq2 hS0.out.lt
            have hbq2' : Hid (Below (sB + 1) wd wh) := by unfold Hid; rw [← hsd'.out]; exact hbq2
            have hsh' : Hid (wh.heap.size = eB + 1) := hsh
            clear r1 r2 hqf hbq2 heB hsh
            go_upto_region 51 with fail
            obtain ⟨lB, hlB⟩ : ∃ x, x = wh.heap.size := ⟨_, rfl⟩
            obtain ⟨wk, hwk⟩ : ∃ x, x = (wh.alloc (.cells #[.int .i64 (st : Int)] 3)).alloc (.cells #[.slice none 0 0] 122) := ⟨_, rfl⟩
            have hlim0 : Blk wk lB 3 #[.int .i64 (st : Int)] := by rw [hwk, hlB]; exact (Blk.new _ _ _).alloc _
            have hgot0 : Blk wk (lB + 1) 122 #[.slice none 0 0] := by rw [hwk, hlB]; have := Blk.new (wh.alloc (.cells #[.int .i64 (st : Int)] 3)) 122 #[.slice none 0 0]; simp only [World.size_alloc] at this; exact this
            have hbk0 : Below lB wh wk := by rw [hwk, hlB]; exact ((Below.refl _ _).alloc (Nat.le_refl _) _).alloc (by simp) _
            have hszk : wk.heap.size = lB + 2 := by rw [hwk, hlB]; simp
            have hlBe : lB = eB + 1 := by rw [hlB]; exact hsh'.out
            rw [← hwk, ← hlB]
            clear hwk hlB
            have hbnk : Below (nb + 1) wn wk := hbq1'.out.trans ((hbq2'.out.mono (by omega)).trans (hbk0.mono (by omega)))
            have hbmk : Below nb wm wk := hbn0'.out.trans (hbnk.mono (by omega))
            have hnodek : Blk wk nb 121 (nodeA G (G + 1) (G + 1 + 1) (.slice ra r cR)) := hnode0'.out.below hbnk (by omega)
            have hSk : Hid (Blk wk sB 76 (idA sh sl)) := hS1.out.below hbk0 (by omega)
            have hEk : Hid (Blk wk eB 76 (idA eh el)) := hE0.out.below hbk0 (by omega)
            have hM6 : M ≤ 65536 := Nat.le_trans hMN hN
            have hr6 : r ≤ 65536 := by
              by_cases q : r = 0
              · omega
              · have h1 := hparts9.out.each (r - 1) (by omega)
                have h2 : (r - 1) * 1 ≤ (r - 1) * L := Nat.mul_le_mul_left _ hL0
                omega
            obtain ⟨p0, hp0⟩ := p0_exists huq5.out s
            obtain ⟨gR, cR', hgR, hkeys⟩ := keys_of (n0 := nb + 1) hruns9.out (w := wk) (by rw [← hG'.out]; exact hbm'.out.trans (hbmk.mono (by omega))) hnodek (by rw [← hG'.out]; omega) (by omega)
            have hcall : Hid (Calls Yba.prog 14 #[.pointer (some ⟨nb, 0, none⟩), .agg (idA sh sl), .agg (idA eh el), .string s, .func (.func 15) #[] #[.pointer (some ⟨lB + 1, 0, none⟩), .pointer (some ⟨lB, 0, none⟩)]] wk fun ex w' => ex = .returned (.tuple #[]) ∧
                ∃ (v : Value) (gs : List Nat), Blk w' (lB + 1) 122 #[v] ∧ w'.ownsRow wk.heap.size 125 3 v gs.length (recs (fun i => en (u i)) (fun i => vOf (en (u i))) gs) ∧ Fr (lB + 1) none wk.heap.size wk w' ∧
                ((∃ k, p0 + k ≤ M ∧ gs = (List.range' p0 k).filter (fun i => bin (en (u i)).hi (en (u i)).lo sh sl eh el) ∧ gs.length = st ∧ 0 < st) ∨ (gs = (List.range' p0 (M - p0)).filter (fun i => bin (en (u i)).hi (en (u i)).lo sh sl eh el) ∧ (st = 0 ∨ gs.length < st)))) :=
              each_calls nb gR r cR' (nb + 1) L M p0 G (G + 1) (G + 1 + 1) M M M (lB + 1) lB st sh sl eh el fo fu fc (fun i => en (u i)) (fun i => vOf (en (u i))) s _ wk hnodek rfl rfl rfl rfl hkeys
                (held_of hmi'.out (by rw [← hnb'.out]; exact hbmk) (by rw [← hnb'.out]; omega)) (by omega) (by omega) hgR hparts9.out (huq5.out.falls s) hp0 hM6 hr6 hgot0 (by rw [hlim0.cell]; rfl) (by omega) (by omega) (by omega)
                (fun i hi => hkz'.out _ (huq5.out.dom i hi)) (fun i hi => ⟨(hby'.out _ (huq5.out.dom i hi)).1, (hby'.out _ (huq5.out.dom i hi)).2.1⟩) b1 b2 b3 b4
            have hp0' : Hid (Cut (klt (fun i => en (u i)) s) M p0) := hp0
            have hnodek' : Hid (Blk wk nb 121 (nodeA G (G + 1) (G + 1 + 1) (.slice ra r cR))) := hnodek
            have hlim0' : Hid (Blk wk lB 3 #[.int .i64 (st : Int)]) := hlim0
            have hbmk' : Hid (Below nb wm wk) := hbmk
            have hszk' : Hid (wk.heap.size = lB + 2) := hszk
            have hlBe' : Hid (lB = eB + 1) := hlBe
            have hmf : ∀ (fn : Fn) (first cap : Array Value) (w : World), (Instr.makeFunc fn first cap).run Yba.prog w = .ok (.func fn first cap) w := fun _ _ _ _ => rfl
            clear hlim0 hgot0 hbk0 hszk hlBe hbnk hbmk hnodek hp0 hkeys hgR
            go_upto_region 52 with (first
              | ((with_reducible refine wpList_load76 _ (o := ⟨some 247, _, _, _, _, _⟩) ?_ (.tmp 38) ?_ sB sh sl ?_ hSk.out ?_); (· rfl); (· rfl); (· rfl))
              | ((with_reducible refine wpList_load76 _ (o := ⟨some 248, _, _, _, _, _⟩) ?_ (.tmp 39) ?_ eB eh el ?_ hEk.out ?_); (· rfl); (· rfl); (· rfl))
              | (go_at_call 14; refine hcall.out.mono ?_; rintro ex wl ⟨rfl, vg, gs, hgot, hgown, hfr, hgs⟩))
            have hbkl : Below (lB + 1) wk wl := ⟨hfr.os, hfr.tape, hfr.output, hfr.size, fun k hk => hfr.block k (by have := hszk'.out; omega) (by omega) (by simp)⟩
            have hlBe := hlBe'.out
            have hnodel : Blk wl nb 121 (nodeA G (G + 1) (G + 1 + 1) (.slice ra r cR)) := hnodek'.out.below hbkl (by omega)
            have htry : Hid (Calls Yba.prog 16 #[.pointer (some ⟨nb, 24, none⟩)] wl fun e w' => e = .returned (.bool true) ∧ w' = wl.setCell ⟨nb, 24, none⟩ (.int .i32 1)) := tryLock_calls nb 24 wl (hnodel.cell 24) (hnodel.frozen 24)
            obtain ⟨wt, hwt⟩ : ∃ x, x = wl.setCell ⟨nb, 24, none⟩ (.int .i32 1) := ⟨_, rfl⟩
            have hon : Only nb wl wt := by rw [hwt]; exact (Only.refl nb wl).setCell 24 _
            have hbmt : Below nb wm wt := hbmk'.out.trans ((hbkl.mono (by omega)).trans (hon.below (Nat.le_refl _)))
            have hbel10 : Below G w9 wt := hbm'.out.trans (hbmt.mono (by omega))
            have hbase10 : Hid (Base N cap a w wt B) := hbase9.out.step hbel10 (by omega)
            have hown10 : Hid (wt.ownsRow C 3 1 (.slice (some ⟨g, 0, none⟩) M cp) M (urow M u)) := owns_below hown9.out hbel10 (by omega)
            have hruns10 : Hid (RunsI wt E L M r (fun i => en (u i)) (.slice ra r cR) rb rc) := hruns9.out.below (by rw [← hG'.out]; exact hbel10)
            have hmi10 : Hid (MI wt G M (fun i => en (u i)) fo fu fc) := hmi'.out.below (by rw [← hnb'.out]; exact hbmt)
            have hnode10 : Hid (Blk wt nb 121 ((nodeA G (G + 1) (G + 1 + 1) (.slice ra r cR)).setIfInBounds 24 (.int .i32 1))) := by unfold Hid; rw [hwt]; exact hnodel.set 24 _
            have hS10 : Hid (Blk wt sB 76 (idA sh sl)) := hon.blk (hSk.out.below hbkl (by omega)) (by omega)
            have hE10 : Hid (Blk wt eB 76 (idA eh el)) := hon.blk (hEk.out.below hbkl (by omega)) (by omega)
            have hlim10 : Hid (Blk wt lB 3 #[.int .i64 (st : Int)]) := hon.blk (hlim0'.out.below hbkl (by omega)) (by omega)
            have hgot10 : Hid (Blk wt (lB + 1) 122 #[vg]) := hon.blk hgot (by omega)
            have hgown10 : Hid (wt.ownsRow (lB + 2) 125 3 vg gs.length (recs (fun i => en (u i)) (fun i => vOf (en (u i))) gs)) := by
              rw [hszk'.out] at hgown
              exact owns_other hgown (fun k hk => hon.block k (fun e => own_ge hgown (c := nb) (by omega) (by rw [← e]; exact hk.symm)))
            have hgs' : Hid ((∃ k, p0 + k ≤ M ∧ gs = (List.range' p0 k).filter (fun i => bin (en (u i)).hi (en (u i)).lo sh sl eh el) ∧ gs.length = st ∧ 0 < st) ∨ (gs = (List.range' p0 (M - p0)).filter (fun i => bin (en (u i)).hi (en (u i)).lo sh sl eh el) ∧ (st = 0 ∨ gs.length < st))) := hgs
            have hszt : lB + 2 ≤ wt.heap.size := by have h1 := hbkl.size; have h2 := hszk'.out; have h3 := hon.size; omega
            have hbw10 : Hid (Below w.heap.size w wt) := by have := hbase10.out.bel; rw [hB'.out] at this; exact this
            have hwt' : Hid (wt = wl.setCell ⟨nb, 24, none⟩ (.int .i32 1)) := hwt
            clear hlBe hgot hgown hfr hgs hbkl hnodel hon hbmt hbel10 hwt hcall hmf hSk hEk hnodek' hlim0' hbmk' hszk' hbq1' hbq2' hbn0' hnode0' hszn' hsd' hsh' hS0 hE0 hS1 hruns9 hbase9 hown9 hmi' hbm'
            go_upto_block 10 with (go_at_call 16; refine htry.out.mono ?_; rintro ex wy ⟨rfl, hwy⟩; obtain rfl : wt = wy := hwt'.out.trans hwy.symm; clear hwy)
            clear htry hwt'
            obtain ⟨T, hT⟩ : ∃ x, x = wt.heap.size := ⟨_, rfl⟩
            have hT' : Hid (T = wt.heap.size) := hT
            have hTl : lB + 2 ≤ T := by rw [hT]; exact hszt
            have hTG : G ≤ T := by have := hlBe'.out; omega
            clear hT hszt
            go_cut [42, 43, 45, 46, 47, 48] from 259 to 314 (fun v42 v43 _ _ _ _ wd => ∃ (va vb : Value), va = v42 ∧ vb = v43 ∧ WantI wd T (fun i => en (u i)) u gs va vb ∧ Below T wt wd)
            case first =>
              rename_i zz1 zz2 zz3 zz4 zz5 zz6 zz7 zz8
              revert N cap a en vb sh sl eh el sp st s w hN b1 b2 b3 b4 b5 b6 i3 hi3 hz3 hs3 hb3 B hvals' hvn' hkz' hby' hread' hgt b8 m8 zz1 w1 hB' w2 wc u18 u66 u67 u68 u69 u70 u71 u72 u73 hmf w3 h C hCB hbase3 hC' w4 u21 u82 u83 u84 u85 u86 u87 u88 u89 u90 u91 u92 u93 u94 u95 u96 u97 u98 u99 u100 u101 u102 u103 u104 u105 u106 u107 u108 u109 u110 u111 M g cp u hMN w5 E hgE hMc hCE huq5 hE' l3 e4 e4t hl3b L eL hL0 hL4 u24 u25 u26 u28 u116 u117 u118 u119 u120 u121 u122 u123 u124 u125 u126 u127 u128 u129 u130 u131 u132 u133 u134 u135 u136 u137 u138 u139 u140 u141 u142 u143 u144 u145 u146 u147 u148 u149 u150 u151 u152 u153 u154 u155 u156 u157 u158 u159 u160 u161 u162 u163 u164 u165 u166 r rb rc w9 G hEG hparts9 hG' wa hmi0 hba0 hwas u33 u34 u35 u36 u172 u173 u174 u175 u176 u177 u178 u179 u180 u181 u182 u183 u184 u185 u186 u187 u188 u189 u190 u191 u192 u193 u194 u195 u196 u197 u198 u199 u200 u201 u202 u203 u204 u205 u206 u207 u208 u209 u210 u211 u212 u213 u214 u215 u216 u217 u218 u219 u220 u221 u222 u223 u224 u225 u226 u227 u228 u229 u230 fo fu fc wm nb hnb' hGnb ra cR hid zz2 hwn wn wb wd sB hsn wf wh eB hsn2 lB wk hM6 hr6 p0 gR cR' hp0' hlBe' wl vg gs wt hbase10 hown10 hruns10 hmi10 hnode10 hS10 hE10 hlim10 hgot10 hgown10 hgs' hbw10 zz3 zz4 T hT' hTl hTG zz5 zz6 zz7 zz8
              exact pay.p8
            case rest =>
              obtain ⟨va, vb2, rfl, rfl, hwi, hbd⟩ := hcut
              obtain ⟨wz, rfl⟩ : ∃ x, x = wc := ⟨_, rfl⟩
              obtain ⟨aa, ca, rfl⟩ := own_shape hwi.a
              obtain ⟨ab, cb, rfl⟩ := own_shape hwi.b
              obtain ⟨ag, cg, rfl⟩ := own_shape hgown10.out
              obtain ⟨n, hn⟩ : ∃ z, z = gs.length := ⟨_, rfl⟩
              rw [← hn] at hwi hgot10 hgown10 ⊢
              have hTB : B < T := by omega
              have hbdt : Below wt.heap.size wt wz := by rw [← hT'.out]; exact hbd
              have hwi' : Hid (WantI wz T (fun i => en (u i)) u gs (.slice aa n ca) (.slice ab n cb)) := hwi
              have hn' : Hid (n = gs.length) := hn
              have hlBe2 := hlBe'.out
              have hbase11 : Hid (Base N cap a w wz B) := hbase10.out.step hbd hTB
              have hown11 : Hid (wz.ownsRow C 3 1 (.slice (some ⟨g, 0, none⟩) M cp) M (urow M u)) := owns_below hown10.out hbd (by omega)
              have hruns11 : Hid (RunsI wz E L M r (fun i => en (u i)) (.slice ra r cR) rb rc) := hruns10.out.below hbdt
              have hmi11 : Hid (MI wz G M (fun i => en (u i)) fo fu fc) := hmi10.out.below hbdt
              have hnode11 : Hid (Blk wz nb 121 ((nodeA G (G + 1) (G + 1 + 1) (.slice ra r cR)).setIfInBounds 24 (.int .i32 1))) := hnode10.out.below hbd (by omega)
              have hgot11 : Hid (Blk wz (lB + 1) 122 #[.slice ag n cg]) := hgot10.out.below hbd (by omega)
              have hgown11 : Hid (wz.ownsRow (lB + 2) 125 3 (.slice ag n cg) n (recs (fun i => en (u i)) (fun i => vOf (en (u i))) gs)) := owns_other hgown10.out (fun k hk => hbdt.block k (own_lt' hgown10.out k hk))
              have hbw11 : Hid (Below w.heap.size w wz) := hbw10.out.trans (hbd.mono (by rw [← hB'.out]; omega))
              have hnM : n ≤ M := by rw [hn]; exact gs_len hgs'.out
              have cgot : wz.cell? ⟨lB + 1, 0, none⟩ = some (.slice ag n cg) := by rw [hgot11.out.cell]; rfl
              obtain ⟨Z, hZ⟩ : ∃ x, x = wz.heap.size := ⟨_, rfl⟩
              have hZ' : Hid (Z = wz.heap.size) := hZ
              have hTZ : T ≤ Z := by have := hbd.size; rw [← hT'.out, ← hZ] at this; exact this
              clear hlBe2 hwi hbd hbdt hn hZ hbase10 hown10 hruns10 hmi10 hnode10 hgot10 hgown10 hbw10 hS10 hE10 hlim10
              go_upto_block 12 with fail
              clear cgot
              go_cut [49, 50, 51, 52] from 322 to 364 (fun _ _ _ _ wd => Below Z wz wd)
              case first =>
                rename_i zz1 zz2 zz3 zz4 zz5 zz6 zz7 zz8
                revert N cap a en vb sh sl eh el sp st s w hN b1 b2 b3 b4 b5 b6 i3 hi3 hz3 hs3 hb3 B hvals' hvn' hkz' hby' hread' hgt b8 m8 zz1 w1 hB' w2 wc u18 u66 u67 u68 u69 u70 u71 u72 u73 hmf w3 h C hCB hbase3 hC' w4 u21 u82 u83 u84 u85 u86 u87 u88 u89 u90 u91 u92 u93 u94 u95 u96 u97 u98 u99 u100 u101 u102 u103 u104 u105 u106 u107 u108 u109 u110 u111 M g cp u hMN w5 E hgE hMc hCE huq5 hE' l3 e4 e4t hl3b L eL hL0 hL4 u24 u25 u26 u28 u116 u117 u118 u119 u120 u121 u122 u123 u124 u125 u126 u127 u128 u129 u130 u131 u132 u133 u134 u135 u136 u137 u138 u139 u140 u141 u142 u143 u144 u145 u146 u147 u148 u149 u150 u151 u152 u153 u154 u155 u156 u157 u158 u159 u160 u161 u162 u163 u164 u165 u166 r rb rc w9 G hEG hparts9 hG' wa hmi0 hba0 hwas u33 u34 u35 u36 u172 u173 u174 u175 u176 u177 u178 u179 u180 u181 u182 u183 u184 u185 u186 u187 u188 u189 u190 u191 u192 u193 u194 u195 u196 u197 u198 u199 u200 u201 u202 u203 u204 u205 u206 u207 u208 u209 u210 u211 u212 u213 u214 u215 u216 u217 u218 u219 u220 u221 u222 u223 u224 u225 u226 u227 u228 u229 u230 fo fu fc wm nb hnb' hGnb ra cR hid zz2 hwn wn wb wd sB hsn wf wh eB hsn2 lB wk hM6 hr6 p0 gR cR' hp0' hlBe' wl gs wt hgs' T hT' hTl hTG u45 u46 u47 u48 u259 u260 u261 u262 u263 u264 u265 u266 u267 u268 u269 u270 u271 u272 u273 u274 u275 u276 u277 u278 u279 u280 u281 u282 u283 u284 u285 u286 u287 u288 u289 u290 u291 u292 u293 u294 u295 u296 u297 u298 u299 u300 u301 u302 u303 u304 u305 u306 u307 u308 u309 u310 u311 u312 u313 u314 wz aa ca ab cb ag cg n hTB hwi' hn' hbase11 hown11 hruns11 hmi11 hnode11 hgot11 hgown11 hbw11 hnM Z hZ' hTZ zz3 zz4 zz5 zz6 zz7 zz8
                exact pay.p9
              case rest =>
                obtain ⟨wy, rfl⟩ : ∃ x, x = wc := ⟨_, rfl⟩
                obtain ⟨Y, hY⟩ : ∃ x, x = wy.heap.size := ⟨_, rfl⟩
                have hZY : Z ≤ Y := by have := hcut.size; rw [← hZ'.out, ← hY] at this; exact this
                have hbzt : Below wz.heap.size wz wy := by rw [← hZ'.out]; exact hcut
                have hbase12 : Hid (Base N cap a w wy B) := hbase11.out.step hcut (by omega)
                have hown12 : Hid (wy.ownsRow C 3 1 (.slice (some ⟨g, 0, none⟩) M cp) M (urow M u)) := owns_below hown11.out hcut (by omega)
                have hruns12 : Hid (RunsI wy E L M r (fun i => en (u i)) (.slice ra r cR) rb rc) := hruns11.out.below hbzt
                have hmi12 : MI wy G M (fun i => en (u i)) fo fu fc := hmi11.out.below hbzt
                have hnode12 : Blk wy nb 121 ((nodeA G (G + 1) (G + 1 + 1) (.slice ra r cR)).setIfInBounds 24 (.int .i32 1)) := hnode11.out.below hcut (by have := hlBe'.out; omega)
                have hbw12 : Hid (Below w.heap.size w wy) := hbw11.out.trans (hcut.mono (by rw [← hB'.out]; omega))
                have n56 : wy.cell? ⟨nb, 56, none⟩ = some (.map (some G)) := by rw [hnode12.cell, Array.getElem?_setIfInBounds_ne (by omega)]; rfl
                have n57 : wy.cell? ⟨nb, 57, none⟩ = some (.map (some (G + 1))) := by rw [hnode12.cell, Array.getElem?_setIfInBounds_ne (by omega)]; rfl
                have n58 : wy.cell? ⟨nb, 58, none⟩ = some (.map (some (G + 1 + 1))) := by rw [hnode12.cell, Array.getElem?_setIfInBounds_ne (by omega)]; rfl
                have n59 : wy.cell? ⟨nb, 59, none⟩ = some (.slice ra r cR) := by rw [hnode12.cell, Array.getElem?_setIfInBounds_ne (by omega)]; rfl
                obtain ⟨z1, hl1⟩ := hmi12.o.len
                obtain ⟨z2, hl2⟩ := hmi12.u.len
                obtain ⟨z3, hl3x⟩ := hmi12.c.len
                have hY' : Hid (Y = wy.heap.size) := hY
                clear hcut hbzt hY hmi12 hnode12 hbase11 hown11 hruns11 hmi11 hnode11 hgot11 hgown11 hbw11 hwi'
                go_upto_block 14 with fail
                clear n56 n57 n58 n59 hl1 hl2 hl3x
                go_cut [53, 55, 57] from 410 to 440 (fun v53 _ _ wd => v53 = .int .i64 (M : Nat) ∧ Below Y wy wd)
                case first =>
                  rename_i zz1 zz2 zz3 zz4 zz5 zz6 zz7 zz8
                  revert N cap a en vb sh sl eh el sp st s w hN b1 b2 b3 b4 b5 b6 i3 hi3 hz3 hs3 hb3 B hvals' hvn' hkz' hby' hread' hgt b8 m8 zz1 w1 hB' w2 wc u18 u66 u67 u68 u69 u70 u71 u72 u73 hmf w3 h C hCB hbase3 hC' w4 u21 u82 u83 u84 u85 u86 u87 u88 u89 u90 u91 u92 u93 u94 u95 u96 u97 u98 u99 u100 u101 u102 u103 u104 u105 u106 u107 u108 u109 u110 u111 M g cp u hMN w5 E hgE hMc hCE huq5 hE' l3 e4 e4t hl3b L eL hL0 hL4 u24 u25 u26 u28 u116 u117 u118 u119 u120 u121 u122 u123 u124 u125 u126 u127 u128 u129 u130 u131 u132 u133 u134 u135 u136 u137 u138 u139 u140 u141 u142 u143 u144 u145 u146 u147 u148 u149 u150 u151 u152 u153 u154 u155 u156 u157 u158 u159 u160 u161 u162 u163 u164 u165 u166 r rb rc w9 G hEG hparts9 hG' wa hmi0 hba0 hwas u33 u34 u35 u36 u172 u173 u174 u175 u176 u177 u178 u179 u180 u181 u182 u183 u184 u185 u186 u187 u188 u189 u190 u191 u192 u193 u194 u195 u196 u197 u198 u199 u200 u201 u202 u203 u204 u205 u206 u207 u208 u209 u210 u211 u212 u213 u214 u215 u216 u217 u218 u219 u220 u221 u222 u223 u224 u225 u226 u227 u228 u229 u230 fo fu fc wm nb hnb' hGnb ra cR hid zz2 hwn wn wb wd sB hsn wf wh eB hsn2 lB wk hM6 hr6 p0 gR cR' hp0' hlBe' wl gs wt hgs' T hT' hTl hTG u45 u46 u47 u48 u259 u260 u261 u262 u263 u264 u265 u266 u267 u268 u269 u270 u271 u272 u273 u274 u275 u276 u277 u278 u279 u280 u281 u282 u283 u284 u285 u286 u287 u288 u289 u290 u291 u292 u293 u294 u295 u296 u297 u298 u299 u300 u301 u302 u303 u304 u305 u306 u307 u308 u309 u310 u311 u312 u313 u314 wz aa ca ab cb ag cg n hTB hn' hnM Z hZ' hTZ u16 u49 u50 u51 u52 u322 u323 u324 u325 u326 u327 u328 u329 u330 u331 u332 u333 u334 u335 u336 u337 u338 u339 u340 u341 u342 u343 u344 u345 u346 u347 u348 u349 u350 u351 u352 u353 u354 u355 u356 u357 u358 u359 u360 u361 u362 u363 u364 wy Y hZY hbase12 hown12 hruns12 hbw12 z1 z2 z3 hY' zz3 zz4 zz5 zz6 zz7 zz8
                  exact pay.p10
                case rest =>
                  obtain ⟨rfl, hbx⟩ := hcut
                  have hbf : Hid (Below w.heap.size w wc) := hbw12.out.trans (hbx.mono (by rw [← hB'.out]; omega))
                  clear hbx
                  go_wp2
                  go_ret
                  exact ⟨by first | rfl | simp, hbf.out⟩
end Go.Proofs.Ybulkeeeq
