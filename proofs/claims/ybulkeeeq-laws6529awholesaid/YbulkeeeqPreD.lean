import Derived.Test.YbulkeeeqPreC
namespace Go.Proofs.Ybulkeeeq
open Go.RowKit
set_option linter.unusedVariables false

/-- What the run needs, while the model goes. -/
structure Idl (M : Mdl) (X : Cx) (B ib k : Nat) (w wr : World) (Y : Hp) (wk ix : Nat → Nat) : Prop where
  S : Sim X wr Y (.slice (some ⟨ib, 0, none⟩) k k) M.start M.N M.N 0 [] (bagOf M.s0)
  hlog : Y.logv = .slice none 0 0
  hb : Below B w wr
  hsv : Blk wr (B + 2) 34 #[.pointer (some ⟨B + 1, 0, none⟩)]
  hi : ∃ ics, Blk wr ib 57 ics ∧ ics.size = k ∧ ∀ j, j < k → ics[j]? = some (.pointer (some ⟨wk j, 0, none⟩))
  hwk : ∀ j, j < k → ∃ wcs, Blk wr (wk j) 63 wcs ∧ wcs[1]? = some (.func (.func 8) #[] #[.pointer (some ⟨B + 2, 0, none⟩), .pointer (some ⟨ix j, 0, none⟩)])
  hix : ∀ j, j < k → Blk wr (ix j) 3 #[.int .i64 j]
theorem L3.idl {M : Mdl} {X : Cx} {B pb ib k : Nat} {w wr : World} {Y : Hp} {wk ix : Nat → Nat} (h : L3 M X B pb ib k w wr Y k wk ix) : Idl M X B ib k w wr Y wk ix := ⟨h.S, h.hlog, h.hb, h.hsv, h.hi, h.hwk, h.hix⟩
theorem Idl.below {M : Mdl} {X : Cx} {B ib k : Nat} {w wr w' : World} {Y : Hp} {wk ix : Nat → Nat} (h : Idl M X B ib k w wr Y wk ix) (hb : Below wr.heap.size wr w') : Idl M X B ib k w w' Y wk ix := by
  have hB : B ≤ wr.heap.size := by have := h.hsv.lt; omega
  refine ⟨h.S.below hb, h.hlog, h.hb.trans (hb.mono hB), h.hsv.below hb h.hsv.lt, ?_, fun j hj => ?_, fun j hj => (h.hix j hj).below hb (h.hix j hj).lt⟩
  · obtain ⟨ics, q1, q2⟩ := h.hi; exact ⟨ics, q1.below hb q1.lt, q2⟩
  · obtain ⟨wcs, q1, q2⟩ := h.hwk j hj; exact ⟨wcs, q1.below hb q1.lt, q2⟩
theorem Idl.only {M : Mdl} {X : Cx} {B ib k : Nat} {w wr w' : World} {Y : Hp} {wk ix : Nat → Nat} (h : Idl M X B ib k w wr Y wk ix) {g : Nat} {T : TypeId} {cs : Array Value} (ho : Only g wr w') (hg : Blk wr g T cs) (hT : T = 56 ∨ T = 59) (hB : B ≤ g) : Idl M X B ib k w w' Y wk ix := by
  have ne : ∀ {T' : TypeId}, T' ≠ 56 → T' ≠ 59 → T ≠ T' := fun a b => by rcases hT with rfl | rfl; exact Ne.symm a; exact Ne.symm b
  have nb : ∀ {T' : TypeId}, T' ≠ 56 → T' ≠ 59 → ∀ ds, ¬ Blk wr g T' ds := fun a b ds hd => ne a b (hg.ty hd)
  have kp : ∀ {q : Nat} {T' : TypeId} {ds : Array Value}, Blk wr q T' ds → T' ≠ 56 → T' ≠ 59 → Blk w' q T' ds := fun hq a b => ho.blk hq (hq.ne hg (Ne.symm (ne a b)))
  refine ⟨h.S.only ho (hg.ne h.S.hc (ne (by decide) (by decide))) (hg.ne h.S.hst (ne (by decide) (by decide))) (hg.ne h.S.hlb (ne (by decide) (by decide))) (nb (by decide) (by decide)) (nb (by decide) (by decide)) (nb (by decide) (by decide)) (by rw [h.hlog]; simp [Value.ownBlock]), h.hlog, h.hb.trans (ho.below hB), kp h.hsv (by decide) (by decide), ?_, fun j hj => ?_, fun j hj => kp (h.hix j hj) (by decide) (by decide)⟩
  · obtain ⟨ics, q1, q2⟩ := h.hi; exact ⟨ics, kp q1 (by decide) (by decide), q2⟩
  · obtain ⟨wcs, q1, q2⟩ := h.hwk j hj; exact ⟨wcs, kp q1 (by decide) (by decide), q2⟩

/-- The model's round i. -/
structure L4 (M : Mdl) (X : Cx) (B pb wb wn ib k : Nat) (w wr : World) (Y : Hp) (wk ix : Nat → Nat) (i : Nat) : Prop where
  g : Goes M.s0 i
  hp : PRow wr pb (2 * M.N) (it M.s0 i).n (it M.s0 i).f
  hw : WRow wr wb wn i (logs M.s0 i)
  hI : Idl M X B ib k w wr Y wk ix
theorem L4.below {M : Mdl} {X : Cx} {B pb wb wn ib k : Nat} {w wr w' : World} {Y : Hp} {wk ix : Nat → Nat} {i : Nat} (h : L4 M X B pb wb wn ib k w wr Y wk ix i) (hb : Below wr.heap.size wr w') : L4 M X B pb wb wn ib k w w' Y wk ix i :=
  ⟨h.g, h.hp.of_block (hb.block _ h.hp.lt), h.hw.of_block (hb.block _ h.hw.lt), h.hI.below hb⟩
theorem PRow.cells {w : World} {g cap n : Nat} {f : Nat → Ev} (h : PRow w g cap n f) {j : Nat} (hj : j < n) : w.cell? ⟨g, j * 5, none⟩ = some (.int .i64 (f j).t) ∧ w.cell? ⟨g, j * 5 + 1, none⟩ = some (.int .u64 (f j).seq) ∧ w.cell? ⟨g, j * 5 + 2, none⟩ = some (.int .i64 (f j).id) ∧ w.cell? ⟨g, j * 5 + 3, none⟩ = some (.bool (f j).child) ∧ w.cell? ⟨g, j * 5 + 4, none⟩ = some (.int .u8 (f j).d) :=
  ⟨h.cell (r := 0) hj (by omega), h.cell (r := 1) hj (by omega), h.cell (r := 2) hj (by omega), h.cell (r := 3) hj (by omega), h.cell (r := 4) hj (by omega)⟩
def lenV (v : Value) : Nat := match v with | .slice _ n _ => n | _ => 0
/-- Half of a round: the least is taken out and written down. -/
structure L4h (M : Mdl) (X : Cx) (B pb wb wn ib k : Nat) (w wr : World) (Y : Hp) (wk ix : Nat → Nat) (i : Nat) : Prop where
  hp : PRow wr pb (2 * M.N) ((it M.s0 i).n - 1) (del (it M.s0 i).f (least (it M.s0 i)))
  hw : WRow wr wb wn (i + 1) (logs M.s0 (i + 1))
  hI : Idl M X B ib k w wr Y wk ix
theorem L4.bounds {M : Mdl} {X : Cx} {B pb wb wn ib k : Nat} {w wr : World} {Y : Hp} {wk ix : Nat → Nat} {i : Nat} (h : L4 M X B pb wb wn ib k w wr Y wk ix i) (hN : M.N ≤ 1024) : (it M.s0 i).n ≤ M.N ∧ (it M.s0 i).seq ≤ 2048 ∧ (it M.s0 i).nid ≤ 2048 ∧ i ≤ 2 * M.N ∧ (0 < (it M.s0 i).n → i + 1 ≤ 2 * M.N) := by
  have h1 := h.g.nn
  have h2 := h.g.kids
  have h3 := h.g.nid
  have h4 := h.g.left
  have hc := cnt_le (p := fun e => e.child) (h := M.s0.f) (n := M.s0.n)
  have e1 : M.s0.n = M.N := rfl
  have e2 : M.s0.seq = M.N := rfl
  have e3 : M.s0.nid = M.N := rfl
  have hl : leftN M.s0 ≤ 2 * M.N := by unfold leftN; omega
  have hl2 : (it M.s0 i).n ≤ leftN (it M.s0 i) := by unfold leftN; omega
  refine ⟨by omega, by omega, by omega, by omega, fun h0 => by omega⟩
theorem L4h.plain {M : Mdl} {X : Cx} {B pb wb wn ib k : Nat} {w wr : World} {Y : Hp} {wk ix : Nat → Nat} {i : Nat} (h : L4h M X B pb wb wn ib k w wr Y wk ix i) (g : Goes M.s0 i) (hn : 0 < (it M.s0 i).n) (hc : (outE (it M.s0 i)).child = false) : L4 M X B pb wb wn ib k w wr Y wk ix (i + 1) ∧ (it M.s0 (i + 1)).n = (it M.s0 i).n - 1 ∧ (it M.s0 (i + 1)).seq = (it M.s0 i).seq ∧ (it M.s0 (i + 1)).nid = (it M.s0 i).nid := by
  have e : it M.s0 (i + 1) = ⟨del (it M.s0 i).f (least (it M.s0 i)), (it M.s0 i).n - 1, (outE (it M.s0 i)).t, (it M.s0 i).seq, (it M.s0 i).nid⟩ := by
    show stepS (it M.s0 i) = _; unfold stepS; rw [hc]; rfl
  refine ⟨⟨g.step hn, by rw [e]; exact h.hp, h.hw, h.hI⟩, by rw [e], by rw [e], by rw [e]⟩
theorem L4h.child {M : Mdl} {X : Cx} {B pb wb wn ib k : Nat} {w wr w' : World} {Y : Hp} {wk ix : Nat → Nat} {i : Nat} (hp : PRow w' pb (2 * M.N) ((it M.s0 i).n - 1 + 1) (upd (del (it M.s0 i).f (least (it M.s0 i))) ((it M.s0 i).n - 1) (childE (it M.s0 i)))) (hw : WRow w' wb wn (i + 1) (logs M.s0 (i + 1))) (hI : Idl M X B ib k w w' Y wk ix) (g : Goes M.s0 i) (hn : 0 < (it M.s0 i).n) (hc : (outE (it M.s0 i)).child = true) : L4 M X B pb wb wn ib k w w' Y wk ix (i + 1) ∧ (it M.s0 (i + 1)).n = (it M.s0 i).n ∧ (it M.s0 (i + 1)).seq = (it M.s0 i).seq + 1 ∧ (it M.s0 (i + 1)).nid = (it M.s0 i).nid + 1 := by
  have e : it M.s0 (i + 1) = ⟨upd (del (it M.s0 i).f (least (it M.s0 i))) ((it M.s0 i).n - 1) (childE (it M.s0 i)), (it M.s0 i).n, (outE (it M.s0 i)).t, (it M.s0 i).seq + 1, (it M.s0 i).nid + 1⟩ := by
    show stepS (it M.s0 i) = _; unfold stepS; rw [hc]; rfl
  refine ⟨⟨g.step hn, by rw [e]; rw [show (it M.s0 i).n - 1 + 1 = (it M.s0 i).n by omega] at hp; exact hp, hw, hI⟩, by rw [e], by rw [e], by rw [e]⟩
theorem two_boxes (w : World) (xs ys : Array Value) : Blk ((w.alloc (.cells xs 56)).alloc (.cells ys 56)).drew w.heap.size 56 xs ∧ Blk ((w.alloc (.cells xs 56)).alloc (.cells ys 56)).drew (w.heap.size + 1) 56 ys ∧ Below w.heap.size w ((w.alloc (.cells xs 56)).alloc (.cells ys 56)).drew := by
  have h2 := Blk.new (w.alloc (.cells xs 56)) 56 ys
  simp at h2
  exact ⟨(Blk.new w 56 xs).alloc _, h2, below_drewN (((Below.refl _ w).alloc (Nat.le_refl _) _).alloc (by simp) _) 1⟩
theorem news5 {w : World} {x y z u v : Value} : ∀ j a, [x, y, z, u, v][j]? = some a → (w.alloc (.cells #[x, y, z, u, v] 56)).cell? ((⟨w.heap.size, 0, none⟩ : Addr).add j) = some a := by
  intro j a hj
  rw [WideShapes.add_plain, Nat.zero_add, (Blk.new w 56 _).cell]
  simpa using hj
theorem news3b {w : World} {x y z : Value} : ∀ j a, [x, y, z][j]? = some a → (w.alloc (.cells #[x, y, z] 59)).cell? ((⟨w.heap.size, 0, none⟩ : Addr).add j) = some a := by
  intro j a hj
  rw [WideShapes.add_plain, Nat.zero_add, (Blk.new w 59 _).cell]
  simpa using hj
theorem Blk.uniq {w : World} {g : Nat} {T T' : TypeId} {cs cs' : Array Value} (h : Blk w g T cs) (h' : Blk w g T' cs') : cs = cs' := by
  unfold Blk at h h'; rw [h] at h'; simp at h'; exact h'.1
theorem took_out {M : Mdl} {X : Cx} {B pb wb wn ib k : Nat} {w wf w9 : World} {Y : Hp} {wk ix : Nat → Nat} {i n m : Nat} {f : Nat → Ev} (hp : PRow wf pb (2 * M.N) n f) (hI : Idl M X B ib k w wf Y wk ix) {lg : List Value} (hw : WRow wf wb wn i lg) (hB : B ≤ pb) (hm : m < n) {ps cs9 : Array Value} (hps : Blk wf pb 56 ps) (r1 : Blk w9 pb 56 cs9) (r2 : cs9.size = 2 * M.N * 5)
    (r3 : ∀ j, j < (tailP f (m + 1) (n - (m + 1))).length → cs9[m * 5 + j]? = (tailP f (m + 1) (n - (m + 1)))[j]?) (r4 : ∀ j, j < m * 5 → cs9[j]? = ps[j]?) (r5 : Only pb wf.drew w9) {F : Nat} {es : Array Value} (hF : Blk wf F 56 es) (hFp : F ≠ pb) :
    PRow w9 pb (2 * M.N) (n - 1) (del f m) ∧ Blk w9 F 56 es ∧ Idl M X B ib k w w9 Y wk ix ∧ WRow w9 wb wn i lg := by
  obtain ⟨qs, q1, q2, q3, q4⟩ := hp
  obtain rfl := q1.uniq hps
  obtain ⟨ws, v1, v2⟩ := hw
  have hd : Below wf.heap.size wf wf.drew := below_drewN (Below.refl _ wf) 1
  exact ⟨PRow.del r1 r2 q3 hm q4.out r3 r4, r5.blk (hF.below hd hF.lt) hFp, (hI.below hd).only r5 (q1.below hd q1.lt) (Or.inl rfl) hB, ⟨ws, r5.blk (v1.below hd v1.lt) (v1.ne q1 (by decide)), v2⟩⟩
theorem wrote {M : Mdl} {X : Cx} {B pb wb wn ib k : Nat} {w wy wz w5 : World} {Y : Hp} {wk ix : Nat → Nat} {i n : Nat} {f : Nat → Ev} (hp : PRow wy pb (2 * M.N) n f) (hI : Idl M X B ib k w wy Y wk ix) {lg : List Value} (hw : WRow wy wb wn i lg) (hB : B ≤ wb) (hb : Below wy.heap.size wy wz) (ho : Only wb wz w5) {ws cs5 : Array Value} {x y z : Value} (hws : Blk wy wb 59 ws) (h5 : Blk w5 wb 59 cs5) (hs5 : cs5.size = wn * 3) (hroom : i + 1 ≤ wn)
    (h1 : ∀ j, j < [x, y, z].length → cs5[i * 3 + j]? = [x, y, z][j]?) (h2 : ∀ j, j < i * 3 → cs5[j]? = ws[j]?) {F : Nat} {T : TypeId} {es : Array Value} (hF : Blk wy F T es) (hT : T ≠ 59) :
    PRow w5 pb (2 * M.N) n f ∧ Idl M X B ib k w w5 Y wk ix ∧ WRow w5 wb wn (i + 1) (lg ++ [x, y, z]) ∧ Blk w5 F T es := by
  obtain ⟨qs, q1, q2⟩ := hp
  obtain ⟨vs, v1, v2, v3, v4, v5⟩ := hw
  obtain rfl := v1.uniq hws
  have v1z := v1.below hb v1.lt
  have q1z := q1.below hb q1.lt
  have hFz := hF.below hb hF.lt
  exact ⟨⟨qs, ho.blk q1z (q1z.ne v1z (by decide)), q2⟩, (hI.below hb).only ho v1z (Or.inr rfl) hB, WRow.snoc h5 hs5 hroom v4 v5.out (fun j hj => h1 j (by simpa using hj)) h2, ho.blk hFz (hFz.ne v1z hT)⟩
theorem grew {M : Mdl} {X : Cx} {B pb wb wn ib k : Nat} {w wy wz w5 : World} {Y : Hp} {wk ix : Nat → Nat} {i n : Nat} {f : Nat → Ev} (hp : PRow wy pb (2 * M.N) n f) (hI : Idl M X B ib k w wy Y wk ix) {lg : List Value} (hw : WRow wy wb wn i lg) (hB : B ≤ pb) (hb : Below wy.heap.size wy wz) (ho : Only pb wz w5) {ps cs5 : Array Value} {e : Ev} (hps : Blk wy pb 56 ps) (h5 : Blk w5 pb 56 cs5) (hs5 : cs5.size = 2 * M.N * 5) (hroom : n + 1 ≤ 2 * M.N)
    (h1 : ∀ j, j < [Value.int .i64 e.t, .int .u64 e.seq, .int .i64 e.id, .bool e.child, .int .u8 e.d].length → cs5[n * 5 + j]? = [Value.int .i64 e.t, .int .u64 e.seq, .int .i64 e.id, .bool e.child, .int .u8 e.d][j]?) (h2 : ∀ j, j < n * 5 → cs5[j]? = ps[j]?) :
    PRow w5 pb (2 * M.N) (n + 1) (upd f n e) ∧ Idl M X B ib k w w5 Y wk ix ∧ WRow w5 wb wn i lg := by
  obtain ⟨qs, q1, q2, q3, q4⟩ := hp
  obtain rfl := q1.uniq hps
  obtain ⟨vs, v1, v2⟩ := hw
  have v1z := v1.below hb v1.lt
  have q1z := q1.below hb q1.lt
  exact ⟨PRow.snoc h5 hs5 hroom q4.out (fun j hj => h1 j (by simpa using hj)) h2, (hI.below hb).only ho q1z (Or.inl rfl) hB, ⟨vs, ho.blk v1z (v1z.ne q1z (by decide)), v2⟩⟩
end Go.Proofs.Ybulkeeeq
