import Derived.Test.YbulkeeeqInv
import Derived.Test.YbulkeeeqRun
namespace Go.Proofs.Ybulkeeeq
open Go.RowKit
set_option linter.unusedVariables false

theorem newClock_calls (w : World) : Calls Yba.prog 5 #[] w fun ex w' => ex = .returned (.pointer (some ⟨w.heap.size, 0, none⟩)) ∧ w' = w.alloc (.cells #[.int .i64 0, .slice none 0 0, .slice none 0 0, .int .u64 0, .pointer none, .slice none 0 0] 33) := by
  go_enter Yba.func5, Yba.ntmps5
  go_wp2
  go_ret
  exact ⟨rfl, rfl⟩

theorem info40 : (Yba.prog.info? 40).map (fun i => (i.zero, i.size, i.bytes)) = some (some (.pointer none), 1, 8) := by kernel_rfl
theorem info25 : (Yba.prog.info? 25).map (fun i => (i.zero, i.size, i.bytes)) = some (some (.int .i64 0), 1, 8) := by kernel_rfl
theorem info4 : (Yba.prog.info? 4).map (fun i => (i.zero, i.size, i.bytes)) = some (some (.bool false), 1, 1) := by kernel_rfl
theorem info56 : (Yba.prog.info? 56).map (fun i => (i.zero, i.size, i.bytes)) = some (some (.agg #[.int .i64 0, .int .u64 0, .int .i64 0, .bool false, .int .u8 0]), 5, 32) := by kernel_rfl
theorem info57 : (Yba.prog.info? 57).map (fun i => (i.zero, i.size, i.bytes)) = some (some (.pointer none), 1, 8) := by kernel_rfl

/-- The items, as the walk reads them. -/
def IRead (M : Mdl) (w : World) (a : Option Addr) : Prop := ∀ i, i < M.N → ∃ b off, a = some ⟨b, off, none⟩ ∧ b < w.heap.size ∧ w.cell? ⟨b, off + i * 5, none⟩ = some (.int .u8 (M.lane i)) ∧ w.cell? ⟨b, off + i * 5 + 1, none⟩ = some (.int .i64 (M.tm i)) ∧ w.cell? ⟨b, off + i * 5 + 2, none⟩ = some (.int .u8 (M.delta i)) ∧ w.cell? ⟨b, off + i * 5 + 3, none⟩ = some (.bool (M.child i)) ∧ w.cell? ⟨b, off + i * 5 + 4, none⟩ = some (.int .u8 (M.d i))

theorem made_get (z : Value) (n q : Nat) (hq : q < n) : (madeCells #[z] n)[q]? = some z := by
  simp [madeCells, hq, Nat.mod_one]
theorem made_size (z : Value) (n : Nat) : (madeCells #[z] n).size = n := by simp [madeCells]

/-- While the lanes are made. -/
def Pre1 (B N nl : Nat) (start : Int) (w wr : World) (i : Nat) : Prop :=
  Blk wr B 33 #[.int .i64 start, .slice none 0 0, .slice none 0 0, .int .u64 0, .pointer none, .slice none 0 0] ∧ Blk wr (B + 1) 37 #[.pointer (some ⟨B, 0, none⟩), .slice none 0 0, .int .i64 N] ∧ Blk wr (B + 2) 34 #[.pointer (some ⟨B + 1, 0, none⟩)] ∧
  (∃ cs, Blk wr (B + 4) 25 cs ∧ cs.size = nl) ∧ (∃ cs, Blk wr (B + 5) 4 cs ∧ cs.size = nl ∧ ∀ j, j < nl → cs[j]? = some (.bool false)) ∧ (∃ lcs, Blk wr (B + 3) 40 lcs ∧ lcs.size = nl ∧ ∀ j, j < i → lcs[j]? = some (.pointer (some ⟨B + 6 + j, 0, none⟩))) ∧
  (∀ j, j < i → Blk wr (B + 6 + j) 42 #[.int .i64 (j + 1 : Nat), .slice none 0 0, .int .i64 0]) ∧ wr.heap.size = B + 6 + i ∧ Below B w wr
theorem Pre1.step {B N nl i : Nat} {start : Int} {w wr : World} (h : Pre1 B N nl start w wr i) (hi : i < nl) : Pre1 B N nl start w ((wr.setCell ⟨B + 3, i, none⟩ (.pointer (some ⟨wr.heap.size, 0, none⟩))).alloc (.cells #[.int .i64 (i + 1 : Nat), .slice none 0 0, .int .i64 0] 42)) (i + 1) := by
  obtain ⟨h1, h2, h3, ⟨c4, h4, h4s⟩, ⟨c5, h5, h5s, h5c⟩, ⟨c6, h6, h6s, h6c⟩, h7, h8, h9⟩ := h
  have hsz : (wr.setCell ⟨B + 3, i, none⟩ (.pointer (some ⟨wr.heap.size, 0, none⟩))).heap.size = wr.heap.size := by simp [World.setCell]
  have step : ∀ {g : Nat} {T : TypeId} {cs : Array Value}, Blk wr g T cs → g ≠ B + 3 → Blk ((wr.setCell ⟨B + 3, i, none⟩ (.pointer (some ⟨wr.heap.size, 0, none⟩))).alloc (.cells #[.int .i64 (i + 1 : Nat), .slice none 0 0, .int .i64 0] 42)) g T cs := fun hb hne => (hb.setOther _ _ hne).alloc _
  refine ⟨step h1 (by omega), step h2 (by omega), step h3 (by omega), ⟨c4, step h4 (by omega), h4s⟩, ⟨c5, step h5 (by omega), h5s, h5c⟩, ⟨_, (h6.set i _).alloc _, by simpa using h6s, fun j hj => ?_⟩, fun j hj => ?_, by simp [World.setCell]; omega, (h9.setCell (by show B ≤ B + 3; omega) _).alloc (by rw [hsz]; omega) _⟩
  · by_cases e : j = i
    · subst e; rw [Array.getElem?_setIfInBounds_self_of_lt (by omega), h8]
    · rw [Array.getElem?_setIfInBounds_ne (Ne.symm e)]; exact h6c j (by omega)
  · by_cases e : j = i
    · subst e
      have := Blk.new (wr.setCell ⟨B + 3, j, none⟩ (.pointer (some ⟨wr.heap.size, 0, none⟩))) 42 #[.int .i64 (j + 1 : Nat), .slice none 0 0, .int .i64 0]
      rw [hsz, h8] at this
      rw [h8]
      exact this
    · exact step (h7 j (by omega)) (by omega)

def mkX (B nl : Nat) (lcs : Array Value) : Cx := { base := B + 6 + nl + 1, c := B, st := B + 1, lb := B + 3, nl := nl, cpl := nl, lcs := lcs, l := fun j => B + 6 + j, dly := fun j => (j + 1 : Nat) }
def mkY : Hp := { v := .slice none 0 0, h := fun _ => ⟨0, 0, 0, false, 0⟩, n := 0, lv := fun _ => .slice none 0 0, q := fun _ _ => ⟨0, 0, 0, false, 0⟩, m := fun _ => 0, logv := .slice none 0 0, wf := fun _ => .iface 46 (.pointer (some ⟨0, 0, none⟩)) }

/-- What stands in the items' loop. -/
def L2 (M : Mdl) (X : Cx) (B pb : Nat) (w wr : World) (i : Nat) (Y : Hp) : Prop := Inv2 M X (B + 4) (B + 5) wr i Y ∧ PRow wr pb (2 * M.N) i M.ev ∧ Below B w wr ∧ Blk wr (B + 2) 34 #[.pointer (some ⟨B + 1, 0, none⟩)]

theorem lcnt_nil {p : Ev → Bool} {q : Nat → Nat → Ev} : ∀ i, lcnt p q (fun _ => 0) i = 0
  | 0 => rfl
  | i + 1 => by simp only [lcnt]; rw [lcnt_nil i]; rfl

theorem start_L2 (M : Mdl) {B : Nat} {w wc w2 : World} (h : Pre1 B M.N M.nl M.start w wc M.nl) (hnl : M.nl ≤ 3) (hb : Below wc.heap.size (wc.setCell ⟨B, 2, none⟩ (.slice (some ⟨B + 3, 0, none⟩) M.nl M.nl)) w2) (hs : w2.heap.size = wc.heap.size + 1) {cs : Array Value} (hcs : Blk w2 wc.heap.size 56 cs) (hcz : cs.size = 2 * M.N * 5) :
    ∃ lcs, (mkX B M.nl lcs).Ok ∧ L2 M (mkX B M.nl lcs) B (B + 6 + M.nl) w w2 0 mkY := by
  obtain ⟨h1, h2, h3, ⟨c4, h4, h4s⟩, ⟨c5, h5, h5s, h5c⟩, ⟨c6, h6, h6s, h6c⟩, h7, h8, h9⟩ := h
  have hz : (wc.setCell ⟨B, 2, none⟩ (.slice (some ⟨B + 3, 0, none⟩) M.nl M.nl)).heap.size = wc.heap.size := by simp [World.setCell]
  have st : ∀ {g : Nat} {T : TypeId} {ds : Array Value}, Blk wc g T ds → g ≠ B → Blk w2 g T ds := fun hq hne => (hq.setOther ⟨B, 2, none⟩ _ hne).below hb hq.lt
  have hc2 := (h1.set 2 (.slice (some ⟨B + 3, 0, none⟩) M.nl M.nl)).below hb h1.lt
  refine ⟨c6, ⟨by simp [mkX]; omega, by simp [mkX]; omega, by simp [mkX]; omega, fun j hj => by simp [mkX] at hj ⊢; omega, hnl, h6c, fun i j hi hj he => by simp [mkX] at he; exact he⟩, ⟨⟨by simp [mkX]; omega, hc2, st h2 (by show B + 1 ≠ B; omega), st h6 (by show B + 3 ≠ B; omega), World.ownsRow_nil _ _ _ _, Or.inl ⟨rfl, rfl⟩, fun j _ hj => by simp [mkY] at hj, fun j hj => ?_, fun j hj i hi => by simp [mkY] at hi, fun p => ?_, fun e he => ?_, fun e he => ?_, fun s => ⟨0, rfl⟩, fun j hj g hg => by simp [mkY, Value.ownBlock] at hg, fun i j hi hj hij g hg => by simp [mkY, Value.ownBlock] at hg⟩, fun j hj => ?_, fun j hj => Or.inl ⟨rfl, rfl⟩, ⟨c4, st h4 (by omega), h4s, fun j hj x hx => by simp [Mdl.la] at hx⟩, ⟨c5, st h5 (by omega), h5s, fun j hj => h5c j hj⟩, rfl⟩, ⟨cs, by rw [← h8]; exact hcs, hcz, Nat.zero_le _, fun j r hj => by omega⟩, ?_, st h3 (by omega)⟩
  · exact ⟨0, 0, fun _ => ⟨0, 0, 0, false, 0⟩, st (h7 j hj) (by show B + 6 + j ≠ B; omega), Or.inl ⟨rfl, rfl⟩, rfl, by omega, fun i hi => by simp [mkY] at hi⟩
  · simp only [mkY, cnt, lcnt_nil]
  · have := he (fun _ => true) rfl; simp [cnt] at this
  · have := he (fun _ => true) rfl; simp [cnt] at this
  · exact ⟨st (h7 j hj) (by show B + 6 + j ≠ B; omega), Or.inl ⟨rfl, rfl⟩, fun _ => rfl⟩
  · exact (h9.setCell (by show B ≤ B; omega) _).trans (hb.mono (by omega))

theorem Kept.low {X : Cx} {Y Y' : Hp} {w w' : World} {B : Nat} (k : Kept X Y Y' w w') (hB : ∀ g, g < B → ¬ Foot X Y g) (hBs : B ≤ w.heap.size) : Below B w w' := ⟨k.os, k.tape, k.output, k.size, fun g hg => k.block g (by omega) (hB g hg)⟩
theorem Sim.lowFoot {B nl : Nat} {lcs : Array Value} {w : World} {Y : Hp} {idl : Value} {now : Int} {seq nid L : Nat} {lg : List Value} {bag : (Ev → Bool) → Nat} (S : Sim (mkX B nl lcs) w Y idl now seq nid L lg bag) : ∀ g, g < B → ¬ Foot (mkX B nl lcs) Y g := by
  intro g hg hf
  rcases hf with h | h | ⟨j, hj, h⟩ | h | ⟨j, hj, h⟩ | h
  · simp [mkX] at h; omega
  · simp [mkX] at h; omega
  · simp [mkX] at h; omega
  · exact S.hr.own_ge (c := g) (by simp [mkX]; omega) h.symm
  · obtain ⟨hd, n, h', k1, k2, _⟩ := S.hL j hj
    exact k2.own_ge (c := g) (by simp [mkX]; omega) h.symm
  · rcases S.hlog.2 with ⟨e, _⟩ | ⟨g', cap, cur, e, hb, _⟩
    · rw [e] at h; simp [Value.ownBlock] at h
    · rw [e] at h; simp [Value.ownBlock] at h; simp [mkX] at hb; omega

theorem L2.below {M : Mdl} {X : Cx} {B pb : Nat} {w wr w' : World} {i : Nat} {Y : Hp} (h : L2 M X B pb w wr i Y) (hb : Below wr.heap.size wr w') : L2 M X B pb w w' i Y := by
  obtain ⟨h1, h2, h3, h4⟩ := h
  have : B ≤ wr.heap.size := by have := h4.lt; omega
  exact ⟨h1.below hb, h2.of_block (hb.block _ h2.lt), h3.trans (hb.mono this), h4.below hb h4.lt⟩

/-- Behind the call, ahead of the append. -/
def L2b (M : Mdl) (X : Cx) (B pb : Nat) (w w' : World) (i : Nat) : Prop := ∃ Y', Inv2 M X (B + 4) (B + 5) w' (i + 1) Y' ∧ PRow w' pb (2 * M.N) i M.ev ∧ Below B w w' ∧ Blk w' (B + 2) 34 #[.pointer (some ⟨B + 1, 0, none⟩)]
theorem L2.called {M : Mdl} {B nl : Nat} {lcs : Array Value} {pb : Nat} {w w2 w5 w' : World} {i : Nat} {Y Y' : Hp} (h : L2 M (mkX B nl lcs) B pb w w2 i Y) (hI : Inv2 M (mkX B nl lcs) (B + 4) (B + 5) w' (i + 1) Y') (hk : Kept (mkX B nl lcs) Y Y' w5 w')
    (h5 : ∀ g T cs, Blk w2 g T cs → T ≠ 4 → T ≠ 25 → T ≠ 33 → Blk w5 g T cs) (hB5 : Below B w2 w5) {E : Nat} {es : Array Value} (hE : Blk w2 E 45 es) : L2b M (mkX B nl lcs) B pb w w' i ∧ Blk w' E 45 es := by
  obtain ⟨h1, ⟨cs, p1, p2⟩, h3, h4⟩ := h
  have hBle : B ≤ w5.heap.size := by have := h4.lt; have := hB5.size; omega
  have go : ∀ {g : Nat} {T : TypeId} {ds : Array Value}, Blk w2 g T ds → T ≠ 4 → T ≠ 25 → T ≠ 33 → T ≠ 37 → T ≠ 42 → T ≠ 54 → T ≠ 59 → Blk w' g T ds := fun hg a1 a2 a3 a4 a5 a6 a7 => hk.blk (h5 _ _ _ hg a1 a2 a3) (h1.S.notFoot hg a3 a4 a5 a6 a7)
  exact ⟨⟨Y', hI, ⟨cs, go p1 (by decide) (by decide) (by decide) (by decide) (by decide) (by decide) (by decide), p2⟩, (h3.trans hB5).trans (hk.low h1.S.lowFoot hBle), go h4 (by decide) (by decide) (by decide) (by decide) (by decide) (by decide) (by decide)⟩, go hE (by decide) (by decide) (by decide) (by decide) (by decide) (by decide) (by decide)⟩

/-- The three stores of a lane's item. -/
theorem three_sets {w2 w5 : World} {B j : Nat} {x y z : Value} {u v : Array Value} {t : Array Value} (hu : Blk w2 (B + 5) 4 u) (hl : Blk w2 (B + 4) 25 v) (hc : Blk w2 B 33 t)
    (hb : Below w2.heap.size (((w2.setCell ⟨B + 5, j, none⟩ x).setCell ⟨B + 4, j, none⟩ y).setCell ⟨B, 3, none⟩ z) w5) : (∀ g T cs, Blk w2 g T cs → T ≠ 4 → T ≠ 25 → T ≠ 33 → Blk w5 g T cs) ∧ Below B w2 w5 := by
  have hs : (((w2.setCell ⟨B + 5, j, none⟩ x).setCell ⟨B + 4, j, none⟩ y).setCell ⟨B, 3, none⟩ z).heap.size = w2.heap.size := by simp [World.setCell]
  have hcl := hc.lt
  refine ⟨fun g T cs hg a1 a2 a3 => ?_, ?_⟩
  · exact (((hg.setOther ⟨B + 5, j, none⟩ x (hg.ne hu a1)).setOther ⟨B + 4, j, none⟩ y (hg.ne hl a2)).setOther ⟨B, 3, none⟩ z (hg.ne hc a3)).below hb hg.lt
  · exact ((((Below.refl B w2).setCell (by show B ≤ B + 5; omega) x).setCell (by show B ≤ B + 4; omega) y).setCell (by show B ≤ B; omega) z).trans (hb.mono (by omega))

theorem Inv2.only {M : Mdl} {X : Cx} {lastB usedB : Nat} {w w' : World} {i : Nat} {Y : Hp} (h : Inv2 M X lastB usedB w i Y) {g : Nat} {T : TypeId} {cs : Array Value} (ho : Only g w w') (hg : Blk w g T cs) (h1 : T ≠ 33) (h2 : T ≠ 37) (h3 : T ≠ 40) (h4 : T ≠ 42) (h5 : T ≠ 54) (h6 : T ≠ 48) (h7 : T ≠ 25) (h8 : T ≠ 4) : Inv2 M X lastB usedB w' i Y := by
  have nb : ∀ {T' : TypeId}, T ≠ T' → ∀ ds, ¬ Blk w g T' ds := fun hT ds hd => hT (hg.ty hd)
  refine ⟨h.S.only ho (hg.ne h.S.hc h1) (hg.ne h.S.hst h2) (hg.ne h.S.hlb h3) (nb h4) (nb h5) (nb h6) (by rw [h.hlog]; simp [Value.ownBlock]), h.hnew.only ho (nb h4) (nb h5), h.hlast, ?_, ?_, h.hlog⟩
  · obtain ⟨ds, k1, k2⟩ := h.hlb; exact ⟨ds, ho.blk k1 (k1.ne hg (Ne.symm h7)), k2⟩
  · obtain ⟨ds, k1, k2⟩ := h.hub; exact ⟨ds, ho.blk k1 (k1.ne hg (Ne.symm h8)), k2⟩

/-- Behind the append. -/
theorem L2b.appended {M : Mdl} {B nl : Nat} {lcs : Array Value} {pb : Nat} {w wx wy w' : World} {i : Nat} (h : L2b M (mkX B nl lcs) B pb w wx i) (hy : Below wx.heap.size wx wy) (ho : Only pb wy w') {cs cs' : Array Value} (hpb : Blk wx pb 56 cs) (hb' : Blk w' pb 56 cs') (hs' : cs'.size = 2 * M.N * 5) (hi : i < M.N) (hbp : B ≤ pb)
    (h1 : ∀ j, j < [Value.int .i64 (M.ev i).t, .int .u64 (M.ev i).seq, .int .i64 (M.ev i).id, .bool (M.ev i).child, .int .u8 (M.ev i).d].length → cs'[i * 5 + j]? = [Value.int .i64 (M.ev i).t, .int .u64 (M.ev i).seq, .int .i64 (M.ev i).id, .bool (M.ev i).child, .int .u8 (M.ev i).d][j]?) (h2 : ∀ j, j < i * 5 → cs'[j]? = cs[j]?) :
    ∃ Y, L2 M (mkX B nl lcs) B pb w w' (i + 1) Y := by
  obtain ⟨Y, hI, ⟨ds, p1, p2, p3, p4⟩, h3, h4⟩ := h
  have e : ds = cs := by
    unfold Blk at p1 hpb; rw [p1] at hpb; simp at hpb; exact hpb
  subst e
  have hpy := hpb.below hy hpb.lt
  have hBle : B ≤ wx.heap.size := by have := h4.lt; omega
  refine ⟨Y, (hI.below hy).only ho hpy (by decide) (by decide) (by decide) (by decide) (by decide) (by decide) (by decide) (by decide), ?_, ?_, ?_⟩
  · have := PRow.snoc (f := M.ev) (e := M.ev i) hb' hs' (by omega) p4.out (fun j hj => h1 j (by simpa using hj)) h2
    exact this.congr (fun j hj => by
      by_cases e : j = i
      · subst e; rw [upd_self]
      · rw [upd_ne _ _ e])
  · exact (h3.trans (hy.mono hBle)).trans (ho.below hbp)
  · exact ho.blk (h4.below hy h4.lt) ((h4.below hy h4.lt).ne hpy (by decide))
end Go.Proofs.Ybulkeeeq
