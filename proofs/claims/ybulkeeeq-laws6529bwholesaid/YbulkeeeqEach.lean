import Derived.Test.YbulkeeeqFrz
import Derived.Test.YbulkeeeqLock
import Derived.Test.YbulkeeeqBut
import Derived.Test.YbulkeeeqRnd
namespace Go.Proofs.Ybulkeeeq
open Go.RowKit Go.Shelf
attribute [local go_sem] Oper.semAt_some
set_option linter.unusedVariables false

/-- An identifier is stored whole, inside a fence. -/
theorem wpListIn_store76 {F : Fence} {nF : Nat} (w : World) {ops : Array Oper} {rest : List Oper} {o : Oper} {a : Act} {Q : Exit → Act → World → Prop}
    (hg : o.guard = none) (p v : Operand) (hop : o.op = Op.store 76 p v) (g hi lo : Nat) (cur : Array Value) (hp : a.eval p = .pointer (some ⟨g, 0, none⟩)) (hv : a.eval v = .agg (idA hi lo)) (hb : Blk w g 76 cur) (hs : cur.size = 20)
    (hK : ∀ w', Blk w' g 76 (idA hi lo) → Only g w w' → wpListIn F nF Yba.prog ops Q rest (a.put o.dst undef) w') :
    wpListIn F nF Yba.prog ops Q (o :: rest) a w := by
  refine wpListIn_plain hg fun K' hK' => ?_
  obtain ⟨w', hrun0, r1, r2⟩ := run_store76 (hi := hi) (lo := lo) hb hs
  have hrun : (Instr.storeAt 76 (.pointer (some ⟨g, 0, none⟩)) (.agg (idA hi lo))).run Yba.prog w = .ok () w' := by
    have h1 : (Instr.sureAddr (.pointer (some ⟨g, 0, none⟩))).run Yba.prog w = .ok ⟨g, 0, none⟩ w := rfl
    simp only [Instr.storeAt, Sem.run_bind, h1, Result.andThen]
    exact hrun0
  unfold Oper.wpIn
  refine ⟨by simp [Oper.about, hop], ?_⟩
  rw [Oper.semAt_plain F _ _ (by rw [hop]; intro c hc'; cases hc')]
  simp [execOp, hop, hp, hv, hrun, Result.andThen]
  exact hK' _ _ (hK w' r1 r2)

/-- A record's three cells. -/
def recC (ek : Nat → Ent) (vf : Nat → Nat) (i : Nat) : List Value := [.string (ek i).key, .slice (ek i).va (ek i).vn (ek i).vc, .int .u64 (vf i : Nat)]
def recs (ek : Nat → Ent) (vf : Nat → Nat) : List Nat → List Value
  | [] => []
  | i :: t => recC ek vf i ++ recs ek vf t
theorem recs_snoc (ek : Nat → Ent) (vf : Nat → Nat) : ∀ (l : List Nat) (i : Nat), recs ek vf (l ++ [i]) = recs ek vf l ++ recC ek vf i
  | [], i => by simp [recs]
  | a :: t, i => by simp only [List.cons_append, recs, recs_snoc ek vf t i, List.append_assoc]
/-- Which of what has come is taken. -/
def picks {M : Nat} (inR : Nat → Bool) (pre : List { i : Nat // i < M }) : List Nat := (pre.map Subtype.val).filter inR
theorem picks_snoc {M : Nat} (inR : Nat → Bool) (pre : List { i : Nat // i < M }) (x : { i : Nat // i < M }) : picks inR (pre ++ [x]) = if inR x.1 then picks inR pre ++ [x.1] else picks inR pre := by
  unfold picks
  rw [List.map_append, List.filter_append]
  by_cases h : inR x.1 = true
  · simp [h]
  · simp [h]
theorem picks_len {M : Nat} (inR : Nat → Bool) (pre : List { i : Nat // i < M }) : (picks inR pre).length ≤ pre.length := by
  unfold picks; exact Nat.le_trans (List.length_filter_le _ _) (by simp)

/-- What is held under the keys. -/
def heldA (e : Ent) (vr : Nat) : Array Value := idA e.hi e.lo ++ #[.slice e.va e.vn e.vc, .int .u64 (vr : Nat)]
structure HeldIn (w : World) (n0 mo mu mc no nu nc M : Nat) (fo fu fc : List UInt8 → Option Nat) (ek : Nat → Ent) (vf : Nat → Nat) : Prop where
  o : MapIs w mo no fo
  u : MapIs w mu nu fu
  c : MapIs w mc nc fc
  lo : mo < n0
  lu : mu < n0
  lc : mc < n0
  each : ∀ i, i < M → ∃ g, (fo (ek i).key.data.toList = some g ∨ (fo (ek i).key.data.toList = none ∧ fu (ek i).key.data.toList = some g) ∨ (fo (ek i).key.data.toList = none ∧ fu (ek i).key.data.toList = none ∧ fc (ek i).key.data.toList = some g)) ∧ g < n0 ∧ Blk w g 84 (heldA (ek i) (vf i))
theorem HeldIn.keep {w w' : World} {n0 mo mu mc no nu nc M : Nat} {fo fu fc : List UInt8 → Option Nat} {ek : Nat → Ent} {vf : Nat → Nat} (h : HeldIn w n0 mo mu mc no nu nc M fo fu fc ek vf) (hb : ∀ k, k < n0 → w'.heap[k]? = w.heap[k]? ∨ ∃ T cs, Blk w k T cs ∧ T ≠ 84) : HeldIn w' n0 mo mu mc no nu nc M fo fu fc ek vf := by
  have hm : ∀ b n m, MapIs w b n m → b < n0 → MapIs w' b n m := fun b n m h1 h2 => by
    rcases hb b h2 with q | ⟨T, cs, q, _⟩
    · exact h1.of_block q
    · exact absurd rfl (h1.ne_blk q)
  refine ⟨hm _ _ _ h.o h.lo, hm _ _ _ h.u h.lu, hm _ _ _ h.c h.lc, h.lo, h.lu, h.lc, fun i hi => ?_⟩
  obtain ⟨g, h1, h2, h3⟩ := h.each i hi
  refine ⟨g, h1, h2, ?_⟩
  rcases hb g h2 with q | ⟨T, cs, q, hT⟩
  · unfold Blk at h3 ⊢; rw [q]; exact h3
  · unfold Blk at h3 q; rw [h3] at q; injection q with q; injection q with q1 q2; exact absurd q2.symm hT

/-- What has been taken, and nothing else has turned since the loop began. -/
def GotI (W0 : World) (gB B : Nat) (ek : Nat → Ent) (vf : Nat → Nat) (gs : List Nat) (W : World) : Prop := ∃ v, Blk W gB 122 #[v] ∧ W.ownsRow B 125 3 v gs.length (recs ek vf gs) ∧ Fr gB none B W0 W ∧ B ≤ W.heap.size
theorem keep_cells {W W' : World} {row : Option Nat} {k : Nat} {T : TypeId} {cs : Array Value} (h : Blk W k T cs) (hg : W.grownBy W' row) (hr : ∀ r, row = some r → ∃ o : Obj, W.heap[r]? = some o ∧ o.isCells = false) : W'.heap[k]? = W.heap[k]? := by
  refine hg.block k h.lt (fun e => ?_)
  obtain ⟨o, h1, h2⟩ := hr k e.symm
  unfold Blk at h
  rw [h] at h1; cases h1; cases h2
theorem GotI.own {W0 W W' : World} {gB B : Nat} {ek : Nat → Ent} {vf : Nat → Nat} {gs : List Nat} {row : Option Nat} (h : GotI W0 gB B ek vf gs W) (hg : W.grownBy W' row) (hr : ∀ r, row = some r → B ≤ r ∧ ∃ o : Obj, W.heap[r]? = some o ∧ o.isCells = false) : GotI W0 gB B ek vf gs W' := by
  obtain ⟨v, h1, h2, h3, h4⟩ := h
  have hr' := fun r e => (hr r e).2
  refine ⟨v, ?_, ?_, ⟨hg.os.trans h3.os, hg.tape.trans h3.tape, hg.output.trans h3.output, Nat.le_trans h3.size hg.size, fun k hk q1 q2 => ?_⟩, Nat.le_trans h4 hg.size⟩
  · have := keep_cells h1 hg hr'
    unfold Blk at h1 ⊢; rw [this]; exact h1
  · refine owns_other h2 (fun k hk => ?_)
    rcases h2.2 with ⟨rfl, _⟩ | ⟨g, cap, cur, rfl, hgb, hh, _⟩
    · simp [Value.ownBlock] at hk
    · simp [Value.ownBlock] at hk; subst hk
      exact keep_cells (T := 125) (cs := cur) hh hg hr'
  · rw [← h3.block k hk q1 q2]
    exact hg.block k (by omega) (fun e => by have := (hr k e.symm).1; omega)
theorem GotI.below {W0 W W' : World} {gB B : Nat} {ek : Nat → Ent} {vf : Nat → Nat} {gs : List Nat} (h : GotI W0 gB B ek vf gs W) (hb : Below W.heap.size W W') : GotI W0 gB B ek vf gs W' :=
  h.own (grown_of_below hb) (fun r e => by cases e)
/-- What taking one more leaves. -/
theorem GotI.took {W0 W W' : World} {gB B : Nat} {ek : Nat → Ent} {vf : Nat → Nat} {gs : List Nat} {i : Nat} {v v' : Value} (h2 : W.ownsRow B 125 3 v gs.length (recs ek vf gs)) (h3 : Fr gB none B W0 W) (h4 : B ≤ W.heap.size)
    (q1 : Blk W' gB 122 #[v']) (q2 : W'.ownsRow B 125 3 v' (gs.length + 1) (recs ek vf gs ++ recC ek vf i)) (q3 : Fr gB v.ownBlock W.heap.size W W') : GotI W0 gB B ek vf (gs ++ [i]) W' := by
  refine ⟨v', q1, by rw [recs_snoc, List.length_append]; exact q2, ⟨q3.os.trans h3.os, q3.tape.trans h3.tape, q3.output.trans h3.output, Nat.le_trans h3.size q3.size, fun k hk r1 r2 => ?_⟩, Nat.le_trans h4 q3.size⟩
  rw [← h3.block k hk r1 r2]
  exact q3.block k (by omega) r1 (own_ge h2 hk)
theorem keepsFrom_took {W W' : World} {gB B : Nat} {v : Value} {n : Nat} {xs : List Value} {v0 : Value} (h1 : Blk W gB 122 #[v0]) (h2 : W.ownsRow B 125 3 v n xs) (q3 : Fr gB v.ownBlock W.heap.size W W') : KeepsFrom B W W' := by
  refine ⟨q3.size, fun k o hB hk ho => ?_⟩
  have hkl : k < W.heap.size := (Array.getElem?_eq_some_iff.1 hk).1
  rw [q3.block k hkl ?_ ?_]
  · exact hk
  · intro e; subst e; unfold Blk at h1; rw [h1] at hk; cases hk; cases ho
  · intro e
    rcases h2.2 with ⟨rfl, _⟩ | ⟨g, cap, cur, rfl, hgb, hh, _⟩
    · simp [Value.ownBlock] at e
    · simp [Value.ownBlock] at e; subst e
      rw [hh] at hk; cases hk; cases ho
theorem keepsFrom_below (B : Nat) {W W' : World} (h : Below W.heap.size W W') : KeepsFrom B W W' := ⟨h.size, fun k o _ hk _ => (h.block k (Array.getElem?_eq_some_iff.1 hk).1).trans hk⟩
theorem keepS_took {W W' : World} {gB B n0 sB kB : Nat} {v : Value} {n : Nat} {xs : List Value} (h2 : W.ownsRow B 125 3 v n xs) (q3 : Fr gB v.ownBlock W.heap.size W W') (hg : n0 ≤ gB) (hs : sB ≠ gB) (hk : kB ≠ gB) (hn : n0 ≤ B) (hsB : sB < B) (hkB : kB < B) : KeepS n0 sB kB W W' :=
  ⟨q3.size, fun k hp hl => q3.block k hl (by omega) (own_ge h2 (by omega))⟩

theorem owns_base {w : World} {b b' : Nat} {e : TypeId} {size : Nat} {v : Value} {n : Nat} {xs : List Value} (h : w.ownsRow b e size v n xs) (hb : b' ≤ b) : w.ownsRow b' e size v n xs := by
  refine ⟨h.1, ?_⟩
  rcases h.2 with h2 | ⟨g, cap, cur, rfl, hg, q⟩
  · exact Or.inl h2
  · exact Or.inr ⟨g, cap, cur, rfl, Nat.le_trans hb hg, q⟩
theorem set_back {cs : Array Value} {i : Nat} {x y : Value} (h : cs[i]? = some y) : (cs.setIfInBounds i x).setIfInBounds i y = cs := by
  apply Array.ext_getElem?
  intro k
  by_cases e : k = i
  · subst e
    rw [Array.getElem?_setIfInBounds_self_of_lt (by simp; exact (Array.getElem?_eq_some_iff.1 h).1), h]
  · rw [Array.getElem?_setIfInBounds_ne (Ne.symm e), Array.getElem?_setIfInBounds_ne (Ne.symm e)]

set_option maxHeartbeats 40000000 in
set_option maxRecDepth 100000 in
theorem each_calls (nb gR nR cR n0 L M p0 mo mu mc no nu nc gB lB limit sh sl eh el : Nat) (fo fu fc : List UInt8 → Option Nat) (ek : Nat → Ent) (vf : Nat → Nat) (s : ByteArray) (cs : Array Value) (w : World)
    (hnode : Blk w nb 121 cs) (k24 : cs[24]? = some (.int .i32 0)) (k56 : cs[56]? = some (.map (some mo))) (k57 : cs[57]? = some (.map (some mu))) (k58 : cs[58]? = some (.map (some mc)))
    (hkeys : ∀ x, Fr nb none w.heap.size w x → x.cell? ⟨nb, 59, none⟩ = w.cell? ⟨nb, 59, none⟩ → KeysIn x nb gR nR cR n0 L M ek) (hheld : HeldIn w n0 mo mu mc no nu nc M fo fu fc ek vf) (hn0 : n0 ≤ w.heap.size) (hnb : nb < n0) (hgR : gR < n0) (hP : Parts L M nR) (hf : Falls (klt ek s) M) (hp0 : Cut (klt ek s) M p0) (hM : M ≤ 65536) (hnR2 : nR ≤ 65536)
    (hgot : Blk w gB 122 #[.slice none 0 0]) (hlim : w.cell? ⟨lB, 0, none⟩ = some (.int .i64 (limit : Nat))) (hgB : n0 ≤ gB) (hlB : n0 ≤ lB) (hlg : lB ≠ gB)
    (hsz : ∀ i, i < M → (ek i).key.size ≤ maxLen) (hby : ∀ i, i < M → (ek i).hi ≤ 255 ∧ (ek i).lo ≤ 255) (b1 : sh ≤ 255) (b2 : sl ≤ 255) (b3 : eh ≤ 255) (b4 : el ≤ 255) :
    Calls Yba.prog 14 #[.pointer (some ⟨nb, 0, none⟩), .agg (idA sh sl), .agg (idA eh el), .string s, .func (.func 15) #[] #[.pointer (some ⟨gB, 0, none⟩), .pointer (some ⟨lB, 0, none⟩)]] w fun ex w' => ex = .returned (.tuple #[]) ∧
      ∃ (v : Value) (gs : List Nat), Blk w' gB 122 #[v] ∧ w'.ownsRow w.heap.size 125 3 v gs.length (recs ek vf gs) ∧ Fr gB none w.heap.size w w' ∧
        ((∃ k, p0 + k ≤ M ∧ gs = (List.range' p0 k).filter (fun i => bin (ek i).hi (ek i).lo sh sl eh el) ∧ gs.length = limit ∧ 0 < limit) ∨ (gs = (List.range' p0 (M - p0)).filter (fun i => bin (ek i).hi (ek i).lo sh sl eh el) ∧ (limit = 0 ∨ gs.length < limit))) := by
  refine (callsIn_wide (n := 3)).1 ?_
  refine callsIn_of_wp_marks Yba.func14 rfl trivial ?_ rfl
  refine wpIn_wide.2 ?_
  simp only [Yba.ntmps14, List.size_toArray, List.length_cons, List.length_nil, Nat.reduceAdd, Nat.reduceSub, Array.replicate_succ, Array.replicate_zero, List.push_toArray, List.append_toArray, List.nil_append, List.cons_append]
  go_upto_region 1 with fail
  obtain ⟨R, hR⟩ : ∃ x, x = w.heap.size := ⟨_, rfl⟩
  obtain ⟨w1, hw1⟩ : ∃ x, x = ((((w.alloc (.cells #[.pointer (some ⟨nb, 0, none⟩)] 85)).alloc (.cells (idA sh sl) 76)).alloc (.cells (idA eh el) 76)).alloc (.cells #[.func (.func 15) #[] #[.pointer (some ⟨gB, 0, none⟩), .pointer (some ⟨lB, 0, none⟩)]] 126)) := ⟨_, rfl⟩
  have f0 : Blk w1 R 85 #[.pointer (some ⟨nb, 0, none⟩)] := by rw [hw1, hR]; exact (((Blk.new w _ _).alloc _).alloc _).alloc _
  have f1 : Blk w1 (R + 1) 76 (idA sh sl) := by
    rw [hw1, hR]
    have := ((Blk.new (w.alloc (.cells #[.pointer (some ⟨nb, 0, none⟩)] 85)) 76 (idA sh sl)).alloc (.cells (idA eh el) 76)).alloc (.cells #[.func (.func 15) #[] #[.pointer (some ⟨gB, 0, none⟩), .pointer (some ⟨lB, 0, none⟩)]] 126)
    simp at this; exact this
  have f2 : Blk w1 (R + 1 + 1) 76 (idA eh el) := by
    rw [hw1, hR]
    have := (Blk.new ((w.alloc (.cells #[.pointer (some ⟨nb, 0, none⟩)] 85)).alloc (.cells (idA sh sl) 76)) 76 (idA eh el)).alloc (.cells #[.func (.func 15) #[] #[.pointer (some ⟨gB, 0, none⟩), .pointer (some ⟨lB, 0, none⟩)]] 126)
    simp at this; exact this
  have f3 : Blk w1 (R + 1 + 1 + 1) 126 #[.func (.func 15) #[] #[.pointer (some ⟨gB, 0, none⟩), .pointer (some ⟨lB, 0, none⟩)]] := by
    rw [hw1, hR]
    have := Blk.new (((w.alloc (.cells #[.pointer (some ⟨nb, 0, none⟩)] 85)).alloc (.cells (idA sh sl) 76)).alloc (.cells (idA eh el) 76)) 126 #[.func (.func 15) #[] #[.pointer (some ⟨gB, 0, none⟩), .pointer (some ⟨lB, 0, none⟩)]]
    simp at this; exact this
  have hs1 : w1.heap.size = R + 4 := by rw [hw1, hR]; simp
  have hB1 : Below w.heap.size w w1 := by rw [hw1]; exact ((((Below.refl _ w).alloc (Nat.le_refl _) _).alloc (by simp) _).alloc (by simp; omega) _).alloc (by simp; omega) _
  have hnode1 : Blk w1 nb 121 cs := hnode.below hB1 hnode.lt
  rw [← hw1, ← hR]
  have e24 : w1.cell? ⟨nb, 24, none⟩ = some (.int .i32 0) := by rw [hnode1.cell]; exact k24
  have z24 := hnode1.frozen 24
  have hlock : Hid (Calls Yba.prog 23 #[.pointer (some ⟨nb, 24, none⟩)] w1 fun e w' => e = .returned (.tuple #[]) ∧ w1.setCell ⟨nb, 24, none⟩ (.int .i32 1) = w') := (lock_calls nb 24 w1 e24 z24).mono fun _ _ h => ⟨h.1, h.2.symm⟩
  obtain ⟨w2, hw2⟩ : ∃ x, x = w1.setCell ⟨nb, 24, none⟩ (.int .i32 1) := ⟨_, rfl⟩
  rw [← hw2] at hlock
  have hRnb : nb < R := by rw [hR]; exact hnode.lt
  have g0 : Blk w2 R 85 #[.pointer (some ⟨nb, 0, none⟩)] := by rw [hw2]; exact f0.setOther _ _ (by show R ≠ nb; omega)
  have g1 : Blk w2 (R + 1) 76 (idA sh sl) := by rw [hw2]; exact f1.setOther _ _ (by show R + 1 ≠ nb; omega)
  have g2 : Blk w2 (R + 1 + 1) 76 (idA eh el) := by rw [hw2]; exact f2.setOther _ _ (by show R + 1 + 1 ≠ nb; omega)
  have g3 : Blk w2 (R + 1 + 1 + 1) 126 #[.func (.func 15) #[] #[.pointer (some ⟨gB, 0, none⟩), .pointer (some ⟨lB, 0, none⟩)]] := by rw [hw2]; exact f3.setOther _ _ (by show R + 1 + 1 + 1 ≠ nb; omega)
  have hs2 : w2.heap.size = R + 4 := by rw [hw2]; simp [World.setCell]; exact hs1
  have hnode2 : Blk w2 nb 121 (cs.setIfInBounds 24 (.int .i32 1)) := by rw [hw2]; exact hnode1.set 24 _
  have hF2 : Fr nb none w.heap.size w w2 := by rw [hw2]; exact (Fr.of_below hB1).setCell nb 24 _ (Or.inl rfl)
  have hfrom := mkFrom_calls nb s w2
  rw [hs2] at hfrom
  have hfrom' : Hid (Calls Yba.prog 25 #[.pointer (some ⟨nb, 59, none⟩), .string s] w2 fun ex w' =>
    ex = .returned (.func (.func 39) #[] #[.pointer (some ⟨R + 4, 0, none⟩), .pointer (some ⟨R + 4 + 1, 0, none⟩)]) ∧ Below (R + 4) w2 w' ∧ w'.heap.size = R + 4 + 2 ∧ w'.cell? ⟨R + 4, 0, none⟩ = some (.pointer (some ⟨nb, 59, none⟩)) ∧ w'.cell? ⟨R + 4 + 1, 0, none⟩ = some (.string s)) := hfrom
  have c0 := f0.cell 0
  have c0' : w1.cell? ⟨R, 0, none⟩ = some (.pointer (some ⟨nb, 0, none⟩)) := by rw [c0]; rfl
  have c2' : w2.cell? ⟨R, 0, none⟩ = some (.pointer (some ⟨nb, 0, none⟩)) := by rw [g0.cell]; rfl
  have hnl1 : nb < w1.heap.size := by omega
  have hnl2 : nb < w2.heap.size := by omega
  have hR' : Hid (R = w.heap.size) := hR
  have g0' : Hid (Blk w2 R 85 #[.pointer (some ⟨nb, 0, none⟩)]) := g0
  have g1' : Hid (Blk w2 (R + 1) 76 (idA sh sl)) := g1
  have g2' : Hid (Blk w2 (R + 1 + 1) 76 (idA eh el)) := g2
  have g3' : Hid (Blk w2 (R + 1 + 1 + 1) 126 #[.func (.func 15) #[] #[.pointer (some ⟨gB, 0, none⟩), .pointer (some ⟨lB, 0, none⟩)]]) := g3
  have hs2' : Hid (w2.heap.size = R + 4) := hs2
  have hnode2' : Hid (Blk w2 nb 121 (cs.setIfInBounds 24 (.int .i32 1))) := hnode2
  have hF2' : Hid (Fr nb none w.heap.size w w2) := hF2
  have hnode' : Hid (Blk w nb 121 cs) := hnode
  have hkeys' : Hid (∀ x, Fr nb none w.heap.size w x → x.cell? ⟨nb, 59, none⟩ = w.cell? ⟨nb, 59, none⟩ → KeysIn x nb gR nR cR n0 L M ek) := hkeys
  have hheld' : Hid (HeldIn w n0 mo mu mc no nu nc M fo fu fc ek vf) := hheld
  have hP' : Hid (Parts L M nR) := hP
  have hf' : Hid (Falls (klt ek s) M) := hf
  have hp0' : Hid (Cut (klt ek s) M p0) := hp0
  have hgot' : Hid (Blk w gB 122 #[.slice none 0 0]) := hgot
  have hlim' : Hid (w.cell? ⟨lB, 0, none⟩ = some (.int .i64 (limit : Nat))) := hlim
  have hsz' : Hid (∀ i, i < M → (ek i).key.size ≤ maxLen) := hsz
  have hby' : Hid (∀ i, i < M → (ek i).hi ≤ 255 ∧ (ek i).lo ≤ 255) := hby
  have k24' : Hid (cs[24]? = some (.int .i32 0)) := k24
  have k56' : Hid (cs[56]? = some (.map (some mo))) := k56
  have k57' : Hid (cs[57]? = some (.map (some mu))) := k57
  have k58' : Hid (cs[58]? = some (.map (some mc))) := k58
  clear hw1 hw2 f0 f1 f2 f3 g0 g1 g2 g3 hs1 hs2 hB1 hnode1 hnode2 hF2 hfrom hnode hkeys hheld hP hf hp0 hgot hlim hsz hby k24 k56 k57 k58 hR e24 z24 c0
  go_upto_block 0 with (first
    | (go_at_call 23; refine hlock.out.mono ?_; rintro e w' ⟨rfl, rfl⟩)
    | (go_at_call 25; refine hfrom'.out.mono ?_; rintro e W0 ⟨rfl, q1, q2, q3, q4⟩))
  have hB0 : Hid (Below (R + 4) w2 W0) := q1
  have hs0 : Hid (W0.heap.size = R + 4 + 2) := q2
  have hF0 : Hid (Fr nb none w.heap.size w W0) := hF2'.out.trans (Fr.of_below (q1.mono (by have := hR'.out; omega)))
  have f0 : Hid (Blk W0 R 85 #[.pointer (some ⟨nb, 0, none⟩)]) := g0'.out.below q1 (by omega)
  have f1 : Hid (Blk W0 (R + 1) 76 (idA sh sl)) := g1'.out.below q1 (by omega)
  have f2 : Hid (Blk W0 (R + 1 + 1) 76 (idA eh el)) := g2'.out.below q1 (by omega)
  have f3 : Hid (Blk W0 (R + 1 + 1 + 1) 126 #[.func (.func 15) #[] #[.pointer (some ⟨gB, 0, none⟩), .pointer (some ⟨lB, 0, none⟩)]]) := g3'.out.below q1 (by omega)
  have hnode0 : Hid (Blk W0 nb 121 (cs.setIfInBounds 24 (.int .i32 1))) := hnode2'.out.below q1 (by omega)
  have c3' : Hid (W0.cell? ⟨R + 4, 0, none⟩ = some (.pointer (some ⟨nb, 59, none⟩))) := q3
  have c4' : Hid (W0.cell? ⟨R + 4 + 1, 0, none⟩ = some (.string s)) := q4
  have hkeys0 : Hid (KeysIn W0 nb gR nR cR n0 L M ek) := hkeys'.out W0 hF0.out (by rw [hnode0.out.cell, hnode'.out.cell, Array.getElem?_setIfInBounds_ne (by omega)])
  have hheld0 : Hid (HeldIn W0 n0 mo mu mc no nu nc M fo fu fc ek vf) := hheld'.out.keep (fun k hk => by
    by_cases e : k = nb
    · subst e; exact Or.inr ⟨121, cs, hnode'.out, by decide⟩
    · exact Or.inl (hF0.out.block k (by omega) e (by simp)))
  have hgot0 : Hid (Blk W0 gB 122 #[.slice none 0 0]) := by
    have h := hgot'.out
    have h1 := hF0.out.block gB h.lt (by omega) (by simp)
    unfold Hid; unfold Blk at h ⊢; rw [h1]; exact h
  have hlim0 : Hid (W0.cell? ⟨lB, 0, none⟩ = some (.int .i64 (limit : Nat))) := by
    have h1 := hF0.out.block lB (lt_of_cell hlim'.out) (by omega) (by simp)
    unfold Hid; rw [cell_of_block h1]; exact hlim'.out
  have hgBl : gB < R := by have := hgot'.out.lt; have := hR'.out; omega
  have hlBl : lB < R := by have := lt_of_cell hlim'.out; have := hR'.out; simp at *; omega
  have hn0R : n0 ≤ R := by have := hR'.out; omega
  clear q1 q2 q3 q4 hlock hfrom' c0' c2' hnl1 hnl2 g0' g1' g2' g3' hs2' hnode2' hF2' hkeys' hheld' hgot' hlim' hB0
  have hleave : Hid (∀ (tmps : Array Value) (W : World) (D : Nat) (gs : List Nat), GotI W0 gB (R + 4 + 2) ek vf gs W → W0.heap.size ≤ D → W.heap[D]? = some (.deferred (some [])) →
      ((∃ k, p0 + k ≤ M ∧ gs = (List.range' p0 k).filter (fun i => bin (ek i).hi (ek i).lo sh sl eh el) ∧ gs.length = limit ∧ 0 < limit) ∨ (gs = (List.range' p0 (M - p0)).filter (fun i => bin (ek i).hi (ek i).lo sh sl eh el) ∧ (limit = 0 ∨ gs.length < limit))) →
      LeavesInM Fence.wide 3 Yba.prog Yba.f14 tmps (fun ex w' => ex = .returned (.tuple #[]) ∧
      ∃ (v : Value) (gs : List Nat), Blk w' gB 122 #[v] ∧ w'.ownsRow w.heap.size 125 3 v gs.length (recs ek vf gs) ∧ Fr gB none w.heap.size w w' ∧
        ((∃ k, p0 + k ≤ M ∧ gs = (List.range' p0 k).filter (fun i => bin (ek i).hi (ek i).lo sh sl eh el) ∧ gs.length = limit ∧ 0 < limit) ∨ (gs = (List.range' p0 (M - p0)).filter (fun i => bin (ek i).hi (ek i).lo sh sl eh el) ∧ (limit = 0 ∨ gs.length < limit))))
        [{ target := .collected D, args := #[] }, { target := .fn (.func 24) #[], args := #[.pointer (some ⟨nb, 24, none⟩)] }] .returning W) := by
    intro tmps W D gs hgi hD hK hcase
    refine ⟨by simp, .inl ⟨D, _, rfl, run_takeDeferred hK, ?_⟩⟩
    have hgi2 := hgi.own (grownBy_putObj' W D (.deferred none)) (fun r e => by cases e; exact ⟨by rw [← hs0.out]; exact hD, _, hK, rfl⟩)
    obtain ⟨v, r1, r2, r3, r4⟩ := hgi2
    have hn : Blk (W.putObj D (.deferred none)) nb 121 (cs.setIfInBounds 24 (.int .i32 1)) := by
      have h1 := hnode0.out
      have h2 := r3.block nb (by omega) (by omega) (by simp)
      unfold Blk at h1 ⊢; rw [h2]; exact h1
    refine ⟨by simp, .inr ⟨fun h => (by simp [Fence.wide] at h), .func 24, #[], 24, #[.pointer (some ⟨nb, 24, none⟩)], rfl, by simp [go_sem], fun _ _ => trivial, ?_⟩⟩
    refine (unlock_in 2 nb 24 .returning _ (by rw [hn.cell, Array.getElem?_setIfInBounds_self_of_lt (Array.getElem?_eq_some_iff.1 k24'.out).1]) (hn.frozen 24)).mono ?_
    rintro e u' w' ⟨rfl, rfl, rfl⟩
    refine ⟨_, results_none rfl _ _ _, rfl, v, gs, r1.setOther _ _ (by show gB ≠ nb; omega), ?_, ⟨?_, ?_, ?_, ?_, fun k hk1 hk2 _ => ?_⟩, hcase⟩
    · refine owns_base (owns_other r2 (fun k hk => Below.heap_setCell _ _ _ _ (fun e => ?_))) (by have := hR'.out; omega)
      have e' : k = nb := e
      subst e'
      exact own_ge r2 (show k < R + 4 + 2 by omega) hk.symm
    · exact r3.os.trans hF0.out.os
    · exact r3.tape.trans hF0.out.tape
    · exact r3.output.trans hF0.out.output
    · exact Nat.le_trans hF0.out.size (by simpa [World.setCell] using r3.size)
    · have hkR : k < R := by rw [hR'.out]; exact hk1
      by_cases e : k = nb
      · subst e
        have h1 := hn.set 24 (.int .i32 0)
        rw [set_back k24'.out] at h1
        have h2 := hnode'.out
        unfold Blk at h1 h2
        rw [h1, h2]
      · rw [Below.heap_setCell _ _ _ _ e, r3.block k (by omega) hk2 (by simp)]
        exact hF0.out.block k hk1 e (by simp)
  go_wp2
  refine (wpIn_wide (n := 3)).1 ?_
  have hstops := from_stops 2 (R + 4) (R + 4 + 1) nb gR nR cR n0 L M p0 ek s W0 c3'.out c4'.out hkeys0.out (by have := hs0.out; omega) hnb hgR hP'.out hf'.out hp0'.out hM hnR2
  refine wpIn_rangeFunc_ownH (α := { i : Nat // i < M }) rfl (by omega) (gf := 39) (lb := #[.pointer (some ⟨R + 4, 0, none⟩), .pointer (some ⟨R + 4 + 1, 0, none⟩)]) rfl trivial (enters_of Yba.func39 (by kernel_rfl) rfl) hstops (fun h k => h.trans k)
    (fun W l o o' hl h1 h2 _ => ⟨by simp, fun k hk hkl => World.putObj_heap_other (by have := hs0.out; omega)⟩) (Below.refl _ _) (fun _ => rfl)
    (fun pre W => GotI W0 gB (R + 4 + 2) ek vf (picks (fun i => bin (ek i).hi (ek i).lo sh sl eh el) pre) W ∧ (limit = 0 ∨ (picks (fun i => bin (ek i).hi (ek i).lo sh sl eh el) pre).length < limit))
    (fun c pre W => GotI W0 gB (R + 4 + 2) ek vf (picks (fun i => bin (ek i).hi (ek i).lo sh sl eh el) pre) W ∧ c = .ret ∧ 0 < limit ∧ (picks (fun i => bin (ek i).hi (ek i).lo sh sl eh el) pre).length = limit)
    (fun s A B row hs hg hr => ⟨hs.1.own hg (fun r e => by have := hr r e; rw [hs0.out] at this; exact this), hs.2⟩)
    (fun c s A B row hs hg hr => ⟨hs.1.own hg (fun r e => by have := hr r e; rw [hs0.out] at this; exact this), hs.2⟩)
    ⟨⟨.slice none 0 0, hgot0.out, World.ownsRow_nil _ _ _ _, Fr.of_below (Below.refl _ _), by rw [hs0.out]; exact Nat.le_refl _⟩, by
      by_cases h : limit = 0
      · exact Or.inl h
      · exact Or.inr (by show 0 < limit; omega)⟩
    (fun x a' W => ∃ Bx, W0.heap.size ≤ Bx ∧ Blk W Bx 76 (idA (ek x.1).hi (ek x.1).lo) ∧ a' = { tmps := #[.pointer (some ⟨nb, 0, none⟩), .agg (idA sh sl), .agg (idA eh el), .string s, .func (.func 15) #[] #[.pointer (some ⟨gB, 0, none⟩), .pointer (some ⟨lB, 0, none⟩)], .pointer (some ⟨R, 0, none⟩), .pointer (some ⟨R + 1, 0, none⟩), .pointer (some ⟨R + 1 + 1, 0, none⟩), undef, .pointer (some ⟨R + 1 + 1 + 1, 0, none⟩), .string (ek x.1).key, .pointer (some ⟨Bx, 0, none⟩), undef, .pointer (some ⟨nb, 0, none⟩), .pointer (some ⟨nb, 0, none⟩), .pointer (some ⟨nb, 24, none⟩), .tuple #[], .pointer (some ⟨nb, 0, none⟩), .pointer (some ⟨nb, 0, none⟩), .pointer (some ⟨nb, 24, none⟩), .pointer (some ⟨nb, 0, none⟩), .pointer (some ⟨nb, 0, none⟩), .pointer (some ⟨nb, 59, none⟩), .string s, .func (.func 39) #[] #[.pointer (some ⟨R + 4, 0, none⟩), .pointer (some ⟨R + 4 + 1, 0, none⟩)], .string (ek x.1).key, .agg (idA (ek x.1).hi (ek x.1).lo), undef, undef, undef, undef, undef, undef, undef, undef, undef, undef, undef, undef, undef, undef, undef, undef, undef, undef, undef, undef, undef], defers := [] })
    (fun x a' s A B row hs hg hr => by
      obtain ⟨Bx, r1, r2, r3⟩ := hs
      refine ⟨Bx, r1, ?_, r3⟩
      have := keep_cells r2 hg (fun r e => (hr r e).2)
      unfold Blk at r2 ⊢; rw [this]; exact r2) ?assign ?body ?done ?stop
  case assign =>
    rintro l pre x W K ⟨hi1, hi2⟩ hK
    have hI1 : Hid (GotI W0 gB (R + 4 + 2) ek vf (picks (fun i => bin (ek i).hi (ek i).lo sh sl eh el) pre) W ∧ (limit = 0 ∨ (picks (fun i => bin (ek i).hi (ek i).lo sh sl eh el) pre).length < limit)) := ⟨hi1, hi2⟩
    have hBW : Hid (R + 4 + 2 ≤ W.heap.size) := by obtain ⟨_, _, _, _, h⟩ := hi1; exact h
    clear hi1 hi2
    simp only [encE, List.zip_toArray, List.zip_cons_cons, List.zip_nil_left]
    gi_wp2_with ((with_reducible refine wpListIn_store76 _ (o := ⟨none, Op.store 76 _ _, _, _, _, _⟩) ?_ (.tmp 11) (.tmp 26) ?_ W.heap.size (ek x.1).hi (ek x.1).lo _ ?_ ?_ (Blk.new _ _ _) ?_ ?_); (· rfl); (· rfl); (· rfl); (· rfl); (· rfl); intro w5 r1 r2)
    have hb5 : Below W.heap.size W w5 := ((Below.refl _ W).alloc (Nat.le_refl _) _).trans (r2.below (Nat.le_refl _))
    exact hK _ _ (keepsFrom_below _ hb5) (KeepS.of_below hb5) ⟨hI1.out.1.below hb5, hI1.out.2⟩ ⟨W.heap.size, by rw [hs0.out]; exact hBW.out, r1, rfl⟩
  case body =>
    rintro l pre x a' W hl - ⟨⟨v, hi1, hi2, hi3, hi4⟩, hi5⟩ ⟨Bx, hBx, hbx, rfl⟩ hlen
    obtain ⟨i, hiM⟩ := x
    dsimp only at hbx
    have hbk : ∀ k T cc, Blk W0 k T cc → k < R + 4 → k ≠ gB → Blk W k T cc := fun k T cc h1 h2 h3 => by
      have := hi3.block k (by omega) h3 (by simp)
      unfold Blk at h1 ⊢; rw [this]; exact h1
    have y0 := hbk _ _ _ f0.out (by omega) (by omega)
    have y1 := hbk _ _ _ f1.out (by omega) (by omega)
    have y2 := hbk _ _ _ f2.out (by omega) (by omega)
    have y3 := hbk _ _ _ f3.out (by omega) (by omega)
    have yn := hbk _ _ _ hnode0.out (by omega) (by omega)
    have yh : HeldIn W n0 mo mu mc no nu nc M fo fu fc ek vf := hheld0.out.keep (fun k hk => Or.inl (hi3.block k (by omega) (by omega) (by simp)))
    have yl : W.cell? ⟨lB, 0, none⟩ = some (.int .i64 (limit : Nat)) := by
      rw [cell_of_block (hi3.block lB (by omega) hlg (by simp))]; exact hlim0.out
    obtain ⟨bi, hbi⟩ : ∃ q, q = bin (ek i).hi (ek i).lo sh sl eh el := ⟨_, rfl⟩
    have hby1 := hby'.out i hiM
    have hcall : Hid (Calls Yba.prog 26 #[.agg (idA (ek i).hi (ek i).lo), .agg (idA sh sl), .agg (idA eh el)] W fun ex w' => ex = .returned (.bool bi) ∧ Below W.heap.size W w') := by
      rw [hbi]; exact betweenUpTo_calls _ _ _ _ _ _ W hby1.1 hby1.2 b1 b2 b3 b4
    have z1 : Hid (W.rangeAt Bx 0 (idA (ek i).hi (ek i).lo).toList) := hbx.range76
    have z2 : Hid (W.rangeAt (R + 1) 0 (idA sh sl).toList) := y1.range76
    have z3 : Hid (W.rangeAt (R + 1 + 1) 0 (idA eh el).toList) := y2.range76
    have hsn : Hid (picks (fun i => bin (ek i).hi (ek i).lo sh sl eh el) (pre ++ [⟨i, hiM⟩]) = if bi then picks (fun i => bin (ek i).hi (ek i).lo sh sl eh el) pre ++ [i] else picks (fun i => bin (ek i).hi (ek i).lo sh sl eh el) pre) := by
      unfold Hid; rw [picks_snoc, hbi]
    obtain ⟨gs, hgs⟩ : ∃ q, q = picks (fun i => bin (ek i).hi (ek i).lo sh sl eh el) pre := ⟨_, rfl⟩
    have hgl : gs.length ≤ M := by rw [hgs]; have := picks_len (fun i => bin (ek i).hi (ek i).lo sh sl eh el) pre; omega
    rw [← hgs] at hsn hi2 hi5
    have y0' : Hid (Blk W R 85 #[.pointer (some ⟨nb, 0, none⟩)]) := y0
    have y3' : Hid (Blk W (R + 1 + 1 + 1) 126 #[.func (.func 15) #[] #[.pointer (some ⟨gB, 0, none⟩), .pointer (some ⟨lB, 0, none⟩)]]) := y3
    have yn' : Hid (Blk W nb 121 (cs.setIfInBounds 24 (.int .i32 1))) := yn
    have yh' : Hid (HeldIn W n0 mo mu mc no nu nc M fo fu fc ek vf) := yh
    have yl' : Hid (W.cell? ⟨lB, 0, none⟩ = some (.int .i64 (limit : Nat))) := yl
    have hi1' : Hid (Blk W gB 122 #[v]) := hi1
    have hi2' : Hid (W.ownsRow (R + 4 + 2) 125 3 v gs.length (recs ek vf gs)) := hi2
    have hi3' : Hid (Fr gB none (R + 4 + 2) W0 W) := hi3
    have hi5' : Hid (limit = 0 ∨ gs.length < limit) := hi5
    have hi4' : Hid (R + 4 + 2 ≤ W.heap.size) := hi4
    clear hbk y0 y1 y2 y3 yn yh yl hbi hby1 hgs hi1 hi2 hi3 hi4 hi5 hbx hlen hl hBx
    cases bi with
    | false =>
      gi_wp2_with (first
        | ((with_reducible refine wpListIn_load76m _ (o := ⟨some 27, _, _, _, _, _⟩) ?_ (.tmp 11) ?_ Bx 0 (ek i).hi (ek i).lo ?_ z1.out ?_); (· rfl); (· rfl); (· rfl))
        | ((with_reducible refine wpListIn_load76m _ (o := ⟨some 28, _, _, _, _, _⟩) ?_ (.tmp 6) ?_ (R + 1) 0 sh sl ?_ z2.out ?_); (· rfl); (· rfl); (· rfl))
        | ((with_reducible refine wpListIn_load76m _ (o := ⟨some 29, _, _, _, _, _⟩) ?_ (.tmp 7) ?_ (R + 1 + 1) 0 eh el ?_ z3.out ?_); (· rfl); (· rfl); (· rfl))
        | (refine ⟨trivial, ?_⟩; gi_at_call 26; refine (CallsIn.inRound l (callsIn_wide.2 hcall.out)).mono ?_; rintro e w2 ⟨rfl, hq⟩))
      refine ⟨keepsFrom_below _ hq, KeepS.of_below hq, ?_⟩
      dsimp only
      rw [hsn.out]
      exact ⟨GotI.below ⟨v, hi1'.out, hi2'.out, hi3'.out, hi4'.out⟩ hq, hi5'.out⟩
    | true =>
      obtain ⟨g, hg1, hg2, hg3⟩ := yh'.out.each i hiM
      have hgW : g < W.heap.size := hg3.lt
      have hcl : Hid (∀ x, Below W.heap.size W x → Calls Yba.prog 27 #[.pointer (some ⟨nb, 0, none⟩), .string (ek i).key] x fun ex w' => ex = .returned (.pointer (some ⟨g, 0, none⟩)) ∧ x = w') := fun x hx => by
        have hnx := yn'.out.below hx yn'.out.lt
        have hm := yh'.out
        refine (heldLocked_calls nb mo mu mc no nu nc g fo fu fc (ek i).key x ?_ ?_ ?_ (hm.o.below hx hm.o.lt) (hm.u.below hx hm.u.lt) (hm.c.below hx hm.c.lt) (hsz'.out i hiM) hg1).mono fun _ _ h => ⟨h.1, h.2.symm⟩
        · rw [hnx.cell, Array.getElem?_setIfInBounds_ne (by omega)]; exact k56'.out
        · rw [hnx.cell, Array.getElem?_setIfInBounds_ne (by omega)]; exact k57'.out
        · rw [hnx.cell, Array.getElem?_setIfInBounds_ne (by omega)]; exact k58'.out
      have hg3' : Hid (Blk W g 84 (heldA (ek i) (vf i))) := hg3
      have hcell0 : Hid (∀ x, Below W.heap.size W x → x.cell? ⟨R, 0, none⟩ = some (.pointer (some ⟨nb, 0, none⟩))) := fun x hx => by rw [(y0'.out.below hx y0'.out.lt).cell]; rfl
      have hnW : nb < W.heap.size := yn'.out.lt
      clear hg1 hg3
      gi_wp2_with (first
        | ((with_reducible refine wpListIn_load76m _ (o := ⟨some 27, _, _, _, _, _⟩) ?_ (.tmp 11) ?_ Bx 0 (ek i).hi (ek i).lo ?_ z1.out ?_); (· rfl); (· rfl); (· rfl))
        | ((with_reducible refine wpListIn_load76m _ (o := ⟨some 28, _, _, _, _, _⟩) ?_ (.tmp 6) ?_ (R + 1) 0 sh sl ?_ z2.out ?_); (· rfl); (· rfl); (· rfl))
        | ((with_reducible refine wpListIn_load76m _ (o := ⟨some 29, _, _, _, _, _⟩) ?_ (.tmp 7) ?_ (R + 1 + 1) 0 eh el ?_ z3.out ?_); (· rfl); (· rfl); (· rfl))
        | (refine ⟨trivial, ?_⟩; gi_at_call 27; refine (CallsIn.inRound l (callsIn_wide.2 (hcl.out _ hq'.out))).mono ?_; rintro e w3 ⟨rfl, rfl⟩)
        | (refine ⟨trivial, ?_⟩; gi_at_call 26; refine (CallsIn.inRound l (callsIn_wide.2 hcall.out)).mono ?_; rintro e w2 ⟨rfl, hq⟩; have hq' : Hid (Below W.heap.size W w2) := hq; have d0 := hcell0.out w2 hq; clear hq))
      have hgb2 := hg3'.out.below hq'.out hgW
      have d20 : w2.cell? ⟨g, 20, none⟩ = some (.slice (ek i).va (ek i).vn (ek i).vc) := by rw [hgb2.cell]; rfl
      have d21 : w2.cell? ⟨g, 21, none⟩ = some (.int .u64 (vf i : Nat)) := by rw [hgb2.cell]; rfl
      have d3 : w2.cell? ⟨R + 1 + 1 + 1, 0, none⟩ = some (.func (.func 15) #[] #[.pointer (some ⟨gB, 0, none⟩), .pointer (some ⟨lB, 0, none⟩)]) := by rw [(y3'.out.below hq'.out y3'.out.lt).cell]; rfl
      have hown2 : w2.ownsRow (R + 4 + 2) 125 3 v gs.length (recs ek vf gs) := by
        obtain ⟨v9, t1, t2, t3, t4⟩ := GotI.below (W0 := W0) (gB := gB) (B := R + 4 + 2) (ek := ek) (vf := vf) (gs := gs) ⟨v, hi1'.out, hi2'.out, hi3'.out, hi4'.out⟩ hq'.out
        exact owns_other hi2'.out (fun k hk => hq'.out.block k (by
          rcases hi2'.out.2 with ⟨rfl, _⟩ | ⟨gg, cap, cur, rfl, hgb, hh, _⟩
          · simp [Value.ownBlock] at hk
          · simp [Value.ownBlock] at hk; subst hk; exact Blk.lt (T := 125) (cs := cur) hh))
      have hgot2 : Blk w2 gB 122 #[v] := hi1'.out.below hq'.out hi1'.out.lt
      have hlim2 : w2.cell? ⟨lB, 0, none⟩ = some (.int .i64 (limit : Nat)) := by rw [hq'.out.cell (by exact lt_of_cell yl'.out)]; exact yl'.out
      have hfr2 : Fr gB none (R + 4 + 2) W0 w2 := hi3'.out.trans (Fr.of_below (hq'.out.mono hi4'.out))
      have htake : Hid (Calls Yba.prog 15 #[.agg #[.string (ek i).key, .slice (ek i).va (ek i).vn (ek i).vc, .int .u64 (vf i : Nat)], .pointer (some ⟨gB, 0, none⟩), .pointer (some ⟨lB, 0, none⟩)] w2.drew fun ex w' =>
          ex = .returned (.bool (decide (gs.length + 1 ≠ limit))) ∧ ∃ v', Blk w' gB 122 #[v'] ∧ w'.ownsRow (R + 4 + 2) 125 3 v' (gs.length + 1) (recs ek vf gs ++ [.string (ek i).key, .slice (ek i).va (ek i).vn (ek i).vc, .int .u64 (vf i : Nat)]) ∧ Fr gB v.ownBlock w2.drew.heap.size w2.drew w') :=
        take_calls gB lB (R + 4 + 2) gs.length limit v (recs ek vf gs) (ek i).key (ek i).va (ek i).vn (ek i).vc (vf i) w2.drew hgot2 hown2 hlim2 (by omega) (by omega) hlg (Nat.le_trans hi4'.out hq'.out.size) (by omega)
      have hown2' : Hid (w2.ownsRow (R + 4 + 2) 125 3 v gs.length (recs ek vf gs)) := hown2
      have hgot2' : Hid (Blk w2 gB 122 #[v]) := hgot2
      have hfr2' : Hid (Fr gB none (R + 4 + 2) W0 w2) := hfr2
      have hgl2 : g < w2.heap.size := hgb2.lt
      clear hgb2 hown2 hgot2 hfr2 hlim2 hcl hcall hcell0 d0
      have hmix : Yba.prog.follows .mixedOrders = true := by kernel_rfl
      have hS2 : Hid (w2.drew.cell? ⟨R + 1 + 1 + 1, 0, none⟩ = some (.func (.func 15) #[] #[.pointer (some ⟨gB, 0, none⟩), .pointer (some ⟨lB, 0, none⟩)]) ∧ w2.drew.cell? ⟨g, 20, none⟩ = some (.slice (ek i).va (ek i).vn (ek i).vc) ∧ w2.drew.cell? ⟨g, 21, none⟩ = some (.int .u64 (vf i : Nat))) := ⟨d3, d20, d21⟩
      clear d3 d20 d21
      refine region_round (S := fun x => x.cell? ⟨R + 1 + 1 + 1, 0, none⟩ = some (.func (.func 15) #[] #[.pointer (some ⟨gB, 0, none⟩), .pointer (some ⟨lB, 0, none⟩)]) ∧ x.cell? ⟨g, 20, none⟩ = some (.slice (ek i).va (ek i).vn (ek i).vc) ∧ x.cell? ⟨g, 21, none⟩ = some (.int .u64 (vf i : Nat))) hmix (by kernel_rfl) (fun hlo => by obtain ⟨_, _, hh⟩ := hlo; exact hh) ?_
      refine wpAnyH_take (i := 0) (oi := ⟨some 35, _, _, _, _, _⟩) (v := .func (.func 15) #[] #[.pointer (some ⟨gB, 0, none⟩), .pointer (some ⟨lB, 0, none⟩)]) rfl (by kernel_rfl) (by kernel_rfl) (by kernel_rfl) (fun _ _ _ h => h) (Or.inl ⟨by rfl, ?_⟩) hS2.out ?_
      · intro wz hSz
        obtain ⟨s1, s2, s3⟩ := hSz
        go_simp
      dsimp only [Act.put, List.setIfInBounds_toArray, List.set_cons_succ, List.set_cons_zero]
      refine wpAnyH_take (i := 1) (oi := ⟨some 36, _, _, _, _, _⟩) (v := .string (ek i).key) rfl (by kernel_rfl) (by kernel_rfl) (by kernel_rfl) (fun _ _ _ h => h) (Or.inl ⟨by rfl, ?_⟩) hS2.out ?_
      · intro wz hSz
        obtain ⟨s1, s2, s3⟩ := hSz
        go_simp
      dsimp only [Act.put, List.setIfInBounds_toArray, List.set_cons_succ, List.set_cons_zero]
      refine wpAnyH_take (i := 2) (oi := ⟨some 37, _, _, _, _, _⟩) (v := .pointer (some ⟨g, 0, none⟩)) rfl (by kernel_rfl) (by kernel_rfl) (by kernel_rfl) (fun _ _ _ h => h) (Or.inl ⟨by rfl, ?_⟩) hS2.out ?_
      · intro wz hSz
        obtain ⟨s1, s2, s3⟩ := hSz
        go_simp
      dsimp only [Act.put, List.setIfInBounds_toArray, List.set_cons_succ, List.set_cons_zero]
      refine wpAnyH_take (i := 3) (oi := ⟨some 38, _, _, _, _, _⟩) (v := .pointer (some ⟨g, 0, none⟩)) rfl (by kernel_rfl) (by kernel_rfl) (by kernel_rfl) (fun _ _ _ h => h) (Or.inl ⟨by rfl, ?_⟩) hS2.out ?_
      · intro wz hSz
        obtain ⟨s1, s2, s3⟩ := hSz
        go_simp
      dsimp only [Act.put, List.setIfInBounds_toArray, List.set_cons_succ, List.set_cons_zero]
      refine wpAnyH_take (i := 4) (oi := ⟨some 39, _, _, _, _, _⟩) (v := .pointer (some ⟨g, 20, none⟩)) rfl (by kernel_rfl) (by kernel_rfl) (by kernel_rfl) (fun _ _ _ h => h) (Or.inl ⟨by rfl, ?_⟩) hS2.out ?_
      · intro wz hSz
        obtain ⟨s1, s2, s3⟩ := hSz
        go_simp
      dsimp only [Act.put, List.setIfInBounds_toArray, List.set_cons_succ, List.set_cons_zero]
      refine wpAnyH_take (i := 5) (oi := ⟨some 40, _, _, _, _, _⟩) (v := .slice (ek i).va (ek i).vn (ek i).vc) rfl (by kernel_rfl) (by kernel_rfl) (by kernel_rfl) (fun _ _ _ h => h) (Or.inl ⟨by rfl, ?_⟩) hS2.out ?_
      · intro wz hSz
        obtain ⟨s1, s2, s3⟩ := hSz
        go_simp
      dsimp only [Act.put, List.setIfInBounds_toArray, List.set_cons_succ, List.set_cons_zero]
      refine wpAnyH_take (i := 6) (oi := ⟨some 41, _, _, _, _, _⟩) (v := .pointer (some ⟨g, 0, none⟩)) rfl (by kernel_rfl) (by kernel_rfl) (by kernel_rfl) (fun _ _ _ h => h) (Or.inl ⟨by rfl, ?_⟩) hS2.out ?_
      · intro wz hSz
        obtain ⟨s1, s2, s3⟩ := hSz
        go_simp
      dsimp only [Act.put, List.setIfInBounds_toArray, List.set_cons_succ, List.set_cons_zero]
      refine wpAnyH_take (i := 7) (oi := ⟨some 42, _, _, _, _, _⟩) (v := .pointer (some ⟨g, 0, none⟩)) rfl (by kernel_rfl) (by kernel_rfl) (by kernel_rfl) (fun _ _ _ h => h) (Or.inl ⟨by rfl, ?_⟩) hS2.out ?_
      · intro wz hSz
        obtain ⟨s1, s2, s3⟩ := hSz
        go_simp
      dsimp only [Act.put, List.setIfInBounds_toArray, List.set_cons_succ, List.set_cons_zero]
      refine wpAnyH_take (i := 8) (oi := ⟨some 43, _, _, _, _, _⟩) (v := .pointer (some ⟨g, 21, none⟩)) rfl (by kernel_rfl) (by kernel_rfl) (by kernel_rfl) (fun _ _ _ h => h) (Or.inl ⟨by rfl, ?_⟩) hS2.out ?_
      · intro wz hSz
        obtain ⟨s1, s2, s3⟩ := hSz
        go_simp
      dsimp only [Act.put, List.setIfInBounds_toArray, List.set_cons_succ, List.set_cons_zero]
      refine wpAnyH_take (i := 9) (oi := ⟨some 44, _, _, _, _, _⟩) (v := .int .u64 (vf i : Nat)) rfl (by kernel_rfl) (by kernel_rfl) (by kernel_rfl) (fun _ _ _ h => h) (Or.inl ⟨by rfl, ?_⟩) hS2.out ?_
      · intro wz hSz
        obtain ⟨s1, s2, s3⟩ := hSz
        go_simp
      dsimp only [Act.put, List.setIfInBounds_toArray, List.set_cons_succ, List.set_cons_zero]
      refine wpAnyH_take (i := 10) (oi := ⟨some 45, _, _, _, _, _⟩) (v := .agg #[.string (ek i).key, .slice (ek i).va (ek i).vn (ek i).vc, .int .u64 (vf i : Nat)]) rfl (by kernel_rfl) (by kernel_rfl) (by kernel_rfl) (fun _ _ _ h => h) (Or.inl ⟨by rfl, ?_⟩) hS2.out ?_
      · intro wz hSz
        obtain ⟨s1, s2, s3⟩ := hSz
        go_simp
      dsimp only [Act.put, List.setIfInBounds_toArray, List.set_cons_succ, List.set_cons_zero]
      refine wpAnyH_all (rs := [11]) (by kernel_rfl) (by simp) ?_
      intro ii hii
      obtain rfl : ii = 11 := by simpa using hii
      obtain ⟨bq, hbq⟩ : ∃ q, q = decide (gs.length + 1 ≠ limit) := ⟨_, rfl⟩
      rw [← hbq] at htake
      have hbq' : Hid (bq = decide (gs.length + 1 ≠ limit)) := hbq
      clear hbq
      refine wpOp_enter (o := ⟨some 46, _, _, _, _, _⟩) (f := 15) (args := #[.agg #[.string (ek i).key, .slice (ek i).va (ek i).vn (ek i).vc, .int .u64 (vf i : Nat)], .pointer (some ⟨gB, 0, none⟩), .pointer (some ⟨lB, 0, none⟩)]) rfl (by rfl) (by go_simp) htake.out ?_
      rintro e w4 ⟨rfl, v', t1, t2, t3⟩
      have hS4 : Hid (w4.cell? ⟨R + 1 + 1 + 1, 0, none⟩ = some (.func (.func 15) #[] #[.pointer (some ⟨gB, 0, none⟩), .pointer (some ⟨lB, 0, none⟩)]) ∧ w4.cell? ⟨g, 20, none⟩ = some (.slice (ek i).va (ek i).vn (ek i).vc) ∧ w4.cell? ⟨g, 21, none⟩ = some (.int .u64 (vf i : Nat))) := by
        have hsame : ∀ k, k < R + 4 → k ≠ gB → w4.heap[k]? = w2.heap[k]? := fun k hk1 hk2 => t3.block k (by have := hi4'.out; have := hq'.out.size; show k < w2.heap.size; omega) hk2 (own_ge hown2'.out (by omega))
        exact ⟨by rw [cell_of_block (hsame _ (by omega) (by omega))]; exact hS2.out.1, by rw [cell_of_block (hsame g (by omega) (by omega))]; exact hS2.out.2.1, by rw [cell_of_block (hsame g (by omega) (by omega))]; exact hS2.out.2.2⟩
      have t3' : Fr gB v.ownBlock w2.heap.size w2 w4 := ⟨t3.os, t3.tape, t3.output, t3.size, t3.block⟩
      have hgi : Hid (GotI W0 gB (R + 4 + 2) ek vf (gs ++ [i]) w4) := GotI.took (i := i) (W' := w4) hown2'.out hfr2'.out (Nat.le_trans hi4'.out hq'.out.size) t1 t2 t3'
      have hkf : Hid (KeepsFrom W0.heap.size W w4) := by
        unfold Hid; rw [hs0.out]; exact (keepsFrom_below _ hq'.out).trans (keepsFrom_took hgot2'.out hown2'.out t3')
      have hks : Hid (KeepS n0 (R + 4) (R + 4 + 1) W w4) := (KeepS.of_below hq'.out).trans (keepS_took hown2'.out t3' hgB (by omega) (by omega) (by omega) (by omega) (by omega))
      clear t1 t2 t3 t3'
      refine ⟨_, rfl, hS4.out, ?_⟩
      dsimp only [Act.put, List.setIfInBounds_toArray, List.set_cons_succ, List.set_cons_zero]
      refine wpAnyH_take (i := 12) (oi := ⟨some 47, _, _, _, _, _⟩) (v := .bool (!bq)) rfl (by kernel_rfl) (by kernel_rfl) (by kernel_rfl) (fun _ _ _ h => h) (Or.inl ⟨by rfl, ?_⟩) hS4.out ?_
      · intro wz hSz
        go_simp
      dsimp only [Act.put, List.setIfInBounds_toArray, List.set_cons_succ, List.set_cons_zero]
      refine wpAnyH_done (by kernel_rfl) ?_ _
      simp only [List.setIfInBounds_toArray, List.set_cons_succ, List.set_cons_zero]
      cases bq with
      | true =>
        have hne : gs.length + 1 ≠ limit := of_decide_eq_true hbq'.out.symm
        clear hbq'
        gi_wp2
        refine ⟨hkf.out, hks.out, ?_⟩
        dsimp only
        rw [hsn.out]
        refine ⟨hgi.out, ?_⟩
        have := hi5'.out
        simp only [if_true, List.length_append, List.length_singleton]
        omega
      | false =>
        have heq : gs.length + 1 = limit := by
          have := of_decide_eq_false hbq'.out.symm
          omega
        clear hbq'
        gi_wp2
        refine ⟨hkf.out, ?_⟩
        dsimp only
        rw [hsn.out]
        exact ⟨hgi.out, rfl, by omega, by simp only [if_true, List.length_append, List.length_singleton]; exact heq⟩
  case done =>
    rintro D xs W hD hxs ⟨hgi, hlm⟩ hK
    have hv : picks (fun i => bin (ek i).hi (ek i).lo sh sl eh el) xs = (List.range' p0 (M - p0)).filter (fun i => bin (ek i).hi (ek i).lo sh sl eh el) := by
      rw [hxs]; unfold picks; rw [upto_val (by have := hp0'.out.1; omega)]
    rw [hv] at hgi hlm
    have hL := hleave.out
    clear hxs hv
    gi_wp2
    exact hL _ W D _ hgi hD hK (Or.inr ⟨rfl, hlm⟩)
  case stop =>
    rintro D c pre W hD ⟨k, hk1, hk2⟩ ⟨hgi, rfl, hlm, hlq⟩ hK
    have hv : picks (fun i => bin (ek i).hi (ek i).lo sh sl eh el) pre = (List.range' p0 k).filter (fun i => bin (ek i).hi (ek i).lo sh sl eh el) := by
      rw [hk2]; unfold picks; rw [upto_val hk1]
    rw [hv] at hgi hlq
    have hL := hleave.out
    clear hk2 hv
    gi_wp2
    exact hL _ W D _ hgi hD hK (Or.inl ⟨k, hk1, rfl, hlq, hlm⟩)
end Go.Proofs.Ybulkeeeq
