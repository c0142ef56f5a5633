import Derived.WalkKit
import Derived.WalkSpells
import Derived.WalkLawsBesides
import Derived.BigQuiet
import Derived.Deep.Cut
import Derived.Deep.CutBlock
import Derived.Deep.Light
import Derived.Deep.RegionLaw
import Derived.Deep.RegionWith
import Derived.OwnWalk
import Derived.KernelRfl
namespace Go.Proofs.Ybulkeeeq
open Go.RowKit

/-- Block g of the world is a plain row of cells, none of them frozen. -/
def Blk (w : World) (g : Nat) (T : TypeId) (cs : Array Value) : Prop := w.heap[g]? = some (.cells cs T (0, 0))

theorem Blk.lt {w : World} {g : Nat} {T : TypeId} {cs : Array Value} (h : Blk w g T cs) : g < w.heap.size := by
  unfold Blk at h
  rcases Nat.lt_or_ge g w.heap.size with h' | h'
  · exact h'
  · rw [Array.getElem?_eq_none h'] at h; cases h
theorem Blk.cell {w : World} {g : Nat} {T : TypeId} {cs : Array Value} (h : Blk w g T cs) (j : Nat) : w.cell? ⟨g, j, none⟩ = cs[j]? := by
  unfold Blk at h; simp [World.cell?, h]
theorem Blk.frozen {w : World} {g : Nat} {T : TypeId} {cs : Array Value} (h : Blk w g T cs) (j : Nat) : w.frozen? ⟨g, j, none⟩ = false := by
  unfold Blk at h; simp [World.frozen?, h]
theorem Blk.set {w : World} {g : Nat} {T : TypeId} {cs : Array Value} (h : Blk w g T cs) (j : Nat) (v : Value) : Blk (w.setCell ⟨g, j, none⟩ v) g T (cs.setIfInBounds j v) := by
  unfold Blk at h ⊢; simp [World.setCell, Array.getElem?_modify, h]
theorem Blk.setOther {w : World} {g : Nat} {T : TypeId} {cs : Array Value} (h : Blk w g T cs) (a : Addr) (v : Value) (hne : g ≠ a.block) : Blk (w.setCell a v) g T cs := by
  unfold Blk at h ⊢; rw [Below.heap_setCell _ _ _ _ hne]; exact h
theorem Blk.alloc {w : World} {g : Nat} {T : TypeId} {cs : Array Value} (h : Blk w g T cs) (o : Obj) : Blk (w.alloc o) g T cs := by
  have := h.lt; unfold Blk at h ⊢; rw [Below.heap_alloc _ _ _ this]; exact h
theorem Blk.drew {w : World} {g : Nat} {T : TypeId} {cs : Array Value} (h : Blk w g T cs) : Blk w.drew g T cs := h
theorem Blk.new (w : World) (T : TypeId) (cs : Array Value) : Blk (w.alloc (.cells cs T)) w.heap.size T cs := by
  unfold Blk; show (w.heap.push _)[_]? = _; simp
theorem Blk.below {w w' : World} {B g : Nat} {T : TypeId} {cs : Array Value} (h : Blk w g T cs) (hb : Below B w w') (hg : g < B) : Blk w' g T cs := by
  unfold Blk at h ⊢; rw [hb.block g hg]; exact h

/-- 'make([]T, n)': the new block, whole. -/
theorem wpList_make_blk {P : Program} (w : World) {ops : Array Oper} {rest : List Oper} {o : Oper} {a : Act} {Q : Exit → Act → World → Prop}
    (hg : o.guard = none) (l c : Operand) (t : TypeId) (hop : o.op = Op.makeSlice t l c)
    (e : TypeId) (i : TypeInfo) (z : Value) (size : Nat) (h1 : P.underlying t = some (.slice e)) (h2 : P.info? e = some i) (h3 : i.zero = some z) (h4 : i.size = size)
    (kl kc : IntKind) (L C : Int) (m n : Nat) (hl : a.eval l = .int kl L) (hc : a.eval c = .int kc C) (hL : L = (m : Int)) (hC : C = (n : Int)) (hmn : m ≤ n) (b2 : i.bytes * n ≤ 281474976710656) (b3 : n ≤ maxLen)
    (hK : ∀ w', Blk w' w.heap.size e (madeCells z.cells (n * size)) → w'.heap.size = w.heap.size + 1 → Below w.heap.size w w' → wpList P ops Q rest (a.put o.dst (.slice (some ⟨w.heap.size, 0, none⟩) m n)) w') :
    wpList P ops Q (o :: rest) a w := by
  refine wpList_plain hg fun K hK' => ?_
  have h63' : (n : Int) ≤ 9223372036854775807 := by
    have h := b3
    simp [maxLen] at h
    omega
  have hb' : (i.bytes : Int) * (n : Int) ≤ 281474976710656 := by
    have h : ((i.bytes * n : Nat) : Int) ≤ 281474976710656 := by omega
    rwa [Int.natCast_mul] at h
  have hr := run_make (P := P) w t e i z h1 h2 h3 kl kc m n (by omega) (by omega) hb' h63'
  simp only [Int.toNat_natCast] at hr
  subst hL
  subst hC
  subst h4
  unfold Oper.wp
  simp [execOp, hop, hl, hc, hr, Result.andThen]
  exact hK' _ _ (hK _ (Blk.new _ _ _) (by simp) ((Below.refl _ _).alloc (Nat.le_refl _) _))

/-- Only block g may have turned. -/
structure Only (g : Nat) (w w' : World) : Prop where
  os : w'.os = w.os
  tape : w'.tape = w.tape
  output : w'.output = w.output
  size : w'.heap.size = w.heap.size
  block : ∀ k, k ≠ g → w'.heap[k]? = w.heap[k]?

theorem Only.refl (g : Nat) (w : World) : Only g w w := ⟨rfl, rfl, rfl, rfl, fun _ _ => rfl⟩
theorem Only.trans {g : Nat} {a b c : World} (h : Only g a b) (k : Only g b c) : Only g a c :=
  ⟨k.os.trans h.os, k.tape.trans h.tape, k.output.trans h.output, k.size.trans h.size, fun i hi => (k.block i hi).trans (h.block i hi)⟩
theorem Only.setCell {g : Nat} {a w : World} (h : Only g a w) (j : Nat) (v : Value) : Only g a (w.setCell ⟨g, j, none⟩ v) :=
  h.trans ⟨rfl, rfl, rfl, by simp [World.setCell], fun k hk => Below.heap_setCell _ _ _ _ hk⟩
theorem Only.drewN {g : Nat} {a w : World} (h : Only g a w) (n : Nat) : Only g a (w.drewN n) := h.trans ⟨rfl, rfl, rfl, rfl, fun _ _ => rfl⟩
theorem Only.drew {g : Nat} {a w : World} (h : Only g a w) : Only g a w.drew := h.trans ⟨rfl, rfl, rfl, rfl, fun _ _ => rfl⟩
theorem Only.below {B g : Nat} {w w' : World} (h : Only g w w') (hB : B ≤ g) : Below B w w' :=
  ⟨h.os, h.tape, h.output, Nat.le_of_eq h.size.symm, fun k hk => h.block k (by omega)⟩
theorem Only.blk {g q : Nat} {w w' : World} (h : Only g w w') {T : TypeId} {cs : Array Value} (hb : Blk w q T cs) (hne : q ≠ g) : Blk w' q T cs := by
  unfold Blk at hb ⊢; rw [h.block q hne]; exact hb


/-- A slice value whose n elements read f, wherever they lie. -/
def Reads (w : World) (a : Option Addr) (n : Nat) (f : Nat → Value) : Prop := ∀ i, i < n → ∃ b off, a = some ⟨b, off, none⟩ ∧ b < w.heap.size ∧ w.cell? ⟨b, off + i, none⟩ = some (f i)

theorem Reads.below {w w' : World} {a : Option Addr} {n : Nat} {f : Nat → Value} (h : Reads w a n f) (hb : Below w.heap.size w w') : Reads w' a n f := by
  intro i hi
  obtain ⟨b, off, e, hlt, hc⟩ := h i hi
  exact ⟨b, off, e, by have := hb.size; omega, by rw [hb.cell (by exact hlt)]; exact hc⟩

/-- The first k cells of a row of n. -/
def RowTo (cs : Array Value) (n : Nat) (f : Nat → Value) (k : Nat) : Prop := cs.size = n ∧ ∀ j, j < k → cs[j]? = some (f j)

theorem RowTo.step {cs : Array Value} {n k : Nat} {f : Nat → Value} (h : RowTo cs n f k) (hk : k < n) : RowTo (cs.setIfInBounds k (f k)) n f (k + 1) := by
  obtain ⟨h1, h2⟩ := h
  refine ⟨by simpa using h1, fun j hj => ?_⟩
  by_cases e : j = k
  · subst e; rw [Array.getElem?_setIfInBounds_self_of_lt (by omega)]
  · rw [Array.getElem?_setIfInBounds_ne (by omega)]; exact h2 j (by omega)

theorem Reads.of_blk {w : World} {g n : Nat} {T : TypeId} {cs : Array Value} {f : Nat → Value} (hb : Blk w g T cs) (h : RowTo cs n f n) : Reads w (some ⟨g, 0, none⟩) n f := by
  intro i hi
  exact ⟨g, 0, rfl, hb.lt, by rw [Nat.zero_add, hb.cell]; exact h.2 i hi⟩


/-- Nothing but draws lies between the two worlds. -/
def Draws (w w' : World) : Prop := ∃ n, w' = w.drewN n
theorem Draws.refl (w : World) : Draws w w := ⟨0, rfl⟩
theorem Draws.drewN {w w' : World} (h : Draws w w') (n : Nat) : Draws w (w'.drewN n) := by
  obtain ⟨m, rfl⟩ := h; exact ⟨m + n, by rw [World.drewN_drewN]⟩
theorem Draws.blk {w w' : World} (h : Draws w w') {g : Nat} {T : TypeId} {cs : Array Value} (hb : Blk w g T cs) : Blk w' g T cs := by
  obtain ⟨m, rfl⟩ := h; exact hb
theorem Draws.cell {w w' : World} (h : Draws w w') {a : Addr} {v : Value} (hb : w.cell? a = some v) : w'.cell? a = some v := by
  obtain ⟨m, rfl⟩ := h; exact hb
theorem Draws.below {w w' w0 : World} {B : Nat} (h : Draws w w') (hb : Below B w0 w) : Below B w0 w' := by
  obtain ⟨m, rfl⟩ := h; exact below_drewN hb m


theorem lt_of_cell {w : World} {a : Addr} {v : Value} (h : w.cell? a = some v) : a.block < w.heap.size := by
  rcases Nat.lt_or_ge a.block w.heap.size with h' | h'
  · exact h'
  · simp [World.cell?, Array.getElem?_eq_none h'] at h

/-- The cells of a slice that came in, as the walks ask them. -/
theorem reads_in {w : World} {x : Addr} {len n : Nat} {f : Nat → Value} (hl : len ≤ n) (hcell : ∀ i, i < n → w.cell? (x.add i) = some (f i)) : Reads w (some x) len f := by
  intro i hi
  obtain ⟨b, off, spot⟩ := x
  have hc := hcell i (by omega)
  have hspot : spot = none := by simpa [Addr.add] using World.cell?_spot (hcell 0 (by omega))
  subst hspot
  rw [WideShapes.add_plain] at hc
  exact ⟨b, off, rfl, lt_of_cell hc, hc⟩

/-- What append's law asks of its source. -/
theorem Reads.news {w : World} {x : Addr} {n : Nat} {f : Nat → Value} (h : Reads w (some x) n f) : ∀ j u, ((List.range n).map f)[j]? = some u → w.cell? (x.add j) = some u := by
  intro j u hj
  simp only [List.getElem?_map, Option.map_eq_some_iff, List.getElem?_eq_some_iff, List.length_range, List.getElem_range] at hj
  obtain ⟨i, ⟨hi, rfl⟩, rfl⟩ := hj
  obtain ⟨b, off, e, _, hc⟩ := h j hi
  simp only [Option.some.injEq] at e
  subst e
  rw [WideShapes.add_plain]; exact hc

/-- What the call owns, read as a slice. -/
theorem Reads.of_owns {w : World} {base : Nat} {e : TypeId} {v : Value} {n : Nat} {f : Nat → Value} (h : w.ownsRow base e 1 v n ((List.range n).map f)) (hv : v ≠ .slice none 0 0) :
    ∃ g c, v = .slice (some ⟨g, 0, none⟩) n c ∧ base ≤ g ∧ g < w.heap.size ∧ Reads w (some ⟨g, 0, none⟩) n f := by
  obtain ⟨hl, h2⟩ := h
  rcases h2 with ⟨h2, _⟩ | ⟨g, cap, cur, rfl, hg, hh, hn, hcap, hsz, htake⟩
  · exact absurd h2 hv
  · have hglt : g < w.heap.size := by
      rcases Nat.lt_or_ge g w.heap.size with h' | h'
      · exact h'
      · rw [Array.getElem?_eq_none h'] at hh; cases hh
    refine ⟨g, cap, rfl, hg, hglt, fun i hi => ⟨g, 0, rfl, hglt, ?_⟩⟩
    have h3 : w.cell? ⟨g, i, none⟩ = cur[i]? := by simp [World.cell?, hh]
    rw [Nat.zero_add, h3]
    have h4 : (cur.toList.take (n * 1))[i]? = some (f i) := by rw [htake]; simp [hi]
    rw [List.getElem?_take, if_pos (by omega)] at h4
    simpa using h4



/-- A block whose first n cells read f. -/
def Row (w : World) (g : Nat) (T : TypeId) (n : Nat) (f : Nat → Value) : Prop := ∃ cs, Blk w g T cs ∧ n ≤ cs.size ∧ ∀ q, q < n → cs[q]? = some (f q)
theorem Row.lt {w : World} {g : Nat} {T : TypeId} {n : Nat} {f : Nat → Value} (h : Row w g T n f) : g < w.heap.size := by
  obtain ⟨cs, h1, _⟩ := h; exact h1.lt
theorem Row.cell {w : World} {g : Nat} {T : TypeId} {n : Nat} {f : Nat → Value} (h : Row w g T n f) {q : Nat} (hq : q < n) : w.cell? ⟨g, q, none⟩ = some (f q) := by
  obtain ⟨cs, h1, h2, h3⟩ := h; rw [h1.cell q]; exact h3 q hq
theorem Row.frozen {w : World} {g : Nat} {T : TypeId} {n : Nat} {f : Nat → Value} (h : Row w g T n f) (q : Nat) : w.frozen? ⟨g, q, none⟩ = false := by
  obtain ⟨cs, h1, h2, h3⟩ := h; exact h1.frozen q
theorem Row.of_block {w w' : World} {g : Nat} {T : TypeId} {n : Nat} {f : Nat → Value} (h : Row w g T n f) (hb : w'.heap[g]? = w.heap[g]?) : Row w' g T n f := by
  obtain ⟨cs, h1, h2, h3⟩ := h
  exact ⟨cs, by unfold Blk at h1 ⊢; rw [hb]; exact h1, h2, h3⟩
theorem Row.below {w w' : World} {B g : Nat} {T : TypeId} {n : Nat} {f : Nat → Value} (h : Row w g T n f) (hb : Below B w w') (hg : g < B) : Row w' g T n f := h.of_block (hb.block g hg)
theorem Row.setOther {w : World} {g : Nat} {T : TypeId} {n : Nat} {f : Nat → Value} (h : Row w g T n f) (a : Addr) (v : Value) (hne : g ≠ a.block) : Row (w.setCell a v) g T n f := h.of_block (Below.heap_setCell _ _ _ _ hne)
theorem Row.set {w : World} {g : Nat} {T : TypeId} {n : Nat} {f : Nat → Value} (h : Row w g T n f) {j : Nat} (hj : j < n) (v : Value) : Row (w.setCell ⟨g, j, none⟩ v) g T n (fun q => if q = j then v else f q) := by
  obtain ⟨cs, h1, h2, h3⟩ := h
  refine ⟨_, h1.set j v, by simpa using h2, fun q hq => ?_⟩
  by_cases e : q = j
  · subst e; rw [Array.getElem?_setIfInBounds_self_of_lt (by omega)]; simp
  · rw [Array.getElem?_setIfInBounds_ne (by omega)]; simp only [e, if_false]; exact h3 q hq
theorem Row.congr {w : World} {g : Nat} {T : TypeId} {n : Nat} {f f' : Nat → Value} (h : Row w g T n f) (hf : ∀ q, q < n → f q = f' q) : Row w g T n f' := by
  obtain ⟨cs, h1, h2, h3⟩ := h
  exact ⟨cs, h1, h2, fun q hq => by rw [h3 q hq, hf q hq]⟩

/-- append onto a slice that the call owns, as one step of a region that draws. -/
theorem step_append_own {P : Program} {ops : Array Oper} {o : Oper} {a : Act} {w : World} {K : Act → World → Prop} {Q : Exit → Act → World → Prop} {E : Prop}
    (hg : o.guard = none) (s x : Operand) (t : TypeId) (hop : o.op = Op.call { callee := Callee.builtin Builtin.append, args := #[s, x], argTypes := #[t, t] })
    (base : Nat) (e : TypeId) (i : TypeInfo) (z : Value) (size bytes : Nat) (h1 : P.underlying t = some (.slice e)) (h2 : P.info? e = some i) (h3 : i.zero = some z) (h4 : i.size = size) (h5 : i.bytes = bytes) (h6 : z.cells.size = size) (h7 : 0 < size)
    (v : Value) (n : Nat) (olds : List Value) (hs : a.eval s = v) (hown : w.ownsRow base e size v n olds)
    (ad : Addr) (m c : Nat) (news : List Value) (hx : a.eval x = .slice (some ad) m c) (hn : news.length = m * size) (hc : ∀ j u, news[j]? = some u → w.cell? (ad.add j) = some u) (h1c : ∀ u ∈ news, u.oneCell' = true)
    (b1 : n + m ≤ maxLen) (b2 : (n + m) * bytes ≤ 140737488355328) (hb : base ≤ w.heap.size)
    (hK : ∀ v' w', w'.ownsRow base e size v' (n + m) (olds ++ news) → w.grownBy w' v.ownBlock → K (a.put o.dst v') w') :
    if Region.wanted o (yielded ops a.tmps) = true then Oper.wp P o a w K Q else E := by
  have hw : Region.wanted o (yielded ops a.tmps) = true := by simp [Region.wanted, hg]
  rw [if_pos hw]
  obtain ⟨v', w', hrun, r1, r2, _⟩ := run_append_own (P := P) w base t o.type e i z size bytes h1 h2 h3 h4 h5 h6 h7 v n olds hown ad m c news hn hc h1c b1 b2 hb
  unfold Oper.wp
  simp [execOp, hop, resolve, invoke, builtin, hs, hx, hrun, Result.andThen]
  exact hK v' w' r1 r2

end Go.Proofs.Ybulkeeeq
