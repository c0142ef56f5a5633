import Derived.Test.YbulkeeeqIter
import Derived.Deep.RegionLaw
namespace Go.Proofs.Ybulkeeeq
open Go.RowKit
set_option linter.unusedVariables false

theorem Blk.setCells {g : Nat} {T : TypeId} : ∀ (vs : List Value) (o : Nat) (w : World) (cs : Array Value), Blk w g T cs → o + vs.length ≤ cs.size →
    ∃ cs', Blk (w.setCells g o vs) g T cs' ∧ cs'.size = cs.size ∧ (∀ j, j < vs.length → cs'[o + j]? = vs[j]?) ∧ (∀ j, (j < o ∨ o + vs.length ≤ j) → cs'[j]? = cs[j]?)
  | [], o, w, cs, h, _ => ⟨cs, h, rfl, fun j hj => by simp at hj, fun j _ => rfl⟩
  | v :: r, o, w, cs, h, hl => by
    simp at hl
    obtain ⟨cs', h1, h2, h3, h4⟩ := Blk.setCells r (o + 1) (w.setCell ⟨g, o, none⟩ v) (cs.setIfInBounds o v) (h.set o v) (by simp; omega)
    refine ⟨cs', h1, by simpa using h2, fun j hj => ?_, fun j hj => ?_⟩
    · cases j with
      | zero => rw [Nat.add_zero, h4 o (Or.inl (by omega)), Array.getElem?_setIfInBounds_self_of_lt (by omega)]; rfl
      | succ j =>
        have := h3 j (by simp at hj; omega)
        rw [show o + (j + 1) = o + 1 + j by omega, this]; rfl
    · simp at hj
      rw [h4 j (by omega), Array.getElem?_setIfInBounds_ne (by omega)]
theorem Only.setCells {g : Nat} : ∀ (vs : List Value) (o : Nat) (w : World), Only g w (w.setCells g o vs)
  | [], o, w => Only.refl g w
  | v :: r, o, w => ((Only.refl g w).setCell o v).trans (Only.setCells r (o + 1) (w.setCell ⟨g, o, none⟩ v))

/-- append where there is room: the block stays. -/
theorem room_run {P : Program} {w : World} {t ty e : TypeId} {i : TypeInfo} {size : Nat} (h1 : P.underlying t = some (.slice e)) (h2 : P.info? e = some i) (h4 : i.size = size) {g n cap : Nat} {cur : Array Value} (hb : Blk w g e cur) (hsz : cur.size = cap * size)
    {ad : Addr} {m c : Nat} {news : List Value} (hn : news.length = m * size) (hc : ∀ j u, news[j]? = some u → w.cell? (ad.add j) = some u) (h1c : ∀ u ∈ news, u.oneCell' = true) (hroom : n + m ≤ cap) :
    ∃ w' cs', (Builtin.append_ #[t, t] ty #[.slice (some ⟨g, 0, none⟩) n cap, .slice (some ad) m c]).run P w = .ok (.slice (some ⟨g, 0, none⟩) (n + m) cap) w' ∧ Blk w' g e cs' ∧ cs'.size = cap * size ∧ (∀ j, j < news.length → cs'[n * size + j]? = news[j]?) ∧ (∀ j, j < n * size → cs'[j]? = cur[j]?) ∧ Only g w w' := by
  have hle : n * size + news.length ≤ cur.size := by rw [hn, hsz, ← Nat.add_mul]; exact Nat.mul_le_mul_right _ hroom
  subst h4
  have hrun := run_append_room_cells (P := P) w t ty e i h1 h2 g 0 n cap ad m c news hn hc h1c hroom (fun j hj => by rw [Nat.zero_add, hb.cell, Array.getElem?_eq_getElem (by omega)]; rfl) (fun j hj => hb.frozen _)
  rw [Nat.zero_add] at hrun
  obtain ⟨cs', k1, k2, k3, k4⟩ := Blk.setCells news (n * i.size) w cur hb hle
  exact ⟨_, cs', hrun, k1, by rw [k2, hsz], k3, fun j hj => k4 j (Or.inl hj), Only.setCells news _ w⟩

theorem wpList_append_room {P : Program} (w : World) {ops : Array Oper} {rest : List Oper} {o : Oper} {a : Act} {Q : Exit → Act → World → Prop}
    (hg : o.guard = none) (s x : Operand) (t : TypeId) (hop : o.op = Op.call { callee := Callee.builtin Builtin.append, args := #[s, x], argTypes := #[t, t] })
    (e : TypeId) (i : TypeInfo) (size : Nat) (h1 : P.underlying t = some (.slice e)) (h2 : P.info? e = some i) (h4 : i.size = size)
    (g n cap : Nat) (cur : Array Value) (hs : a.eval s = .slice (some ⟨g, 0, none⟩) n cap) (hb : Blk w g e cur) (hsz : cur.size = cap * size)
    (ad : Addr) (m c : Nat) (news : List Value) (hx : a.eval x = .slice (some ad) m c) (hn : news.length = m * size) (hc : ∀ j u, news[j]? = some u → w.cell? (ad.add j) = some u) (h1c : ∀ u ∈ news, u.oneCell' = true) (hroom : n + m ≤ cap)
    (hK : ∀ w' cs', Blk w' g e cs' → cs'.size = cap * size → Hid (∀ j, j < news.length → cs'[n * size + j]? = news[j]?) → Hid (∀ j, j < n * size → cs'[j]? = cur[j]?) → Only g w w' → wpList P ops Q rest (a.put o.dst (.slice (some ⟨g, 0, none⟩) (n + m) cap)) w') :
    wpList P ops Q (o :: rest) a w := by
  refine wpList_plain hg fun K hK' => ?_
  obtain ⟨w', cs', hrun, r1, r2, r3, r4, r5⟩ := room_run (P := P) (w := w) (ty := o.type) h1 h2 h4 hb hsz hn hc h1c hroom (ad := ad) (c := c)
  unfold Oper.wp
  simp [execOp, hop, resolve, invoke, builtin, hs, hx, hrun, Result.andThen]
  exact hK' _ _ (hK w' cs' r1 r2 r3 r4 r5)

theorem step_append_roomB {P : Program} {ops : Array Oper} {o : Oper} {a : Act} {w : World} {K : Act → World → Prop} {Q : Exit → Act → World → Prop} {E : Prop}
    (hg : o.guard = none) (s x : Operand) (t : TypeId) (hop : o.op = Op.call { callee := Callee.builtin Builtin.append, args := #[s, x], argTypes := #[t, t] })
    (e : TypeId) (i : TypeInfo) (size : Nat) (h1 : P.underlying t = some (.slice e)) (h2 : P.info? e = some i) (h4 : i.size = size)
    (g n cap : Nat) (cur : Array Value) (hs : a.eval s = .slice (some ⟨g, 0, none⟩) n cap) (hb : Blk w g e cur) (hsz : cur.size = cap * size)
    (ad : Addr) (m c : Nat) (news : List Value) (hx : a.eval x = .slice (some ad) m c) (hn : news.length = m * size) (hc : ∀ j u, news[j]? = some u → w.cell? (ad.add j) = some u) (h1c : ∀ u ∈ news, u.oneCell' = true) (hroom : n + m ≤ cap)
    (hK : ∀ w' cs', Blk w' g e cs' → cs'.size = cap * size → Hid (∀ j, j < news.length → cs'[n * size + j]? = news[j]?) → Hid (∀ j, j < n * size → cs'[j]? = cur[j]?) → Only g w w' → K (a.put o.dst (.slice (some ⟨g, 0, none⟩) (n + m) cap)) w') :
    if Region.wanted o (yielded ops a.tmps) = true then Oper.wp P o a w K Q else E := by
  have hw : Region.wanted o (yielded ops a.tmps) = true := by simp [Region.wanted, hg]
  rw [if_pos hw]
  obtain ⟨w', cs', hrun, r1, r2, r3, r4, r5⟩ := room_run (P := P) (w := w) (ty := o.type) h1 h2 h4 hb hsz hn hc h1c hroom (ad := ad) (c := c)
  unfold Oper.wp
  simp [execOp, hop, resolve, invoke, builtin, hs, hx, hrun, Result.andThen]
  exact hK w' cs' r1 r2 r3 r4 r5

/-! ### The model's rows -/
def pC (e : Ev) (r : Nat) : Value := if r = 0 then .int .i64 e.t else if r = 1 then .int .u64 e.seq else if r = 2 then .int .i64 e.id else if r = 3 then .bool e.child else .int .u8 e.d
theorem pC_one (e : Ev) (r : Nat) : (pC e r).oneCell' = true := by
  unfold pC; split
  · rfl
  · split
    · rfl
    · split
      · rfl
      · split <;> rfl
/-- Block g holds the n that are to come. -/
def PRow (w : World) (g cap n : Nat) (f : Nat → Ev) : Prop := ∃ cs, Blk w g 56 cs ∧ cs.size = cap * 5 ∧ n ≤ cap ∧ Hid (∀ j r, j < n → r < 5 → cs[j * 5 + r]? = some (pC (f j) r))
theorem PRow.cell {w : World} {g cap n : Nat} {f : Nat → Ev} (h : PRow w g cap n f) {j r : Nat} (hj : j < n) (hr : r < 5) : w.cell? ⟨g, j * 5 + r, none⟩ = some (pC (f j) r) := by
  obtain ⟨cs, h1, _, _, h2⟩ := h; rw [h1.cell]; exact h2.out j r hj hr
theorem PRow.snoc {w' : World} {g cap n : Nat} {f : Nat → Ev} {cs cs' : Array Value} {e : Ev} (hb : Blk w' g 56 cs') (hs : cs'.size = cap * 5) (hn : n + 1 ≤ cap) (h0 : ∀ j r, j < n → r < 5 → cs[j * 5 + r]? = some (pC (f j) r))
    (h1 : ∀ j, j < 5 → cs'[n * 5 + j]? = [Value.int .i64 e.t, .int .u64 e.seq, .int .i64 e.id, .bool e.child, .int .u8 e.d][j]?) (h2 : ∀ j, j < n * 5 → cs'[j]? = cs[j]?) : PRow w' g cap (n + 1) (upd f n e) := by
  refine ⟨cs', hb, hs, hn, fun j r hj hr => ?_⟩
  by_cases e1 : j = n
  · subst e1
    rw [upd_self, h1 r hr]
    match r, hr with
    | 0, _ => rfl
    | 1, _ => rfl
    | 2, _ => rfl
    | 3, _ => rfl
    | 4, _ => rfl
  · rw [upd_ne f e e1, h2 _ (by omega)]; exact h0 j r (by omega) hr
theorem PRow.congr {w : World} {g cap n : Nat} {f f' : Nat → Ev} (h : PRow w g cap n f) (hf : ∀ j, j < n → f j = f' j) : PRow w g cap n f' := by
  obtain ⟨cs, h1, h2, h3, h4⟩ := h
  exact ⟨cs, h1, h2, h3, fun j r hj hr => by rw [← hf j hj]; exact h4.out j r hj hr⟩
/-- The cells behind place k. -/
def tailP (f : Nat → Ev) (k : Nat) : Nat → List Value
  | 0 => []
  | n + 1 => tailP f k n ++ [.int .i64 (f (k + n)).t, .int .u64 (f (k + n)).seq, .int .i64 (f (k + n)).id, .bool (f (k + n)).child, .int .u8 (f (k + n)).d]
theorem tailP_len (f : Nat → Ev) (k : Nat) : ∀ n, (tailP f k n).length = n * 5
  | 0 => rfl
  | n + 1 => by simp only [tailP, List.length_append, tailP_len f k n]; simp; omega
theorem tailP_get (f : Nat → Ev) (k : Nat) : ∀ n j r, j < n → r < 5 → (tailP f k n)[j * 5 + r]? = some (pC (f (k + j)) r)
  | 0, j, r, hj, hr => by omega
  | n + 1, j, r, hj, hr => by
    simp only [tailP]
    by_cases e : j = n
    · subst e
      rw [List.getElem?_append_right (by rw [tailP_len]; omega), tailP_len, show j * 5 + r - j * 5 = r by omega]
      match r, hr with
      | 0, _ => rfl
      | 1, _ => rfl
      | 2, _ => rfl
      | 3, _ => rfl
      | 4, _ => rfl
    · rw [List.getElem?_append_left (by rw [tailP_len]; omega)]
      exact tailP_get f k n j r (by omega) hr
theorem tailP_get' (f : Nat → Ev) (k n i : Nat) (hi : i < n * 5) : (tailP f k n)[i]? = some (pC (f (k + i / 5)) (i % 5)) := by
  have := tailP_get f k n (i / 5) (i % 5) (by omega) (Nat.mod_lt _ (by omega))
  rw [show i / 5 * 5 + i % 5 = i by omega] at this
  exact this
theorem tailP_one (f : Nat → Ev) (k n : Nat) : ∀ u ∈ tailP f k n, u.oneCell' = true := by
  intro u hu
  obtain ⟨j, hj⟩ := List.getElem?_of_mem hu
  have hl : j < n * 5 := by rw [← tailP_len f k n]; exact (List.getElem?_eq_some_iff.1 hj).1
  rw [tailP_get' f k n j hl] at hj
  cases hj
  exact pC_one _ _
theorem PRow.tail {w : World} {g cap n k q : Nat} {f : Nat → Ev} (h : PRow w g cap n f) (hk : k ≤ n) (hq : k < n → q = k * 5) : ∀ j u, (tailP f k (n - k))[j]? = some u → w.cell? ((⟨g, q, none⟩ : Addr).add j) = some u := by
  intro j u hj
  have hl : j < (n - k) * 5 := by rw [← tailP_len f k (n - k)]; exact (List.getElem?_eq_some_iff.1 hj).1
  rw [tailP_get' f k (n - k) j hl] at hj
  rw [WideShapes.add_plain, hq (by omega), show k * 5 + j = (k + j / 5) * 5 + j % 5 by omega, h.cell (by omega) (Nat.mod_lt _ (by omega))]
  exact hj
/-- One is taken out. -/
theorem PRow.del {w' : World} {g cap n m : Nat} {f : Nat → Ev} {cs cs' : Array Value} (hb : Blk w' g 56 cs') (hs : cs'.size = cap * 5) (hn : n ≤ cap) (hm : m < n) (h0 : ∀ j r, j < n → r < 5 → cs[j * 5 + r]? = some (pC (f j) r))
    (h1 : ∀ j, j < (tailP f (m + 1) (n - (m + 1))).length → cs'[m * 5 + j]? = (tailP f (m + 1) (n - (m + 1)))[j]?) (h2 : ∀ j, j < m * 5 → cs'[j]? = cs[j]?) : PRow w' g cap (n - 1) (del f m) := by
  refine ⟨cs', hb, hs, by omega, fun j r hj hr => ?_⟩
  by_cases e : j < m
  · rw [h2 _ (by omega), h0 j r (by omega) hr]; simp [Ybulkeeeq.del, e]
  · have := h1 ((j - m) * 5 + r) (by rw [tailP_len]; omega)
    rw [show m * 5 + ((j - m) * 5 + r) = j * 5 + r by omega, tailP_get f (m + 1) _ (j - m) r (by omega) hr] at this
    rw [this]; simp [Ybulkeeeq.del, e]
    congr 2; omega
/-- Block g holds the n records lg. -/
def WRow (w : World) (g cap n : Nat) (lg : List Value) : Prop := ∃ cs, Blk w g 59 cs ∧ cs.size = cap * 3 ∧ n ≤ cap ∧ lg.length = n * 3 ∧ Hid (∀ j, j < n * 3 → cs[j]? = lg[j]?)
theorem WRow.snoc {w' : World} {g cap n : Nat} {lg : List Value} {cs cs' : Array Value} {x y z : Value} (hb : Blk w' g 59 cs') (hs : cs'.size = cap * 3) (hn : n + 1 ≤ cap) (hl : lg.length = n * 3) (h0 : ∀ j, j < n * 3 → cs[j]? = lg[j]?)
    (h1 : ∀ j, j < 3 → cs'[n * 3 + j]? = [x, y, z][j]?) (h2 : ∀ j, j < n * 3 → cs'[j]? = cs[j]?) : WRow w' g cap (n + 1) (lg ++ [x, y, z]) := by
  refine ⟨cs', hb, hs, hn, by simp [hl]; omega, fun j hj => ?_⟩
  by_cases e : j < n * 3
  · rw [h2 j e, h0 j e, List.getElem?_append_left (by omega)]
  · have := h1 (j - n * 3) (by omega)
    rw [show n * 3 + (j - n * 3) = j by omega] at this
    rw [this, List.getElem?_append_right (by omega), hl]
theorem PRow.of_block {w w' : World} {g cap n : Nat} {f : Nat → Ev} (h : PRow w g cap n f) (hb : w'.heap[g]? = w.heap[g]?) : PRow w' g cap n f := by
  obtain ⟨cs, h1, h2⟩ := h; exact ⟨cs, h1.of_block hb, h2⟩
theorem WRow.of_block {w w' : World} {g cap n : Nat} {lg : List Value} (h : WRow w g cap n lg) (hb : w'.heap[g]? = w.heap[g]?) : WRow w' g cap n lg := by
  obtain ⟨cs, h1, h2⟩ := h; exact ⟨cs, h1.of_block hb, h2⟩
theorem PRow.lt {w : World} {g cap n : Nat} {f : Nat → Ev} (h : PRow w g cap n f) : g < w.heap.size := by obtain ⟨cs, h1, _⟩ := h; exact h1.lt
theorem WRow.lt {w : World} {g cap n : Nat} {lg : List Value} (h : WRow w g cap n lg) : g < w.heap.size := by obtain ⟨cs, h1, _⟩ := h; exact h1.lt
end Go.Proofs.Ybulkeeeq
