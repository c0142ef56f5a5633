import Derived.Test.YbulkeeeqMem
namespace Go.Proofs.Ybulkeeeq
open Go.RowKit
set_option linter.unusedVariables false

/-- The new row is the old one, or it is new. -/
def Fresh (w : World) (v v' : Value) : Prop := v'.ownBlock = v.ownBlock ∨ ∃ g, v'.ownBlock = some g ∧ w.heap.size ≤ g

theorem ok_inj {α : Type} {v v' : α} {w w' : World} {r : Result α} (h : r = .ok v w) (h' : r = .ok v' w') : v = v' ∧ w = w' := by
  rw [h] at h'; cases h'; exact ⟨rfl, rfl⟩

theorem owns_fresh {w w' : World} {e : TypeId} {size : Nat} {v' : Value} {n : Nat} {xs : List Value} (h : w'.ownsRow w.heap.size e size v' n xs) (hv : v' ≠ .slice none 0 0) : ∃ g, v'.ownBlock = some g ∧ w.heap.size ≤ g := by
  rcases h.2 with ⟨h1, _⟩ | ⟨g, cap, cur, rfl, hg, _⟩
  · exact absurd h1 hv
  · exact ⟨g, rfl, hg⟩

theorem run_append_fresh {P : Program} (w : World) (base : Nat) (t ty e : TypeId) (i : TypeInfo) (z : Value) (size bytes : Nat) (ht : P.underlying t = some (.slice e)) (hi : P.info? e = some i) (hz : i.zero = some z)
    (hsize : i.size = size) (hby : i.bytes = bytes) (hzs : z.cells.size = size) (hsz : 0 < size)
    (v : Value) (n : Nat) (xs : List Value) (hown : w.ownsRow base e size v n xs)
    (a : Addr) (m c : Nat) (news : List Value) (hl : news.length = m * size) (hnews : ∀ j u, news[j]? = some u → w.cell? (a.add j) = some u) (h1 : ∀ u ∈ news, u.oneCell' = true)
    (h63 : n + m ≤ maxLen) (hbytes : (n + m) * bytes ≤ 140737488355328) (hbase : base ≤ w.heap.size) (hm : 0 < m) :
    ∃ v' w', (Builtin.append_ #[t, t] ty #[v, .slice (some a) m c]).run P w = .ok v' w' ∧ w'.ownsRow base e size v' (n + m) (xs ++ news) ∧ w.grownBy w' v.ownBlock ∧ v' ≠ .slice none 0 0 ∧ Fresh w v v' := by
  obtain ⟨v', w', hrun, r1, r2, r3⟩ := run_append_own (P := P) w base t ty e i z size bytes ht hi hz hsize hby hzs hsz v n xs hown a m c news hl hnews h1 h63 hbytes hbase
  have hnn : v' ≠ .slice none 0 0 := fun h => by have := r3.1 h; omega
  refine ⟨v', w', hrun, r1, r2, hnn, ?_⟩
  have hown' := hown
  obtain ⟨hx, h2⟩ := hown'
  rcases h2 with ⟨rfl, rfl⟩ | ⟨g, cap, cur, rfl, hg, hh, hn, hcap, hcs, htake⟩
  · obtain rfl : xs = [] := List.eq_nil_of_length_eq_zero (by simpa using hx)
    obtain ⟨v2, w2, hrun2, q1, q2, q3⟩ := run_append_own (P := P) w w.heap.size t ty e i z size bytes ht hi hz hsize hby hzs hsz (.slice none 0 0) 0 [] (World.ownsRow_nil w _ e size) a m c news hl hnews h1 h63 hbytes (Nat.le_refl _)
    obtain ⟨rfl, rfl⟩ := ok_inj hrun hrun2
    exact Or.inr (owns_fresh q1 hnn)
  · by_cases hroom : n + m ≤ cap
    · have hblk : Blk w g e cur := hh
      have hbound : ∀ j, j < news.length → n * size + j < cap * size := fun j hj => by
        have : (n + m) * size ≤ cap * size := Nat.mul_le_mul_right _ hroom
        rw [Nat.add_mul] at this
        omega
      have hrun2 := run_append_room_cells (P := P) w t ty e i ht hi g 0 n cap a m c news (by rw [hsize]; exact hl) hnews h1 hroom
        (fun j hj => by rw [hsize, Nat.zero_add, hblk.cell, Array.getElem?_eq_getElem (by rw [hcs]; exact hbound j hj)]; rfl)
        (fun j hj => hblk.frozen _)
      obtain ⟨rfl, rfl⟩ := ok_inj hrun hrun2
      exact Or.inl rfl
    · have hblk : Blk w g e cur := hh
      obtain ⟨v2, w2, hrun2, q1, q2⟩ := run_append_arg_grows (P := P) w t ty e i z size bytes ht hi hz hsize hby hzs hsz ⟨g, 0, none⟩ n cap xs hx
        (fun j u hj => by
          rw [WideShapes.add_plain, Nat.zero_add, hblk.cell]
          have hj2 : j < n * size := by rw [← hx]; exact (List.getElem?_eq_some_iff.1 hj).1
          rw [← htake, List.getElem?_take, if_pos hj2] at hj
          simpa using hj)
        a m c news hl hnews (by omega) h63 hbytes
      obtain ⟨rfl, rfl⟩ := ok_inj hrun hrun2
      exact Or.inr (owns_fresh q1 hnn)

/-- append, as one step of a region that draws. -/
theorem step_append_fresh {P : Program} {ops : Array Oper} {o : Oper} {a : Act} {w : World} {K : Act → World → Prop} {Q : Exit → Act → World → Prop} {E : Prop}
    (hg : o.guard = none) (s x : Operand) (t : TypeId) (hop : o.op = Op.call { callee := Callee.builtin Builtin.append, args := #[s, x], argTypes := #[t, t] })
    (base : Nat) (e : TypeId) (i : TypeInfo) (z : Value) (size bytes : Nat) (h1 : P.underlying t = some (.slice e)) (h2 : P.info? e = some i) (h3 : i.zero = some z) (h4 : i.size = size) (h5 : i.bytes = bytes) (h6 : z.cells.size = size) (h7 : 0 < size)
    (v : Value) (n : Nat) (olds : List Value) (hs : a.eval s = v) (hown : w.ownsRow base e size v n olds)
    (ad : Addr) (m c : Nat) (news : List Value) (hx : a.eval x = .slice (some ad) m c) (hn : news.length = m * size) (hc : ∀ j u, news[j]? = some u → w.cell? (ad.add j) = some u) (h1c : ∀ u ∈ news, u.oneCell' = true)
    (b1 : n + m ≤ maxLen) (b2 : (n + m) * bytes ≤ 140737488355328) (hb : base ≤ w.heap.size) (hm : 0 < m)
    (hK : ∀ v' w', w'.ownsRow base e size v' (n + m) (olds ++ news) → w.grownBy w' v.ownBlock → v' ≠ .slice none 0 0 → Fresh w v v' → K (a.put o.dst v') w') :
    if Region.wanted o (yielded ops a.tmps) = true then Oper.wp P o a w K Q else E := by
  have hw : Region.wanted o (yielded ops a.tmps) = true := by simp [Region.wanted, hg]
  rw [if_pos hw]
  obtain ⟨v', w', hrun, r1, r2, r3, r4⟩ := run_append_fresh (P := P) w base t o.type e i z size bytes h1 h2 h3 h4 h5 h6 h7 v n olds hown ad m c news hn hc h1c b1 b2 hb hm
  unfold Oper.wp
  simp [execOp, hop, resolve, invoke, builtin, hs, hx, hrun, Result.andThen]
  exact hK v' w' r1 r2 r3 r4

/-- append, in a region that does not draw. -/
theorem wpList_append_fresh {P : Program} (w : World) {ops : Array Oper} {rest : List Oper} {o : Oper} {a : Act} {Q : Exit → Act → World → Prop}
    (hg : o.guard = none) (s x : Operand) (t : TypeId) (hop : o.op = Op.call { callee := Callee.builtin Builtin.append, args := #[s, x], argTypes := #[t, t] })
    (base : Nat) (e : TypeId) (i : TypeInfo) (z : Value) (size bytes : Nat) (h1 : P.underlying t = some (.slice e)) (h2 : P.info? e = some i) (h3 : i.zero = some z) (h4 : i.size = size) (h5 : i.bytes = bytes) (h6 : z.cells.size = size) (h7 : 0 < size)
    (v : Value) (n : Nat) (olds : List Value) (hs : a.eval s = v) (hown : w.ownsRow base e size v n olds)
    (ad : Addr) (m c : Nat) (news : List Value) (hx : a.eval x = .slice (some ad) m c) (hn : news.length = m * size) (hc : ∀ j u, news[j]? = some u → w.cell? (ad.add j) = some u) (h1c : ∀ u ∈ news, u.oneCell' = true)
    (b1 : n + m ≤ maxLen) (b2 : (n + m) * bytes ≤ 140737488355328) (hb : base ≤ w.heap.size) (hm : 0 < m)
    (hK : ∀ v' w', w'.ownsRow base e size v' (n + m) (olds ++ news) → w.grownBy w' v.ownBlock → v' ≠ .slice none 0 0 → Fresh w v v' → wpList P ops Q rest (a.put o.dst v') w') :
    wpList P ops Q (o :: rest) a w := by
  refine wpList_plain hg fun K hK' => ?_
  obtain ⟨v', w', hrun, r1, r2, r3, r4⟩ := run_append_fresh (P := P) w base t o.type e i z size bytes h1 h2 h3 h4 h5 h6 h7 v n olds hown ad m c news hn hc h1c b1 b2 hb hm
  unfold Oper.wp
  simp [execOp, hop, resolve, invoke, builtin, hs, hx, hrun, Result.andThen]
  exact hK' _ _ (hK v' w' r1 r2 r3 r4)

end Go.Proofs.Ybulkeeeq
