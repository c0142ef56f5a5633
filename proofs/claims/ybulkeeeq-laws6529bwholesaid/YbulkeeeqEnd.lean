import Derived.Test.YbulkeeeqWnt
namespace Go.Proofs.Ybulkeeeq
open Go.RowKit
set_option linter.unusedVariables false

/-- An owned row's value. -/
theorem own_shape {x : World} {T t sz n : Nat} {v : Value} {xs : List Value} (h : x.ownsRow T t sz v n xs) : ∃ a c, v = .slice a n c := by
  rcases h.2 with ⟨rfl, rfl⟩ | ⟨g, c, cur, rfl, _⟩
  · exact ⟨none, 0, rfl⟩
  · exact ⟨_, _, rfl⟩
/-- An owned row's cells. -/
theorem own_row {x : World} {T t sz n : Nat} {a : Option Addr} {c : Nat} {xs : List Value} (h : x.ownsRow T t sz (.slice a n c) n xs) (hn : 0 < n) : ∃ g, a = some ⟨g, 0, none⟩ ∧ n ≤ c ∧ T ≤ g ∧ g < x.heap.size ∧ ∀ j, j < n * sz → x.cell? ⟨g, j, none⟩ = xs[j]? := by
  rcases h.2 with ⟨_, h0⟩ | ⟨g, c', cur, e, hg, hh, hnc, hcap, hsz, htake⟩
  · omega
  · injection e with e1 e2 e3
    subst e1 e3
    have hb : Blk x g t cur := hh
    refine ⟨g, rfl, hnc, hg, hb.lt, fun j hj => ?_⟩
    rw [hb.cell, ← htake, List.getElem?_take, if_pos hj]
    simp
theorem recs_get (ek : Nat → Ent) (vf : Nat → Nat) : ∀ (l : List Nat) (k i r : Nat), l[k]? = some i → r < 3 → (recs ek vf l)[k * 3 + r]? = (recC ek vf i)[r]?
  | [], k, i, r, h, _ => by simp at h
  | a :: t, 0, i, r, h, hr => by
    simp at h; subst h
    simp only [recs]
    rw [List.getElem?_append_left (by simp [recC]; omega)]
    simp
  | a :: t, k + 1, i, r, h, hr => by
    simp only [recs]
    have hl : (recC ek vf a).length = 3 := rfl
    rw [List.getElem?_append_right (by rw [hl]; omega), hl, show (k + 1) * 3 + r - 3 = k * 3 + r by omega]
    exact recs_get ek vf t k i r (by simpa using h) hr
theorem gs_lt {M p0 st : Nat} {gs : List Nat} {f : Nat → Bool} (hg : (∃ k, p0 + k ≤ M ∧ gs = (List.range' p0 k).filter f ∧ gs.length = st ∧ 0 < st) ∨ (gs = (List.range' p0 (M - p0)).filter f ∧ (st = 0 ∨ gs.length < st))) (k i : Nat) (h : gs[k]? = some i) : i < M := by
  have hi : i ∈ gs := List.mem_of_getElem? h
  rcases hg with ⟨j, hj, rfl, _⟩ | ⟨rfl, _⟩
  · have := (List.mem_filter.1 hi).1
    rw [List.mem_range'_1] at this
    omega
  · have := (List.mem_filter.1 hi).1
    rw [List.mem_range'_1] at this
    omega
theorem gs_len {M p0 st : Nat} {gs : List Nat} {f : Nat → Bool} (hg : (∃ k, p0 + k ≤ M ∧ gs = (List.range' p0 k).filter f ∧ gs.length = st ∧ 0 < st) ∨ (gs = (List.range' p0 (M - p0)).filter f ∧ (st = 0 ∨ gs.length < st))) : gs.length ≤ M := by
  rcases hg with ⟨j, hj, rfl, _⟩ | ⟨rfl, _⟩
  · have := List.length_filter_le f (List.range' p0 j)
    rw [List.length_range'] at this; omega
  · have := List.length_filter_le f (List.range' p0 (M - p0))
    rw [List.length_range'] at this; omega
/-- What the comparing loop reads in its round k. -/
theorem round_reads {x : World} {T T' n : Nat} {ek : Nat → Ent} {u : Nat → Nat} {gs : List Nat} {aa ab ag : Option Addr} {ca cb cg k : Nat} (hn : n = gs.length) (h : WantI x T ek u gs (.slice aa n ca) (.slice ab n cb)) (hg : x.ownsRow T' 125 3 (.slice ag n cg) n (recs ek (fun i => vOf (ek i)) gs)) (hk : k < n) :
    ∃ i ga gb gg, gs[k]? = some i ∧ aa = some ⟨ga, 0, none⟩ ∧ ab = some ⟨gb, 0, none⟩ ∧ ag = some ⟨gg, 0, none⟩ ∧ ga < x.heap.size ∧ gb < x.heap.size ∧ gg < x.heap.size ∧ x.cell? ⟨ga, k, none⟩ = some (.int .i64 (u i : Nat)) ∧ x.cell? ⟨gb, k, none⟩ = some (.int .u64 (vOf (ek i) : Nat)) ∧
      x.cell? ⟨gg, k * 3, none⟩ = some (.string (ek i).key) ∧ x.cell? ⟨gg, k * 3 + 1, none⟩ = some (.slice (ek i).va (ek i).vn (ek i).vc) ∧ x.cell? ⟨gg, k * 3 + 2, none⟩ = some (.int .u64 (vOf (ek i) : Nat)) := by
  subst hn
  obtain ⟨i, hi⟩ : ∃ i, gs[k]? = some i := ⟨gs[k], List.getElem?_eq_getElem hk⟩
  obtain ⟨ga, e1, _, _, l1, c1⟩ := own_row h.a (by omega)
  obtain ⟨gb, e2, _, _, l2, c2⟩ := own_row h.b (by omega)
  obtain ⟨gg, e3, _, _, l3, c3⟩ := own_row hg (by omega)
  have d0 := recs_get ek (fun i => vOf (ek i)) gs k i 0 hi (by omega)
  have d1 := recs_get ek (fun i => vOf (ek i)) gs k i 1 hi (by omega)
  have d2 := recs_get ek (fun i => vOf (ek i)) gs k i 2 hi (by omega)
  refine ⟨i, ga, gb, gg, hi, e1, e2, e3, l1, l2, l3, ?_, ?_, ?_, ?_, ?_⟩
  · rw [c1 k (by omega), List.getElem?_map, hi]; rfl
  · rw [c2 k (by omega), List.getElem?_map, hi]; rfl
  · rw [c3 (k * 3) (by omega)]; exact d0
  · rw [c3 (k * 3 + 1) (by omega)]; exact d1
  · rw [c3 (k * 3 + 2) (by omega)]; exact d2
theorem equalIn_nil69 (d : Nat) (a : Option Addr) (l c : Nat) (w : World) : (Op.equalIn (d + 1) 69 (.slice a l c) (.slice none 0 0)).run Yba.prog w = .ok a.isNone w := by
  cases a <;> simp [Op.equalIn, run_underlying Yba.underlying69]
theorem nil69 (a : Option Addr) (l c : Nat) (w : World) : (binOp .eql 69 (.slice a l c) (.slice none 0 0)).run Yba.prog w = .ok (.bool a.isNone) w := by
  have h : (Op.equal 69 (.slice a l c) (.slice none 0 0)).run Yba.prog w = .ok a.isNone w := equalIn_nil69 9999 a l c w
  simp only [binOp]
  simp [h]
end Go.Proofs.Ybulkeeeq
