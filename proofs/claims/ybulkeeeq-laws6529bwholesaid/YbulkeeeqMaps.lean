import Derived.Test.YbulkeeeqBid
import Derived.Maps.OwnSet
import Derived.Handy
namespace Go.Proofs.Ybulkeeeq
open Go.RowKit
set_option linter.unusedVariables false

/-- How an element of a map of pointers reads: as the block that it points to. -/
def ptrElem : Value → Option (DataW Nat × List MemPlace)
  | .pointer none => some (.nil, [])
  | .pointer (some ⟨g, 0, none⟩) => some (.held g, [])
  | _ => none
theorem ptrElem_held {v : Value} {g : Nat} {ps : List MemPlace} (h : ptrElem v = some (.held g, ps)) : v = .pointer (some ⟨g, 0, none⟩) := by
  unfold ptrElem at h
  split at h
  · simp at h
  · simp at h; rw [h.1]
  · simp at h
theorem ptrElem_nil {v : Value} {ps : List MemPlace} (h : ptrElem v = some (.nil, ps)) : v = .pointer none := by
  unfold ptrElem at h
  split at h
  · rfl
  · simp at h
  · simp at h
theorem keyed9 : Maps.Keyed Yba.prog 9 := Maps.string_keyed Yba.underlying9
theorem zero81 (w : World) : (zeroValue 81).run Yba.prog w = .ok (.pointer none) w := Yba.zeroValue81 w

/-- Block b is a map of strings to blocks: m. -/
def MapIs (w : World) (b n : Nat) (m : List UInt8 → Option Nat) : Prop :=
  ∃ D : DataW Nat, w.ownsMap Yba.prog 9 ptrElem b n D ∧ (∀ k, m k = none → Maps.has D (.string k) = false) ∧ ∀ k g, m k = some g → Maps.has D (.string k) = true ∧ D.atKey (.string k) .nil = .held g
theorem MapIs.made (w : World) : MapIs (w.alloc (.map #[] 0)) w.heap.size 0 (fun _ => none) :=
  ⟨_, World.ownsMap_made w _ _ _, fun k _ => rfl, fun k g h => by cases h⟩
theorem MapIs.lt {w : World} {b n : Nat} {m : List UInt8 → Option Nat} (h : MapIs w b n m) : b < w.heap.size := by obtain ⟨D, h1, _⟩ := h; exact h1.lt
theorem MapIs.of_block {w w' : World} {b n : Nat} {m : List UInt8 → Option Nat} (h : MapIs w b n m) (hb : w'.heap[b]? = w.heap[b]?) : MapIs w' b n m := by
  obtain ⟨D, ⟨es, cl, h1, h2⟩, h3⟩ := h
  exact ⟨D, ⟨es, cl, by rw [hb]; exact h1, h2⟩, h3⟩
theorem MapIs.below {w w' : World} {B b n : Nat} {m : List UInt8 → Option Nat} (h : MapIs w b n m) (hb : Below B w w') (hB : b < B) : MapIs w' b n m := h.of_block (hb.block b hB)
theorem MapIs.alloc {w : World} {b n : Nat} {m : List UInt8 → Option Nat} (h : MapIs w b n m) (o : Obj) : MapIs (w.alloc o) b n m := h.of_block (Below.heap_alloc _ _ _ h.lt)
theorem MapIs.mono {w : World} {b n n' : Nat} {m : List UInt8 → Option Nat} (h : MapIs w b n m) (hn : n ≤ n') : MapIs w b n' m := by
  obtain ⟨D, h1, h2⟩ := h; exact ⟨D, h1.mono hn, h2⟩
theorem MapIs.ne_blk {w : World} {b n : Nat} {m : List UInt8 → Option Nat} (h : MapIs w b n m) {g : Nat} {T : TypeId} {cs : Array Value} (hb : Blk w g T cs) : b ≠ g := by
  intro e; subst e
  obtain ⟨D, ⟨es, cl, h1, _⟩, _⟩ := h
  unfold Blk at hb; rw [h1] at hb; cases hb
theorem MapIs.look_some {w : World} {b n : Nat} {m : List UInt8 → Option Nat} (h : MapIs w b n m) {s : ByteArray} (hs : s.size ≤ maxLen) {g : Nat} (hm : m s.data.toList = some g) :
    (Instr.lookup 80 (.map (some b)) (.string s) true).run Yba.prog w = .ok (.tuple #[.pointer (some ⟨g, 0, none⟩), .bool true]) w := by
  obtain ⟨D, h1, h2, h3⟩ := h
  obtain ⟨v, ps, hrun, hv⟩ := h1.look_ok keyed9 Yba.underlying80 (zero81 w) (zd := .nil) (zp := []) rfl (WideMaps.keyOf_string_mk Yba.underlying9 hs)
  obtain ⟨q1, q2⟩ := h3 _ _ hm
  rw [q2] at hv
  rw [hrun, ptrElem_held hv, q1]
theorem MapIs.look_none {w : World} {b n : Nat} {m : List UInt8 → Option Nat} (h : MapIs w b n m) {s : ByteArray} (hs : s.size ≤ maxLen) (hm : m s.data.toList = none) :
    (Instr.lookup 80 (.map (some b)) (.string s) true).run Yba.prog w = .ok (.tuple #[.pointer none, .bool false]) w := by
  obtain ⟨D, h1, h2, h3⟩ := h
  obtain ⟨v, ps, hrun, hv⟩ := h1.look_ok keyed9 Yba.underlying80 (zero81 w) (zd := .nil) (zp := []) rfl (WideMaps.keyOf_string_mk Yba.underlying9 hs)
  have q1 := h2 _ hm
  rw [Maps.atKey_of_not_has q1] at hv
  rw [hrun, ptrElem_nil hv, q1]
theorem MapIs.look_plain {w : World} {b n : Nat} {m : List UInt8 → Option Nat} (h : MapIs w b n m) {s : ByteArray} (hs : s.size ≤ maxLen) {g : Nat} (hm : m s.data.toList = some g) :
    (Instr.lookup 80 (.map (some b)) (.string s) false).run Yba.prog w = .ok (.pointer (some ⟨g, 0, none⟩)) w := by
  obtain ⟨D, h1, h2, h3⟩ := h
  obtain ⟨v, ps, hrun, hv⟩ := h1.lookup keyed9 Yba.underlying80 (zero81 w) (zd := .nil) (zp := []) rfl (WideMaps.keyOf_string_mk Yba.underlying9 hs)
  obtain ⟨q1, q2⟩ := h3 _ _ hm
  rw [q2] at hv
  rw [hrun, ptrElem_held hv]
def updM (m : List UInt8 → Option Nat) (k : List UInt8) (g : Nat) : List UInt8 → Option Nat := fun q => if q = k then some g else m q
theorem MapIs.update {w : World} {b n : Nat} {m : List UInt8 → Option Nat} (h : MapIs w b n m) (hn : n < maxLen) {s : ByteArray} (hs : s.size ≤ maxLen) (g : Nat) :
    ∃ w', (Instr.mapUpdate 80 (.map (some b)) (.string s) (.pointer (some ⟨g, 0, none⟩))).run Yba.prog w = .ok () w' ∧ MapIs w' b (n + 1) (updM m s.data.toList g) ∧ w.grownBy w' (some b) := by
  obtain ⟨D, h1, h2, h3⟩ := h
  obtain ⟨w', r1, r2, r3⟩ := h1.update keyed9 Yba.underlying80 hn (WideMaps.keyOf_string_mk Yba.underlying9 hs) (val := .pointer (some ⟨g, 0, none⟩)) (d := .held g) (ps := []) rfl
  have hk : WideAt.IsKeyLit (.string s.data.toList) := keyed9.key (WideMaps.keyOf_string_mk Yba.underlying9 hs)
  refine ⟨w', r1, ⟨_, r2, fun k hk' => ?_, fun k g' hk' => ?_⟩, r3⟩
  · unfold updM at hk'
    split at hk'
    · cases hk'
    · rename_i hne
      rw [Maps.has_put_other (fun e => hne (by injection e))]; exact h2 k hk'
  · unfold updM at hk'
    split at hk'
    · rename_i he
      subst he
      cases hk'
      exact ⟨Maps.has_put_same h1.isMap hk _, Maps.atKey_put_same h1.isMap hk _ _⟩
    · rename_i hne
      rw [Maps.has_put_other (fun e => hne (by injection e)), Maps.atKey_put_other (fun e => hne (by injection e))]; exact h3 k g' hk'
/-- 'm[k] = p' at the operation. -/
theorem wpList_put80 (w : World) {ops : Array Oper} {rest : List Oper} {o : Oper} {a : Act} {Q : Exit → Act → World → Prop}
    (hg : o.guard = none) (m x v : Operand) (hop : o.op = Op.mapUpdate 80 m x v) (b n g : Nat) (mm : List UInt8 → Option Nat) (s : ByteArray)
    (hm : a.eval m = .map (some b)) (hx : a.eval x = .string s) (hv : a.eval v = .pointer (some ⟨g, 0, none⟩)) (h : MapIs w b n mm) (hn : n < maxLen) (hs : s.size ≤ maxLen)
    (hK : ∀ w', MapIs w' b (n + 1) (updM mm s.data.toList g) → w.grownBy w' (some b) → wpList Yba.prog ops Q rest (a.put o.dst undef) w') :
    wpList Yba.prog ops Q (o :: rest) a w := by
  refine wpList_plain hg fun K' hK' => ?_
  obtain ⟨w', hrun, r1, r2⟩ := h.update hn hs g
  unfold Oper.wp
  simp [execOp, hop, hm, hx, hv, hrun, Result.andThen]
  exact hK' _ _ (hK w' r1 r2)
theorem MapIs.len {w : World} {b n : Nat} {m : List UInt8 → Option Nat} (h : MapIs w b n m) : ∃ z : Nat, ∀ ty, (Builtin.len_ #[80] ty #[.map (some b)]).run Yba.prog w = .ok (.int .i64 z) w := by
  obtain ⟨D, h1, _⟩ := h
  exact ⟨Maps.size D, fun ty => h1.len Yba.underlying80 ty⟩

set_option maxHeartbeats 1000000 in
set_option maxRecDepth 100000 in
/-- heldLocked: the first of the three maps that holds the key. -/
theorem heldLocked_calls (nb mo mu mc no nu nc g : Nat) (fo fu fc : List UInt8 → Option Nat) (s : ByteArray) (w : World) (c1 : w.cell? ⟨nb, 56, none⟩ = some (.map (some mo))) (c2 : w.cell? ⟨nb, 57, none⟩ = some (.map (some mu))) (c3 : w.cell? ⟨nb, 58, none⟩ = some (.map (some mc)))
    (ho : MapIs w mo no fo) (hu : MapIs w mu nu fu) (hc : MapIs w mc nc fc) (hs : s.size ≤ maxLen)
    (hg : fo s.data.toList = some g ∨ (fo s.data.toList = none ∧ fu s.data.toList = some g) ∨ (fo s.data.toList = none ∧ fu s.data.toList = none ∧ fc s.data.toList = some g)) :
    Calls Yba.prog 27 #[.pointer (some ⟨nb, 0, none⟩), .string s] w fun ex w' => ex = .returned (.pointer (some ⟨g, 0, none⟩)) ∧ w' = w := by
  rcases hg with h1 | ⟨h1, h2⟩ | ⟨h1, h2, h3⟩
  · have l1 := ho.look_some hs h1
    clear ho hu hc h1 hs c2 c3
    go_enter Yba.func27, Yba.ntmps27
    go_wp2
    go_returns
    exact ⟨rfl, rfl⟩
  · have l1 := ho.look_none hs h1
    have l2 := hu.look_some hs h2
    clear ho hu hc h1 h2 hs c3
    go_enter Yba.func27, Yba.ntmps27
    go_wp2
    go_returns
    exact ⟨rfl, rfl⟩
  · have l1 := ho.look_none hs h1
    have l2 := hu.look_none hs h2
    have l3 := hc.look_plain hs h3
    clear ho hu hc h1 h2 h3 hs
    go_enter Yba.func27, Yba.ntmps27
    go_wp2
    go_returns
    exact ⟨rfl, rfl⟩
end Go.Proofs.Ybulkeeeq
