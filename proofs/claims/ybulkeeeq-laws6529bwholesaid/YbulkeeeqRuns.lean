import Derived.Test.YbulkeeeqUq
import Derived.Test.YbulkeeeqFrz
import Derived.Test.YbulkeeeqTake
namespace Go.Proofs.Ybulkeeeq
open Go.RowKit
set_option linter.unusedVariables false

/-- The cells of k keys from p on. -/
def kids (ek : Nat → Ent) (p : Nat) : Nat → List Value
  | 0 => []
  | k + 1 => kids ek p k ++ (kidA (ek (p + k)).key (ek (p + k)).hi (ek (p + k)).lo).toList
theorem kids_len (ek : Nat → Ent) (p : Nat) : ∀ k, (kids ek p k).length = k * 21
  | 0 => rfl
  | k + 1 => by rw [kids, List.length_append, kids_len ek p k]; show k * 21 + 21 = _; omega
theorem kids_get (ek : Nat → Ent) (p : Nat) : ∀ k e j v, e < k → (kidA (ek (p + e)).key (ek (p + e)).hi (ek (p + e)).lo).toList[j]? = some v → (kids ek p k)[e * 21 + j]? = some v
  | 0, e, j, v, he, _ => by omega
  | k + 1, e, j, v, he, hv => by
    have hj : j < 21 := (List.getElem?_eq_some_iff.1 hv).1
    rw [kids]
    by_cases q : e = k
    · subst q
      rw [List.getElem?_append_right (by rw [kids_len]; omega), kids_len, show e * 21 + j - e * 21 = j by omega]; exact hv
    · rw [List.getElem?_append_left (by rw [kids_len]; omega)]
      exact kids_get ek p k e j v (by omega) hv
/-- A row of keys that the law owns, read. -/
theorem krow_of {w : World} {base g c k p : Nat} {ek : Nat → Ent} (h : w.ownsRow base 79 21 (.slice (some ⟨g, 0, none⟩) k c) k (kids ek p k)) : base ≤ g ∧ k ≤ c ∧ (∃ bc, Blk w g 79 bc) ∧ KRow w g k (fun e => ek (p + e)) := by
  rcases h.2 with ⟨h1, _⟩ | ⟨g', c', cur, e', hg, hh, hn, hcap, hsz, htake⟩
  · cases h1
  · injection e' with e1 e2 e3
    injection e1 with e1; injection e1 with e1; subst e1 e3
    have hb : Blk w g 79 cur := hh
    refine ⟨hg, hn, ⟨_, hb⟩, fun e he j v hv => ?_⟩
    have hj : j < 21 := (List.getElem?_eq_some_iff.1 hv).1
    rw [hb.cell]
    have h4 := kids_get ek p k e j v he hv
    rw [← htake, List.getElem?_take, if_pos (by omega)] at h4
    simpa using h4

def RV (L M : Nat) (rb rc : Nat → Nat) (r : Nat) : List Value := (List.range r).map fun q => .slice (some ⟨rb q, 0, none⟩) (rlen L M q) (rc q)
theorem RV_snoc (L M : Nat) (rb rc : Nat → Nat) (r b c : Nat) : RV L M rb rc r ++ [.slice (some ⟨b, 0, none⟩) (rlen L M r) c] = RV L M (updN rb r b) (updN rc r c) (r + 1) := by
  unfold RV
  rw [List.range_succ, List.map_append, List.map_singleton, updN_self, updN_self]
  congr 1
  apply List.map_congr_left
  intro i hi
  rw [updN_ne rb b (by simp at hi; omega), updN_ne rc c (by simp at hi; omega)]
/-- r runs have been made. -/
structure RunsI (x : World) (E L M r : Nat) (ek : Nat → Ent) (v : Value) (rb rc : Nat → Nat) : Prop where
  own : x.ownsRow E 74 1 v r (RV L M rb rc r)
  each : ∀ q, q < r → E ≤ rb q ∧ rlen L M q ≤ rc q ∧ (∃ bc, Blk x (rb q) 79 bc) ∧ KRow x (rb q) (rlen L M q) (fun e => ek (q * L + e))
  nil : r = 0 → v = .slice none 0 0
theorem RunsI.start (x : World) (E L M : Nat) (ek : Nat → Ent) : RunsI x E L M 0 ek (.slice none 0 0) (fun _ => 0) (fun _ => 0) := ⟨World.ownsRow_nil _ _ _ _, fun q h => by omega, fun _ => rfl⟩
theorem own74_ne {x : World} {E r : Nat} {v : Value} {xs : List Value} (h : x.ownsRow E 74 1 v r xs) {g : Nat} {bc : Array Value} (hb : Blk x g 79 bc) : some g ≠ v.ownBlock := by
  rcases h.2 with ⟨rfl, _⟩ | ⟨g', c', cur, rfl, hg, hh, _⟩
  · simp [Value.ownBlock]
  · simp [Value.ownBlock]
    intro e; subst e
    unfold Blk at hb; rw [hb] at hh; injection hh with hh; injection hh with _ hh; exact absurd hh (by decide)
theorem own_lt' {x : World} {E r : Nat} {e : TypeId} {size : Nat} {v : Value} {xs : List Value} (h : x.ownsRow E e size v r xs) : ∀ k, v.ownBlock = some k → k < x.heap.size := by
  intro k hk
  rcases h.2 with ⟨rfl, _⟩ | ⟨g', c', cur, rfl, hg, hh, _⟩
  · simp [Value.ownBlock] at hk
  · simp [Value.ownBlock] at hk; subst hk; exact Blk.lt (T := e) (cs := cur) hh
theorem RunsI.below {x y : World} {E L M r : Nat} {ek : Nat → Ent} {v : Value} {rb rc : Nat → Nat} (h : RunsI x E L M r ek v rb rc) (hb : Below x.heap.size x y) : RunsI y E L M r ek v rb rc :=
  ⟨owns_other h.own (fun k hk => hb.block k (own_lt' h.own k hk)), fun q hq => by
    obtain ⟨h1, h2, ⟨bc, h3⟩, h4⟩ := h.each q hq
    exact ⟨h1, h2, ⟨bc, h3.below hb h3.lt⟩, h4.below hb h3.lt⟩, h.nil⟩
/-- One more run. -/
theorem RunsI.more {x y z : World} {E L M r : Nat} {ek : Nat → Ent} {v v' : Value} {rb rc : Nat → Nat} (h : RunsI x E L M r ek v rb rc) (hb : Below x.heap.size x y) {b c : Nat} (hc : rlen L M r ≤ c) (hE : E ≤ b) (hbk : ∃ bc, Blk y b 79 bc) (hk : KRow y b (rlen L M r) (fun e => ek (r * L + e)))
    (hg : y.grownBy z v.ownBlock) (ho : z.ownsRow E 74 1 v' (r + 1) (RV L M rb rc r ++ [.slice (some ⟨b, 0, none⟩) (rlen L M r) c])) : RunsI z E L M (r + 1) ek v' (updN rb r b) (updN rc r c) := by
  have hy := h.below hb
  have keep : ∀ g, (∃ bc, Blk y g 79 bc) → z.heap[g]? = y.heap[g]? := fun g ⟨bc, hbc⟩ => hg.block g hbc.lt (own74_ne hy.own hbc)
  refine ⟨by rw [← RV_snoc]; exact ho, fun q hq => ?_, fun h => by omega⟩
  by_cases e : q = r
  · subst e
    rw [updN_self, updN_self]
    obtain ⟨bc, hbc⟩ := hbk
    have hz := keep b ⟨bc, hbc⟩
    refine ⟨hE, hc, ⟨bc, by unfold Blk at hbc ⊢; rw [hz]; exact hbc⟩, fun e he j w hw => ?_⟩
    rw [cell_of_block hz]; exact hk e he j w hw
  · rw [updN_ne rb b e, updN_ne rc c e]
    obtain ⟨h1, h2, ⟨bc, h3⟩, h4⟩ := hy.each q (by omega)
    have hz := keep _ ⟨bc, h3⟩
    refine ⟨h1, h2, ⟨bc, by unfold Blk at h3 ⊢; rw [hz]; exact h3⟩, fun e he j w hw => ?_⟩
    rw [cell_of_block hz]; exact h4 e he j w hw
/-- The runs, as the search wants them. -/
theorem RunsI.rrow {x : World} {E L M r : Nat} {ek : Nat → Ent} {v : Value} {rb rc : Nat → Nat} (h : RunsI x E L M r ek v rb rc) (hr : 0 < r) : ∃ gR cR cur, v = .slice (some ⟨gR, 0, none⟩) r cR ∧ Blk x gR 74 cur ∧ E ≤ gR ∧ RRow x x.heap.size gR r L M ek := by
  rcases h.own.2 with ⟨_, h1⟩ | ⟨gR, cR, cur, rfl, hg, hh, hn, hcap, hsz, htake⟩
  · omega
  · have hb : Blk x gR 74 cur := hh
    refine ⟨gR, cR, cur, rfl, hb, hg, fun q hq => ?_⟩
    obtain ⟨h1, h2, ⟨bc, h3⟩, h4⟩ := h.each q hq
    refine ⟨rb q, rc q, ?_, h3.lt, h2, h4⟩
    rw [hb.cell]
    have h4 : (cur.toList.take (r * 1))[q]? = some (.slice (some ⟨rb q, 0, none⟩) (rlen L M q) (rc q)) := by rw [htake]; unfold RV; simp [hq]
    rw [List.getElem?_take, if_pos (by omega)] at h4
    simpa using h4
end Go.Proofs.Ybulkeeeq
