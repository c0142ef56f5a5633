import Derived.Test.YbulkeeeqMaps
import Derived.Deep.AppendLies
namespace Go.Proofs.Ybulkeeeq
open Go.RowKit
set_option linter.unusedVariables false

theorem info125 : (Yba.prog.info? 125).map (fun i => (i.zero, i.size, i.bytes)) = some (some (.agg #[.string ByteArray.empty, .slice none 0 0, .int .u64 0]), 3, 48) := by kernel_rfl
theorem one3 (k : ByteArray) (va : Option Addr) (vn vc vr : Nat) : ∀ u ∈ [Value.string k, .slice va vn vc, .int .u64 (vr : Nat)], u.oneCell' = true := by
  intro u hu
  simp only [List.mem_cons, List.not_mem_nil, or_false] at hu
  rcases hu with rfl | rfl | rfl <;> rfl
theorem own_ge {w : World} {base : Nat} {e : TypeId} {size : Nat} {v : Value} {n : Nat} {xs : List Value} (h : w.ownsRow base e size v n xs) {c : Nat} (hc : c < base) : some c ≠ v.ownBlock := by
  rcases h.2 with ⟨rfl, _⟩ | ⟨g, cap, cur, rfl, hg, _⟩
  · simp [Value.ownBlock]
  · simp [Value.ownBlock]; omega
theorem own_lt {w : World} {base : Nat} {e : TypeId} {size : Nat} {v : Value} {n : Nat} {xs : List Value} (h : w.ownsRow base e size v n xs) {c : Nat} (hc : w.heap.size ≤ c) : some c ≠ v.ownBlock := by
  rcases h.2 with ⟨rfl, _⟩ | ⟨g, cap, cur, rfl, hg, hh, _⟩
  · simp [Value.ownBlock]
  · have : g < w.heap.size := Blk.lt (T := e) (cs := cur) hh
    simp [Value.ownBlock]; omega
theorem owns_other {w w' : World} {base : Nat} {e : TypeId} {size : Nat} {v : Value} {n : Nat} {xs : List Value} (h : w.ownsRow base e size v n xs) (hb : ∀ k, v.ownBlock = some k → w'.heap[k]? = w.heap[k]?) : w'.ownsRow base e size v n xs := by
  refine ⟨h.1, ?_⟩
  rcases h.2 with h2 | ⟨g, cap, cur, rfl, hg, hh, q⟩
  · exact Or.inl h2
  · exact Or.inr ⟨g, cap, cur, rfl, hg, by rw [hb g rfl]; exact hh, q⟩

set_option maxHeartbeats 2000000 in
set_option maxRecDepth 100000 in
/-- The closure that takes a record. -/
theorem take_calls (gB lB base n limit : Nat) (v : Value) (xs : List Value) (k : ByteArray) (va : Option Addr) (vn vc vr : Nat) (w : World)
    (hg : Blk w gB 122 #[v]) (hown : w.ownsRow base 125 3 v n xs) (hl : w.cell? ⟨lB, 0, none⟩ = some (.int .i64 (limit : Nat))) (hgb : gB < base) (hlb : lB < base) (hlg : lB ≠ gB) (hbase : base ≤ w.heap.size) (hn : n ≤ 65536) :
    Calls Yba.prog 15 #[.agg #[.string k, .slice va vn vc, .int .u64 (vr : Nat)], .pointer (some ⟨gB, 0, none⟩), .pointer (some ⟨lB, 0, none⟩)] w fun ex w' =>
      ex = .returned (.bool (decide (n + 1 ≠ limit))) ∧ ∃ v', Blk w' gB 122 #[v'] ∧ w'.ownsRow base 125 3 v' (n + 1) (xs ++ [.string k, .slice va vn vc, .int .u64 (vr : Nat)]) ∧ Fr gB v.ownBlock w.heap.size w w' := by
  obtain ⟨i0, hi, hz0, hz1, hz2⟩ := info_parts info125
  have hgl := hg.lt
  have cg : w.cell? ⟨gB, 0, none⟩ = some v := by rw [hg.cell]; rfl
  have hg' : Hid (Blk w gB 122 #[v]) := hg
  have hown' : Hid (w.ownsRow base 125 3 v n xs) := hown
  have hl' : Hid (w.cell? ⟨lB, 0, none⟩ = some (.int .i64 (limit : Nat))) := hl
  have hll := lt_of_cell hl
  simp at hll
  clear hg hown
  go_enter Yba.func15, Yba.ntmps15
  have hk1 : Hid (∀ w1, ((w.alloc (.cells #[.string k, .slice va vn vc, .int .u64 (vr : Nat)] 125)).alloc (.cells #[.string k, .slice va vn vc, .int .u64 (vr : Nat)] 125)).grownBy w1 v.ownBlock → w1.cell? ⟨gB, 0, none⟩ = some v ∧ w1.frozen? ⟨gB, 0, none⟩ = false) := fun w1 hgrow => by
    have hb := ((hg'.out.alloc (.cells #[.string k, .slice va vn vc, .int .u64 (vr : Nat)] 125)).alloc (.cells #[.string k, .slice va vn vc, .int .u64 (vr : Nat)] 125)).grown hgrow (own_ge hown'.out hgb)
    exact ⟨by rw [hb.cell]; rfl, hb.frozen 0⟩
  go_upto_region 2 with (at_builtin; refine wpList_append_lies _ rfl _ _ _ rfl base 125 i0 _ 3 48 Yba.underlying122 hi hz0 hz1 hz2 rfl (by omega) v n xs rfl (by exact (hown'.out.alloc _).alloc _) ⟨w.heap.size + 1, 0, none⟩ 1 1 [.string k, .slice va vn vc, .int .u64 (vr : Nat)] rfl rfl (World.news_of_block (cs := #[.string k, .slice va vn vc, .int .u64 (vr : Nat)]) (t := 125) (fr := (0, 0)) (by have h := heap_alloc_new (w.alloc (.cells #[.string k, .slice va vn vc, .int .u64 (vr : Nat)] 125)) (.cells #[.string k, .slice va vn vc, .int .u64 (vr : Nat)] 125); rw [World.size_alloc] at h; exact h)) (one3 k va vn vc vr) (by omega) (by unfold maxLen; omega) (by omega) (by simp; omega) (w.heap.size + 1 + 1) (by simp) ?_; intro g cap w1 hown1 hgrow hat hlt; obtain ⟨cg1, cf1⟩ := hk1.out _ hgrow)
  have hgg : g ≠ gB := by
    rcases owns_form hown1 (by simp) with ⟨g', cap', e, h1, h2⟩
    injection e with e1 e2 e3
    injection e1 with e1
    injection e1 with e1
    omega
  have hbg : Blk (w1.setCell ⟨gB, 0, none⟩ (.slice (some ⟨g, 0, none⟩) (n + 1) cap)) gB 122 #[.slice (some ⟨g, 0, none⟩) (n + 1) cap] := (((hg'.out.alloc _).alloc _).grown hgrow (own_ge hown'.out hgb)).set 0 _
  have cl1 : (w1.setCell ⟨gB, 0, none⟩ (.slice (some ⟨g, 0, none⟩) (n + 1) cap)).cell? ⟨lB, 0, none⟩ = some (.int .i64 (limit : Nat)) := by
    rw [World.cell?_setCell_other w1 ⟨gB, 0, none⟩ ⟨lB, 0, none⟩ _ (fun e => hlg (by injection e with e1; exact e1.symm)), hgrow.cell_far ⟨lB, 0, none⟩ (by simp; omega) (own_ge hown'.out hlb), World.cell?_alloc_past _ _ _ (by simp; omega), World.cell?_alloc_past _ _ _ hll]
    exact hl'.out
  have hfr : Fr gB v.ownBlock w.heap.size w (w1.setCell ⟨gB, 0, none⟩ (.slice (some ⟨g, 0, none⟩) (n + 1) cap)) :=
    ((Fr.of_below (((Below.refl _ w).alloc (Nat.le_refl _) _).alloc (by simp) _)).trans (Fr.of_grown hgrow (by simp; omega))).setCell gB 0 _ (Or.inl rfl)
  have hown2 : (w1.setCell ⟨gB, 0, none⟩ (.slice (some ⟨g, 0, none⟩) (n + 1) cap)).ownsRow base 125 3 (.slice (some ⟨g, 0, none⟩) (n + 1) cap) (n + 1) (xs ++ [.string k, .slice va vn vc, .int .u64 (vr : Nat)]) :=
    owns_other hown1 (fun q hq => Below.heap_setCell _ _ _ _ (by simp [Value.ownBlock] at hq; subst hq; exact hgg))
  obtain ⟨w2, hw2⟩ : ∃ x, x = w1.setCell ⟨gB, 0, none⟩ (.slice (some ⟨g, 0, none⟩) (n + 1) cap) := ⟨_, rfl⟩
  rw [← hw2] at hbg cl1 hfr hown2 ⊢
  have cg2 : w2.cell? ⟨gB, 0, none⟩ = some (.slice (some ⟨g, 0, none⟩) (n + 1) cap) := by rw [hbg.cell]; rfl
  have hbg' : Hid (Blk w2 gB 122 #[.slice (some ⟨g, 0, none⟩) (n + 1) cap]) := hbg
  have hown2' : Hid (w2.ownsRow base 125 3 (.slice (some ⟨g, 0, none⟩) (n + 1) cap) (n + 1) (xs ++ [.string k, .slice va vn vc, .int .u64 (vr : Nat)])) := hown2
  have hfr' : Hid (Fr gB v.ownBlock w.heap.size w w2) := hfr
  clear hw2 hbg hown2 hfr cg1 cf1 hown1 hgrow hat hlt hk1 cg hl
  obtain ⟨n1, hn1⟩ : ∃ x, x = n + 1 := ⟨_, rfl⟩
  rw [← hn1] at cg2 hbg' hown2' ⊢
  have hn1' : Hid (n1 = n + 1) := hn1
  clear hn1
  go_wp2
  go_returns
  rw [← hn1'.out]
  refine ⟨?_, _, hbg'.out, hown2'.out, hfr'.out⟩
  by_cases c : n1 = limit
  · subst c; simp
  · have : ((n1 : Int) != (limit : Int)) = true := by simp; omega
    simp [c, this]
end Go.Proofs.Ybulkeeeq
