import Derived.Test.YbulkeeeqPre
namespace Go.Proofs.Ybulkeeeq
open Go.RowKit
set_option linter.unusedVariables false

/-- While the workers are made. -/
structure L3 (M : Mdl) (X : Cx) (B pb ib k : Nat) (w wr : World) (Y : Hp) (i : Nat) (wk ix : Nat → Nat) : Prop where
  S : Sim X wr Y (.slice (some ⟨ib, 0, none⟩) k k) M.start M.N M.N 0 [] (bagOf M.s0)
  hlog : Y.logv = .slice none 0 0
  hp : PRow wr pb (2 * M.N) M.N M.ev
  hb : Below B w wr
  hsv : Blk wr (B + 2) 34 #[.pointer (some ⟨B + 1, 0, none⟩)]
  hi : ∃ ics, Blk wr ib 57 ics ∧ ics.size = k ∧ ∀ j, j < i → ics[j]? = some (.pointer (some ⟨wk j, 0, none⟩))
  hwk : ∀ j, j < i → ∃ wcs, Blk wr (wk j) 63 wcs ∧ wcs[1]? = some (.func (.func 8) #[] #[.pointer (some ⟨B + 2, 0, none⟩), .pointer (some ⟨ix j, 0, none⟩)])
  hix : ∀ j, j < i → Blk wr (ix j) 3 #[.int .i64 j]

theorem start_L3 {M : Mdl} {B nl : Nat} {lcs : Array Value} {pb : Nat} {w wc w8 : World} {Y : Hp} {k : Nat} (h : L2 M (mkX B nl lcs) B pb w wc M.N Y) (hb : Below wc.heap.size wc w8) {cs : Array Value} (hi : Blk w8 wc.heap.size 57 cs) (hs : cs.size = k) :
    L3 M (mkX B nl lcs) B pb wc.heap.size k w (w8.setCell ⟨B, 5, none⟩ (.slice (some ⟨wc.heap.size, 0, none⟩) k k)) Y 0 (fun _ => 0) (fun _ => 0) := by
  obtain ⟨hI, hP, hB, hsv⟩ := h
  have S8 := hI.S.below hb
  have hc8 : Blk w8 B 33 #[.int .i64 M.start, Y.v, .slice (some ⟨B + 3, 0, none⟩) nl nl, .int .u64 M.N, .pointer none, .slice none 0 0] := S8.hc
  have hBle : B ≤ wc.heap.size := by have := hsv.lt; omega
  obtain ⟨S9, _⟩ := S8.clocked (now' := M.start) (seq' := M.N) (idl' := .slice (some ⟨wc.heap.size, 0, none⟩) k k) (Nat.le_refl _) ((Fr.of_below (Below.refl _ w8)).setCell B 5 _ (Or.inl rfl)) (S8.hc.set 5 _)
  have hP8 : PRow w8 pb (2 * M.N) M.N M.ev := hP.of_block (hb.block _ hP.lt)
  obtain ⟨ps, hp1, hp2⟩ := hP8
  have hsv8 := hsv.below hb hsv.lt
  exact ⟨S9, hI.hlog, ⟨ps, hp1.setOther ⟨B, 5, none⟩ _ (hp1.ne hc8 (by decide)), hp2⟩, (hB.trans (hb.mono hBle)).setCell (by show B ≤ B; omega) _, hsv8.setOther ⟨B, 5, none⟩ _ (hsv8.ne hc8 (by decide)), ⟨cs, hi.setOther ⟨B, 5, none⟩ _ (hi.ne hc8 (by decide)), hs, fun j hj => by omega⟩, fun j hj => by omega, fun j hj => by omega⟩

theorem L3.step {M : Mdl} {B nl : Nat} {lcs : Array Value} {pb ib k : Nat} {w wr : World} {Y : Hp} {i : Nat} {wk ix : Nat → Nat} (h : L3 M (mkX B nl lcs) B pb ib k w wr Y i wk ix) (hi : i < k) (hib : B ≤ ib) {x y z : Value} :
    L3 M (mkX B nl lcs) B pb ib k w (((wr.setCell ⟨ib, i, none⟩ (.pointer (some ⟨wr.heap.size + 1, 0, none⟩))).alloc (.cells #[.int .i64 i] 3)).alloc (.cells #[x, .func (.func 8) #[] #[.pointer (some ⟨B + 2, 0, none⟩), .pointer (some ⟨wr.heap.size, 0, none⟩)], y, z] 63)) Y (i + 1) (upN wk i (wr.heap.size + 1)) (upN ix i wr.heap.size) := by
  obtain ⟨ics, h1, h2, h3⟩ := h.hi
  have hsz : (wr.setCell ⟨ib, i, none⟩ (.pointer (some ⟨wr.heap.size + 1, 0, none⟩))).heap.size = wr.heap.size := by simp [World.setCell]
  have o1 : Only ib wr (wr.setCell ⟨ib, i, none⟩ (.pointer (some ⟨wr.heap.size + 1, 0, none⟩))) := (Only.refl _ wr).setCell i _
  have nb : ∀ {T' : TypeId}, (57 : TypeId) ≠ T' → ∀ ds, ¬ Blk wr ib T' ds := fun hT ds hd => hT (h1.ty hd)
  have S1 := h.S.only o1 (h1.ne h.S.hc (by decide)) (h1.ne h.S.hst (by decide)) (h1.ne h.S.hlb (by decide)) (nb (by decide)) (nb (by decide)) (nb (by decide)) (by rw [h.hlog]; simp [Value.ownBlock])
  have h1' := h1.set i (.pointer (some ⟨wr.heap.size + 1, 0, none⟩))
  have st : ∀ {g : Nat} {T : TypeId} {ds : Array Value}, Blk wr g T ds → T ≠ 57 → Blk (wr.setCell ⟨ib, i, none⟩ (.pointer (some ⟨wr.heap.size + 1, 0, none⟩))) g T ds := fun hg hT => o1.blk hg (hg.ne h1 hT)
  have hB1 : Below B w (wr.setCell ⟨ib, i, none⟩ (.pointer (some ⟨wr.heap.size + 1, 0, none⟩))) := h.hb.setCell (by show B ≤ ib; exact hib) _
  have hBle : B ≤ wr.heap.size := by have := h.hsv.lt; omega
  obtain ⟨ps, hp1, hp2⟩ := h.hp
  have hp1' := st hp1 (by decide)
  have hsv' := st h.hsv (by decide)
  have hwk' : ∀ j, j < i → ∃ wcs, Blk (wr.setCell ⟨ib, i, none⟩ (.pointer (some ⟨wr.heap.size + 1, 0, none⟩))) (wk j) 63 wcs ∧ wcs[1]? = some (.func (.func 8) #[] #[.pointer (some ⟨B + 2, 0, none⟩), .pointer (some ⟨ix j, 0, none⟩)]) := fun j hj => by
    obtain ⟨wcs, q1, q2⟩ := h.hwk j hj; exact ⟨wcs, st q1 (by decide), q2⟩
  have hix' : ∀ j, j < i → Blk (wr.setCell ⟨ib, i, none⟩ (.pointer (some ⟨wr.heap.size + 1, 0, none⟩))) (ix j) 3 #[.int .i64 j] := fun j hj => st (h.hix j hj) (by decide)
  generalize wr.setCell ⟨ib, i, none⟩ (.pointer (some ⟨wr.heap.size + 1, 0, none⟩)) = wa at hsz S1 h1' st hB1 hp1' hsv' hwk' hix'
  have hb2 : Below wa.heap.size wa ((wa.alloc (.cells #[.int .i64 i] 3)).alloc (.cells #[x, .func (.func 8) #[] #[.pointer (some ⟨B + 2, 0, none⟩), .pointer (some ⟨wr.heap.size, 0, none⟩)], y, z] 63)) := ((Below.refl _ wa).alloc (Nat.le_refl _) _).alloc (by simp) _
  refine ⟨S1.below hb2, h.hlog, ⟨ps, hp1'.below hb2 hp1'.lt, hp2⟩, hB1.trans (hb2.mono (by omega)), hsv'.below hb2 hsv'.lt, ⟨_, h1'.below hb2 h1'.lt, by simpa using h2, fun j hj => ?_⟩, fun j hj => ?_, fun j hj => ?_⟩
  · by_cases e : j = i
    · subst e; rw [Array.getElem?_setIfInBounds_self_of_lt (by omega), upN_self]
    · rw [Array.getElem?_setIfInBounds_ne (Ne.symm e), upN_ne _ _ e]; exact h3 j (by omega)
  · by_cases e : j = i
    · subst e
      rw [upN_self, upN_self]
      refine ⟨#[x, .func (.func 8) #[] #[.pointer (some ⟨B + 2, 0, none⟩), .pointer (some ⟨wr.heap.size, 0, none⟩)], y, z], ?_, rfl⟩
      have := Blk.new (wa.alloc (.cells #[.int .i64 j] 3)) 63 #[x, .func (.func 8) #[] #[.pointer (some ⟨B + 2, 0, none⟩), .pointer (some ⟨wr.heap.size, 0, none⟩)], y, z]
      simp [hsz] at this
      exact this
    · rw [upN_ne _ _ e, upN_ne _ _ e]
      obtain ⟨wcs, q1, q2⟩ := hwk' j (by omega)
      exact ⟨wcs, q1.below hb2 q1.lt, q2⟩
  · by_cases e : j = i
    · subst e
      rw [upN_self]
      have := (Blk.new wa 3 #[.int .i64 j]).alloc (.cells #[x, .func (.func 8) #[] #[.pointer (some ⟨B + 2, 0, none⟩), .pointer (some ⟨wr.heap.size, 0, none⟩)], y, z] 63)
      rw [hsz] at this
      exact this
    · rw [upN_ne _ _ e]
      have := hix' j (by omega)
      exact this.below hb2 this.lt
end Go.Proofs.Ybulkeeeq
