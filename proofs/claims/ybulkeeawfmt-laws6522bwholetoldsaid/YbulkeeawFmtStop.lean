import Derived.Test.YbulkeeawFmtFill
namespace Go.Proofs.YbulkeeawFmt
open Go.RowKit
set_option linter.unusedVariables false

/-- All but block K below B is as it was. -/
structure But (K B : Nat) (w w' : World) : Prop where
  os : w'.os = w.os
  tape : w'.tape = w.tape
  output : w'.output = w.output
  size : w.heap.size ≤ w'.heap.size
  block : ∀ k, k < B → k ≠ K → w'.heap[k]? = w.heap[k]?

theorem But.refl (K B : Nat) (w : World) : But K B w w := ⟨rfl, rfl, rfl, Nat.le_refl _, fun _ _ _ => rfl⟩
theorem But.trans {K B : Nat} {a b c : World} (h : But K B a b) (k : But K B b c) : But K B a c :=
  ⟨k.os.trans h.os, k.tape.trans h.tape, k.output.trans h.output, Nat.le_trans h.size k.size, fun i hi hk => (k.block i hi hk).trans (h.block i hi hk)⟩
theorem But.of_below {K B : Nat} {w w' : World} (h : Below B w w') : But K B w w' := ⟨h.os, h.tape, h.output, h.size, fun k hk _ => h.block k hk⟩
theorem But.mono {K B B' : Nat} {w w' : World} (h : But K B w w') (hB : B' ≤ B) : But K B' w w' := ⟨h.os, h.tape, h.output, h.size, fun k hk hne => h.block k (Nat.lt_of_lt_of_le hk hB) hne⟩
theorem But.setCell {K B : Nat} {a w : World} (h : But K B a w) (j : Nat) (v : Value) : But K B a (w.setCell ⟨K, j, none⟩ v) :=
  h.trans ⟨rfl, rfl, rfl, by simp [World.setCell], fun k _ hk => Below.heap_setCell _ _ _ _ hk⟩
theorem But.drewN {K B : Nat} {a w : World} (h : But K B a w) (n : Nat) : But K B a (w.drewN n) := h.trans ⟨rfl, rfl, rfl, Nat.le_refl _, fun _ _ _ => rfl⟩
theorem But.cell {K B : Nat} {w w' : World} (h : But K B w w') {p : Addr} (hp : p.block < B) (hk : p.block ≠ K) : w'.cell? p = w.cell? p := World.cell?_of_block (w := w) (h.block p.block hp hk)
theorem But.blk {K B g : Nat} {w w' : World} (h : But K B w w') {T : TypeId} {cs : Array Value} (hb : Blk w g T cs) (hg : g < B) (hne : g ≠ K) : Blk w' g T cs := by
  unfold Blk at hb ⊢; rw [h.block g hg hne]; exact hb

theorem Tr.but {w w' : World} {T sp : Nat} {kb : Nat → Nat} {m K B : Nat} (h : Tr w T sp kb m) (hb : But K B w w') (h1 : T < B) (h2 : sp < B) (k1 : T ≠ K) (k2 : sp ≠ K) : Tr w' T sp kb m :=
  ⟨hb.blk h.blk h1 k1, by have := hb.size; have := h.lt; omega, fun q hq => by rw [hb.cell (by exact h2) (by exact k2)]; exact h.s0 q hq, fun q hq => by rw [hb.cell (by exact h2) (by exact k2)]; exact h.s1 q hq, fun q hq => by rw [hb.cell (by exact h2) (by exact k2)]; exact h.s2 q hq, fun q hq => by rw [hb.cell (by exact h2) (by exact k2)]; exact h.s3 q hq, h.m1, h.m2, h.k5⟩

/-- The client's cells. -/
def cliV (T off C cs lb nL cL st buf last slot used sb ly cLy sta cSt old held wst : Nat) : Array Value :=
  #[.pointer (some ⟨T, 0, none⟩), .int .i64 off, .int .i64 C, .int .i64 cs, .slice (some ⟨lb, 0, none⟩) nL cL, .int .i64 st, .int .i64 buf, .string ByteArray.empty,
    .int .i64 last, .int .i64 4, .int .i64 slot, .int .i64 used, .int .i64 sb, .slice (some ⟨ly, 0, none⟩) C cLy, .slice (some ⟨sta, 0, none⟩) C cSt, .int .i64 old, .int .i64 held, .int .i64 wst]

/-- The cells of a client, one by one. -/
structure CliAt (w : World) (K T off C cs lb nL cL st buf last slot used sb ly cLy sta cSt old held wst : Nat) : Prop where
  c0 : w.cell? ⟨K, 0, none⟩ = some (.pointer (some ⟨T, 0, none⟩))
  c1 : w.cell? ⟨K, 1, none⟩ = some (.int .i64 off)
  c2 : w.cell? ⟨K, 2, none⟩ = some (.int .i64 C)
  c3 : w.cell? ⟨K, 3, none⟩ = some (.int .i64 cs)
  c4 : w.cell? ⟨K, 4, none⟩ = some (.slice (some ⟨lb, 0, none⟩) nL cL)
  c5 : w.cell? ⟨K, 5, none⟩ = some (.int .i64 st)
  c6 : w.cell? ⟨K, 6, none⟩ = some (.int .i64 buf)
  c7 : w.cell? ⟨K, 7, none⟩ = some (.string ByteArray.empty)
  c8 : w.cell? ⟨K, 8, none⟩ = some (.int .i64 last)
  c9 : w.cell? ⟨K, 9, none⟩ = some (.int .i64 4)
  c10 : w.cell? ⟨K, 10, none⟩ = some (.int .i64 slot)
  c11 : w.cell? ⟨K, 11, none⟩ = some (.int .i64 used)
  c12 : w.cell? ⟨K, 12, none⟩ = some (.int .i64 sb)
  c13 : w.cell? ⟨K, 13, none⟩ = some (.slice (some ⟨ly, 0, none⟩) C cLy)
  c14 : w.cell? ⟨K, 14, none⟩ = some (.slice (some ⟨sta, 0, none⟩) C cSt)
  c15 : w.cell? ⟨K, 15, none⟩ = some (.int .i64 old)
  c16 : w.cell? ⟨K, 16, none⟩ = some (.int .i64 held)
  c17 : w.cell? ⟨K, 17, none⟩ = some (.int .i64 wst)
theorem cli_at {w : World} {K T off C cs lb nL cL st buf last slot used sb ly cLy sta cSt old held wst : Nat} (h : Blk w K 44 (cliV T off C cs lb nL cL st buf last slot used sb ly cLy sta cSt old held wst)) : CliAt w K T off C cs lb nL cL st buf last slot used sb ly cLy sta cSt old held wst :=
  ⟨h.cell 0, h.cell 1, h.cell 2, h.cell 3, h.cell 4, h.cell 5, h.cell 6, h.cell 7, h.cell 8, h.cell 9, h.cell 10, h.cell 11, h.cell 12, h.cell 13, h.cell 14, h.cell 15, h.cell 16, h.cell 17⟩

end Go.Proofs.YbulkeeawFmt
