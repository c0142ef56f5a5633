import Derived.Test.YbulkeeeqBsr
namespace Go.Proofs.Ybulkeeeq
open Go.RowKit
set_option linter.unusedVariables false

set_option maxHeartbeats 1000000 in
set_option maxRecDepth 100000 in
theorem runOf_calls (n0 nb gR nR cR L M : Nat) (ek : Nat → Ent) (s : ByteArray) (w : World) (hn : nR ≤ 65536) (hM : M ≤ 65536) (hk : RRow w n0 gR nR L M ek) (hc : w.cell? ⟨nb, 59, none⟩ = some (.slice (some ⟨gR, 0, none⟩) nR cR)) (hg : gR < n0) (hnb : nb < n0) (hn0 : n0 ≤ w.heap.size) (hp0 : 0 < nR)
    (hpos : ∀ r, r < nR → 0 < rlen L M r) (hf : Falls (rlt ek L M s) nR) :
    Calls Yba.prog 40 #[.pointer (some ⟨nb, 59, none⟩), .string s] w fun ex w' => ∃ i c : Nat, ex = .returned (.int .i64 i) ∧ Cut (rlt ek L M s) nR c ∧ i = min c (nR - 1) ∧ Below w.heap.size w w' := by
  have hcall : Hid (∀ x, Below w.heap.size w x → Calls Yba.prog 53 #[.slice (some ⟨gR, 0, none⟩) nR cR, .string s, .func (.func 54) #[] #[]] x fun ex w' => ∃ (j : Nat) (fd : Bool), ex = .returned (.tuple #[.int .i64 j, .bool fd]) ∧ Cut (rlt ek L M s) nR j ∧ Below x.heap.size x w') := fun x hx =>
    searchRuns_calls n0 gR nR cR L M ek s x hn hM (hk.below (hx.mono hn0) hg) hg (Nat.le_trans hn0 hx.size) hpos hf
  have hc2 : Hid (∀ x, Below w.heap.size w x → x.cell? ⟨nb, 59, none⟩ = some (.slice (some ⟨gR, 0, none⟩) nR cR)) := fun x hx => by rw [hx.cell (by show nb < w.heap.size; omega)]; exact hc
  have hnl : nb < w.heap.size := by omega
  have hb0 : Hid (Below w.heap.size w w) := Below.refl _ _
  clear hk hpos hf
  obtain ⟨m, hm⟩ : ∃ x, x = nR - 1 := ⟨_, rfl⟩
  have em : (nR : Int) - 1 = (m : Int) := by omega
  have hm' : Hid (m = nR - 1) := hm
  clear hm
  go_enter Yba.func40, Yba.ntmps40
  go_upto_region 2 with (go_at_call 53; refine (hcall.out _ hb0.out).mono ?_; rintro ex w2 ⟨j, fd, rfl, hq1, hq2⟩)
  have hq1' : Hid (Cut (rlt ek L M s) nR j) := hq1
  have hq2' : Hid (Below w.heap.size w w2) := hq2
  have hjn := hq1.1
  have c2 := hc2.out w2 hq2
  clear hq1 hq2 hc
  go_wp2
  go_returns
  refine ⟨min j m, j, ?_, hq1'.out, by rw [hm'.out], hq2'.out⟩
  show Ending.returned (.int .i64 (min (j : Int) (m : Int))) = _
  congr 2; omega
end Go.Proofs.Ybulkeeeq
