import Derived.Test.YbulkeeeqCopy
namespace Go.Proofs.Ybulkeeeq
open Go.RowKit
set_option linter.unusedVariables false

theorem zero54 (w : World) : (zeroValue 54).run Yba.prog w = .ok (.agg #[.int .i64 0, .int .u64 0, .nilIface]) w := by
  obtain ⟨i0, hi, hz0, hz1, hz2⟩ := info_parts info54
  simp [zeroValue, typeInfo, hi, hz0]
theorem sizeOf54 (w : World) : (sizeOf (Yba.prog.elem 26)).run Yba.prog w = .ok 3 w := by
  have e : Yba.prog.elem 26 = 54 := by kernel_rfl
  obtain ⟨i0, hi, hz0, hz1, hz2⟩ := info_parts info54
  rw [e]; simp [sizeOf, typeInfo, hi, hz1]

theorem und26 : Yba.prog.underlying 26 = some (.slice (Yba.prog.elem 26)) := by
  rw [show Yba.prog.elem 26 = 54 by kernel_rfl]; exact Yba.underlying26
/-- 'l.events[k:]' -/
theorem run_cut (w : World) (g n c k : Nat) (hk : k ≤ n) : (Instr.slice 26 (.slice (some ⟨g, 0, none⟩) n c) (some (.int .i64 (k : Int))) none none).run Yba.prog w = .ok (.slice (some ⟨g, if c = k then 0 else k * 3, none⟩) (n - k) (c - k)) w := by
  rw [run_slice_l w 26 (some ⟨g, 0, none⟩) n c und26 .i64 (k : Int) (by omega) (by omega), sizeOf54]
  simp [Result.andThen, sliced]
  split
  · rfl
  · simp [Addr.add]; intro h; exact h.symm
/-- 'l.events[:k]' -/
theorem run_head (w : World) (g n c k : Nat) (hk : k ≤ c) : (Instr.slice 26 (.slice (some ⟨g, 0, none⟩) n c) none (some (.int .i64 (k : Int))) none).run Yba.prog w = .ok (.slice (some ⟨g, 0, none⟩) k c) w := by
  rw [run_slice_h w 26 (some ⟨g, 0, none⟩) n c und26 .i64 (k : Int) (by omega) (by omega), sizeOf54]
  simp [Result.andThen, sliced, Addr.add]

/-- 'clear' of a part of a row of events. -/
theorem run_clear54 (w : World) (g o n c : Nat) (ty : TypeId) (cur : Array Value) (t : TypeId) (hg : Blk w g t cur) (hn : 0 < n) (hfit : o + n * 3 ≤ cur.size) :
    ∃ zs : List Value, zs.length = n * 3 ∧ (Builtin.clear_ #[26] ty #[.slice (some ⟨g, o, none⟩) n c]).run Yba.prog w = .ok (.tuple #[]) (w.setRow g (cur.toList.take o ++ zs ++ cur.toList.drop (o + zs.length)).toArray) := by
  have hz : (Value.agg #[.int .i64 0, .int .u64 0, .nilIface]).cells = #[.int .i64 0, .int .u64 0, .nilIface] := by rfl
  have hlen : (Builtin.zeroCells #[.int .i64 0, .int .u64 0, .nilIface] n).toList.length = n * 3 := by simp [Builtin.zeroCells]
  have h1 : ∀ v ∈ (Builtin.zeroCells #[.int .i64 0, .int .u64 0, .nilIface] n).toList, v.oneCell' = true := by
    intro v hv
    simp [Builtin.zeroCells] at hv
    obtain ⟨i, hi, rfl⟩ := hv
    have h3 : i % 3 < 3 := Nat.mod_lt _ (by omega)
    rcases (by omega : i % 3 = 0 ∨ i % 3 = 1 ∨ i % 3 = 2) with e | e | e <;> rw [e] <;> rfl
  refine ⟨_, hlen, ?_⟩
  have hst := run_storeCells_at (P := Yba.prog) g o t (Builtin.zeroCells #[.int .i64 0, .int .u64 0, .nilIface] n).toList 0 cur w hg (by rw [hlen]; omega) h1
  simp only [Nat.add_zero] at hst
  obtain ⟨m, rfl⟩ : ∃ m, n = m + 1 := ⟨n - 1, by omega⟩
  simp only [Builtin.clear_]
  simp [run_underlying Yba.underlying26, hz, hst]

theorem setRow_blk {w : World} {g : Nat} {t : TypeId} {cur : Array Value} (hg : Blk w g t cur) (cs : Array Value) : Blk (w.setRow g cs) g t cs := setRow_heap w g _ _ t _ hg
theorem setRow_blk_other {w : World} {g k : Nat} {t : TypeId} {ds : Array Value} (hk : Blk w k t ds) (cs : Array Value) (hne : k ≠ g) : Blk (w.setRow g cs) k t ds := by
  unfold Blk at hk ⊢; rw [setRow_other w g k cs hne]; exact hk
theorem Fr.setRow {c : Nat} {row : Option Nat} {B : Nat} {x w : World} (h : Fr c row B x w) (g : Nat) (cs : Array Value) (hg : some g = row) : Fr c row B x (w.setRow g cs) :=
  h.trans ⟨rfl, rfl, rfl, by simp, fun k hk h1 h2 => setRow_other w g k cs (by intro e; subst e; exact h2 hg)⟩

/-- Any built-in copy whose run is known, as one step of a region that draws. -/
theorem step_copy_run {P : Program} {ops : Array Oper} {o : Oper} {a : Act} {w : World} {K : Act → World → Prop} {Q : Exit → Act → World → Prop} {E : Prop} (hgd : o.guard = none) (d s : Operand) (dT sT : TypeId)
    (ho : o.op = .call { callee := .builtin .copy, args := #[d, s], argTypes := #[dT, sT] }) (vd vs r : Value) (w' : World) (hd : a.eval d = vd) (hs : a.eval s = vs)
    (hrun : ∀ ty, (Builtin.copy_ #[dT, sT] ty #[vd, vs]).run P w = .ok r w') (h : K (a.put o.dst r) w') :
    if Region.wanted o (yielded ops a.tmps) = true then Oper.wp P o a w K Q else E := by
  have hw : Region.wanted o (yielded ops a.tmps) = true := by simp [Region.wanted, hgd]
  rw [if_pos hw]
  unfold Oper.wp
  simp [execOp, ho, resolve, invoke, builtin, hd, hs, hrun, Result.andThen]
  exact h

/-- What is left moves down: the copy of a row of events onto its own head. -/
theorem run_move54 (g n cap k q c' : Nat) (wf : Nat → Value) (h : Nat → Ev) (cs : Array Value) (hk : k ≤ n) (hcap : n ≤ cap) (hsz : cs.size = cap * 3) (hq : k < n → q = k * 3)
    (hcells : ∀ j r, k ≤ j → j < n → r < 3 → cs[j * 3 + r]? = some (evC wf (h j) r)) (hwf : ∀ s, ∃ o, wf s = .iface 46 (.pointer (some ⟨o, 0, none⟩))) :
    ∃ cs' : Array Value, cs'.size = cap * 3 ∧ (∀ j r, j < n - k → r < 3 → cs'[j * 3 + r]? = some (evC wf (h (k + j)) r)) ∧
      ∀ (w : World) ty, Blk w g 54 cs → (Builtin.copy_ #[26, 26] ty #[.slice (some ⟨g, 0, none⟩) n cap, .slice (some ⟨g, q, none⟩) (n - k) c']).run Yba.prog w = .ok (goInt (n - k : Nat)) (w.setRow g cs') := by
  have hl := evs_len wf (fun j => h (k + j)) (n - k)
  have hmin : Nat.min (n - k) n = n - k := Nat.min_eq_left (by omega)
  have hrun := fun (w : World) ty (hb : Blk w g 54 cs) => run_copy_sized (P := Yba.prog) w 26 26 ty 54 3 g 0 n cap ⟨g, q, none⟩ (n - k) c' cs 54 (evs wf (fun j => h (k + j)) (n - k)) Yba.underlying26 (by kernel_rfl) hb (by rw [hl, hmin])
    (fun j v hj => by
      have hj2 : j < (n - k) * 3 := by rw [← hl]; exact (List.getElem?_eq_some_iff.1 hj).1
      have e : j = (j / 3) * 3 + j % 3 := by omega
      rw [e, evs_get _ _ _ _ _ (by omega) (Nat.mod_lt _ (by omega))] at hj
      rw [WideShapes.add_plain, hb.cell, hq (by omega), show k * 3 + j = (k + j / 3) * 3 + j % 3 by omega, hcells _ _ (by omega) (by omega) (Nat.mod_lt _ (by omega))]
      exact hj)
    (by rw [hl, hsz]; omega)
    (fun v hv => by
      obtain ⟨j, hj⟩ := List.getElem?_of_mem hv
      have hj2 : j < (n - k) * 3 := by rw [← hl]; exact (List.getElem?_eq_some_iff.1 hj).1
      have e : j = (j / 3) * 3 + j % 3 := by omega
      rw [e, evs_get _ _ _ _ _ (by omega) (Nat.mod_lt _ (by omega))] at hj
      cases hj
      obtain ⟨o, ho⟩ := hwf (h (k + j / 3)).seq
      unfold evC
      rw [ho]
      split
      · rfl
      · split <;> rfl)
  simp only [hmin] at hrun
  refine ⟨_, ?_, ?_, hrun⟩
  · simp [hl, hsz]; omega
  · intro j r hj hr
    have := evs_get wf (fun j => h (k + j)) (n - k) j r hj hr
    simp only [List.take_zero, List.nil_append, List.getElem?_toArray]
    rw [List.getElem?_append_left (by rw [hl]; omega)]
    exact this
end Go.Proofs.Ybulkeeeq
