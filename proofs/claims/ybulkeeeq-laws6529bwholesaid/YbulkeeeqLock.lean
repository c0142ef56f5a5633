import Derived.Test.YbulkeeeqMaps
import Derived.Conc.MuLone
import Derived.DefersIn
namespace Go.Proofs.Ybulkeeeq
open Go.RowKit Go.MuLone
set_option linter.unusedVariables false

abbrev muLink : Go.Conc.Locks.MuLink := { lock := 23, unlock := 24, ilock := 37, iunlock := 38, lockSlow := 49, unlockSlow := 52, disable := 44, enable := 45, acquire := 47, relMerge := 50, cas32 := 46, add32 := 51, tMutex := 100, tIMutex := 98, tPMutex := 140, tPIMutex := 154, tPI32 := 156, tUP := 158, tNoCopy := 95, tU32 := 96 }
theorem muLib : Go.Conc.Locks.MuLib Yba.prog muLink :=
  ⟨Yba.func23, Yba.func24, Yba.func37, Yba.func38, Yba.func44, Yba.func45, Yba.func47, Yba.func50, Yba.func46, Yba.func51, Yba.underlying98, Yba.runUnderlying98, Yba.sizeOf98, Yba.isAgg98, Yba.zeroValue98, Yba.underlying100, Yba.runUnderlying100, Yba.sizeOf100, Yba.isAgg100, Yba.zeroValue100, Yba.underlying140, Yba.runUnderlying140, Yba.sizeOf140, Yba.isAgg140, Yba.zeroValue140, Yba.underlying154, Yba.runUnderlying154, Yba.sizeOf154, Yba.isAgg154, Yba.zeroValue154, Yba.underlying156, Yba.runUnderlying156, Yba.sizeOf156, Yba.isAgg156, Yba.zeroValue156, Yba.underlying158, Yba.runUnderlying158, Yba.sizeOf158, Yba.isAgg158, Yba.zeroValue158, Yba.underlying95, Yba.runUnderlying95, Yba.sizeOf95, Yba.isAgg95, Yba.zeroValue95, Yba.underlying21, Yba.runUnderlying21, Yba.sizeOf21, Yba.isAgg21, Yba.zeroValue21, (by kernel_rfl)⟩

theorem lock_calls (g o : Nat) (w : World) (hc : w.cell? ⟨g, o, none⟩ = some (.int .i32 0)) (hz : w.frozen? ⟨g, o, none⟩ = false) :
    Calls Yba.prog 23 #[.pointer (some ⟨g, o, none⟩)] w fun e w' => e = .returned (.tuple #[]) ∧ w' = w.setCell ⟨g, o, none⟩ (.int .i32 1) := lock_free muLib ⟨g, o, none⟩ w hc hz

set_option maxHeartbeats 1000000 in
set_option maxRecDepth 100000 in
/-- The deferred Unlock, inside the wide fence. -/
theorem unlock_in (n g o : Nat) (u : FrameMode) (w : World) (hc : w.cell? ⟨g, o, none⟩ = some (.int .i32 1)) (hz : w.frozen? ⟨g, o, none⟩ = false) :
    CallsDIn Fence.wide n Yba.prog 24 #[.pointer (some ⟨g, o, none⟩)] u w fun e u' w' => u' = u ∧ (e = .returned (.tuple #[]) ∧ w' = w.setCell ⟨g, o, none⟩ (.int .i32 0)) := by
  refine callsDIn_of_wp (R := fun e w' => e = .returned (.tuple #[]) ∧ w' = w.setCell ⟨g, o, none⟩ (.int .i32 0)) Yba.func24 rfl trivial ?_ rfl
  refine wpIn_wide.2 ?_
  simp only [Yba.ntmps24, List.size_toArray, List.length_cons, List.length_nil, Nat.reduceAdd, Nat.reduceSub, Array.replicate_succ, Array.replicate_zero, List.push_toArray, List.append_toArray, List.nil_append, List.cons_append]
  have hcall : Hid (Calls Yba.prog 38 #[.pointer (some ⟨g, o, none⟩)] w fun e w' => e = .returned (.tuple #[]) ∧ w' = w.setCell ⟨g, o, none⟩ (.int .i32 0)) := iunlock_held muLib ⟨g, o, none⟩ w hc hz
  go_wp2_with (go_at_call 38; refine hcall.out.mono ?_; rintro e w' ⟨rfl, rfl⟩)
  go_end0
  exact ⟨rfl, rfl⟩

set_option maxRecDepth 100000 in
/-- The conversion of a pointer to the mutex that TryLock makes for the race detector, laid out. -/
theorem run_seen (a : Addr) (w : World) : (convert 154 158 (.pointer (some a))).run Yba.prog w = (Conv.seenAt a >>= fun s => cellsIn s.block >>= fun r => sizeOf 98 >>= fun z => if (decide (z = 0) || (match r with | some c => decide (s.off ≥ c) && s.spot.isNone | none => false)) = true then newObj (.view s 98) >>= fun b => pure (.pointer (some ⟨b, 0, none⟩)) else pure (.pointer (some s)) : Sem Value).run Yba.prog w := by kernel_rfl
/-- It gives the same address. -/
theorem run_same {g o : Nat} {v : Value} {w : World} (hc : w.cell? ⟨g, o, none⟩ = some v) : (convert 154 158 (.pointer (some ⟨g, o, none⟩))).run Yba.prog w = .ok (.pointer (some ⟨g, o, none⟩)) w := by
  obtain ⟨e, n, hsh, hlt, hsp⟩ := World.shape?_of_cell? hc
  obtain ⟨i, hi, hz0⟩ := Option.map_eq_some_iff.1 muLib.room_tIMutex
  have hz : i.size ≠ 0 := by simpa using hz0
  have hge : ¬ (n ≤ o) := by have : o < n := hlt; omega
  have hi' : Yba.prog.info? 98 = some i := hi
  have hsh' : w.shape? g = some (e, n) := hsh
  rw [run_seen]
  simp [Conv.seenAt, viewAt, cellsIn, sizeOf, typeInfo, hi', hz, hsh', hge, Result.andThen]

set_option maxHeartbeats 1000000 in
set_option maxRecDepth 100000 in
theorem itry_calls (g o : Nat) (w : World) (hc : w.cell? ⟨g, o, none⟩ = some (.int .i32 0)) (hz : w.frozen? ⟨g, o, none⟩ = false) :
    Calls Yba.prog 28 #[.pointer (some ⟨g, o, none⟩)] w fun e w' => e = .returned (.bool true) ∧ w' = w.setCell ⟨g, o, none⟩ (.int .i32 1) := by
  have hd : ∀ w, (callFunc 44 #[]).run Yba.prog w = .ok (.value (.tuple #[])) w := disable muLib
  have he : ∀ w, (callFunc 45 #[]).run Yba.prog w = .ok (.value (.tuple #[])) w := enable muLib
  have ha : ∀ (a : Addr) w, (callFunc 47 #[.pointer (some a)]).run Yba.prog w = .ok (.value (.tuple #[])) w := acquire muLib
  have hcas := run_call_cas_hit (P := Yba.prog) Yba.func46 (by kernel_rfl) (by kernel_rfl) (by kernel_rfl) .i32 (by kernel_rfl) (y := 1) hc hz
  have hc' : (w.setCell ⟨g, o, none⟩ (.int .i32 1)).cell? ⟨g, o, none⟩ = some (.int .i32 1) := by simp [go_sem, hc]
  have hcv := run_same hc'
  have e1 : bits .and .i32 0 5 = 0 := by decide +kernel
  have e2 : bits .or .i32 0 1 = 1 := by decide +kernel
  go_enter Yba.func28, Yba.ntmps28
  go_wp2
  go_returns
  exact ⟨rfl, rfl⟩

set_option maxHeartbeats 1000000 in
set_option maxRecDepth 100000 in
theorem tryLock_calls (g o : Nat) (w : World) (hc : w.cell? ⟨g, o, none⟩ = some (.int .i32 0)) (hz : w.frozen? ⟨g, o, none⟩ = false) :
    Calls Yba.prog 16 #[.pointer (some ⟨g, o, none⟩)] w fun e w' => e = .returned (.bool true) ∧ w' = w.setCell ⟨g, o, none⟩ (.int .i32 1) := by
  have hcall : Hid (Calls Yba.prog 28 #[.pointer (some ⟨g, o, none⟩)] w fun e w' => e = .returned (.bool true) ∧ w' = w.setCell ⟨g, o, none⟩ (.int .i32 1)) := itry_calls g o w hc hz
  go_enter Yba.func16, Yba.ntmps16
  go_wp2_with (go_at_call 28; refine hcall.out.mono ?_; rintro e w' ⟨rfl, rfl⟩)
  go_returns
  exact ⟨rfl, rfl⟩
end Go.Proofs.Ybulkeeeq
