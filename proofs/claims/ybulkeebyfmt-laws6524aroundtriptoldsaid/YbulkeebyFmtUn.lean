import Derived.Test.YbulkeebyFmtChecked
import Derived.WalkKit
import Derived.WalkSpells
import Derived.WalkLawsBesides
import Derived.Stop.CallBack
import Derived.Stop.IfaceNil
import Derived.Stop.FmtTextSlices
import Derived.Laws.Cells
import Derived.Laws.IdiomStrings
namespace Go.Proofs.YbulkeebyFmt
open Go.RowKit Go.Extern.Stop Go.Stop Go.Extern

/-! The closed facts on fmt.errorf, a stop of this dump. -/
theorem call9 (args : Array Value) (w : World) : (callFunc 9 args).run Ybaf.prog w = ((FmtStop.errorf #[9, 32] #[25] args).run Ybaf.prog w).andThen fun v w' => .ok (.value v) w' :=
  run_callFunc_extern Ybaf.func9 (by kernel_rfl) (by kernel_rfl) (by kernel_rfl) (by kernel_rfl) args w
theorem guardF (name : String) (w : World) : (FmtStop.guard name).run Ybaf.prog w = .ok () w := by kernel_rfl
theorem fmtUp : FmtStop.printed? ⟨#[117, 110, 107, 110, 111, 119, 110, 32, 109, 101, 109, 98, 101, 114, 32, 111, 112, 32, 37, 113, 44, 32, 119, 97, 110, 116, 32, 97, 100, 100, 32, 111, 114, 32, 114, 101, 109, 111, 118, 101]⟩ 1 = some [(0, 113, false)] := by kernel_rfl
theorem fmtUr (w : World) : (FmtDoors.printed ⟨#[117, 110, 107, 110, 111, 119, 110, 32, 109, 101, 109, 98, 101, 114, 32, 111, 112, 32, 37, 113, 44, 32, 119, 97, 110, 116, 32, 97, 100, 100, 32, 111, 114, 32, 114, 101, 109, 111, 118, 101]⟩ 1).run Ybaf.prog w = .ok [(0, 113, false)] w := by kernel_rfl
theorem ptr36 (w : World) : (FmtStop.ptrTo "errors.errorString").run Ybaf.prog w = .ok 36 w := by kernel_rfl
theorem elem36 (w : World) : (elemOf 36).run Ybaf.prog w = .ok 38 w := by kernel_rfl
theorem isError36 (w : World) : (FmtDoors.textMethod 36 "Error").run Ybaf.prog w = .ok true w := by kernel_rfl

/-- The shape of []uint8. -/
def shape27 : List UInt8 := 13 :: (FmtStop.pack "[]uint8".toUTF8.data.toList ++ 6 :: FmtStop.pack "uint8".toUTF8.data.toList)
theorem value5 (name : String) (x : Int) (w : World) : (FmtStop.value name FmtStop.depth 5 [.int .u8 x]).run Ybaf.prog w = .ok (digits 8 (x % 2 ^ 64).toNat) w := by kernel_rfl
theorem values5 (name : String) (w : World) : ∀ xs : List Int, (List.mapM ((fun c => FmtStop.value name FmtStop.depth 5 [c]) ∘ Value.int IntKind.u8) xs).run Ybaf.prog w = .ok (xs.map fun x => digits 8 (x % 18446744073709551616).toNat) w
  | [] => by simp [List.mapM_nil]
  | x :: xs => by
    have ih := values5 name w xs
    have h := value5 name x w
    simp [List.mapM_cons, h, ih, Result.andThen]
theorem opBytes_113 (name : String) (a : Addr) (cap : Nat) (xs : List Int) (w : World) (hc : ∀ j v, (xs.map (Value.int .u8))[j]? = some v → w.cell? (a.add j) = some v) :
    (FmtStop.operand name true 113 false (.iface 27 (.slice (some a) xs.length cap))).run Ybaf.prog w = .ok (shape27, 1 :: (digits 8 xs.length ++ FmtText.intValues xs)) w := by
  have h1 : (typeStr 27).run Ybaf.prog w = .ok "[]uint8" w := by kernel_rfl
  have hb : (FmtStop.bare (FmtStop.asked true 113 false) 27).run Ybaf.prog w = .ok true w := by kernel_rfl
  have hs : (FmtStop.scalar 5).run Ybaf.prog w = .ok true w := by kernel_rfl
  have hy : (Extern.Stop.isByte 5).run Ybaf.prog w = .ok true w := by kernel_rfl
  have hw : Ybaf.prog.funcs.any (·.name == FmtStop.writeWord) = true := by kernel_rfl
  have hsh : (FmtStop.shape name (FmtStop.asked true 113 false) FmtStop.depth 5).run Ybaf.prog w = .ok (6 :: FmtStop.pack "uint8".toUTF8.data.toList) w := by kernel_rfl
  have hl := run_loadCells_list (P := Ybaf.prog) w a (xs.map (Value.int .u8)) hc
  rw [List.length_map] at hl
  simp [FmtStop.operand, h1, hb, hs, hy, hsh, hl, values5, shape27, FmtText.intValues]
  intro hno
  obtain ⟨i, hi, _, _, he⟩ := Array.any_iff_exists.1 hw
  exact absurd (by simpa using he) (hno i hi)

/-- The bytes l lie at the head of block g. -/
def Bytes (w : World) (g : Nat) (l : List UInt8) : Prop := ∀ j (hj : j < l.length), w.cell? ((⟨g, 0, none⟩ : Addr).add j) = some (.int .u8 (l[j].toNat : Int))

set_option maxHeartbeats 400000 in
theorem un_bad (F : Interp) (p g c : Nat) (l : List UInt8) (w : World) (hF : F.answers w.tape) (hb : Bytes w g l)
    (h1 : (l == [97, 100, 100]) = false) (h2 : (l == [114, 101, 109, 111, 118, 101]) = false) :
    Calls Ybaf.prog 5 #[.pointer (some ⟨p, 0, none⟩), .slice (some ⟨g, 0, none⟩) l.length c] w fun e w' => e = .returned (.iface 36 (.pointer (some ⟨w.heap.size + 1, 0, none⟩))) ∧ Below w.heap.size w w' := by
  have hF' := answers_open hF
  have hcv := run_convert_bytes_back (P := Ybaf.prog) w 27 9 5 ⟨g, 0, none⟩ c l Ybaf.underlying27 Ybaf.underlying5 Ybaf.underlying9 hb
  have k1 := call9
  have k2 := guardF
  have k3 := fmtUp
  have k4 := fmtUr
  have k5 := ptr36
  have k6 := elem36
  have k7 := isError36
  have hop := fun (o : Obj) => opBytes_113 "fmt.errorf" ⟨g, 0, none⟩ c (l.map fun b => (b.toNat : Int)) (w.alloc o) (fun j v hj => cell_later ((Below.refl _ w).alloc (Nat.le_refl _) o) (by
    simp at hj
    obtain ⟨b, hb', rfl⟩ := hj
    obtain ⟨hlt, rfl⟩ := List.getElem?_eq_some_iff.1 hb'
    exact hb j hlt))
  rw [List.length_map] at hop
  go_enter Ybaf.func5, Ybaf.ntmps5
  go_wp2
  go_ret
  exact ⟨rfl, ((((Below.refl _ w).alloc (Nat.le_refl _) _).alloc (by simp) _).drew)⟩

set_option maxHeartbeats 400000 in
theorem un_add (p g c : Nat) (v : Value) (w : World) (hb : Bytes w g [97, 100, 100]) (hp : w.cell? ⟨p, 0, none⟩ = some v) (hf : w.frozen? ⟨p, 0, none⟩ = false) :
    Calls Ybaf.prog 5 #[.pointer (some ⟨p, 0, none⟩), .slice (some ⟨g, 0, none⟩) 3 c] w fun e w' => e = .returned .nilIface ∧ w' = w.setCell ⟨p, 0, none⟩ (.int .i64 0) := by
  have hcv := run_convert_bytes_back (P := Ybaf.prog) w 27 9 5 ⟨g, 0, none⟩ c [97, 100, 100] Ybaf.underlying27 Ybaf.underlying5 Ybaf.underlying9 hb
  simp only [List.length_cons, List.length_nil] at hcv
  go_enter Ybaf.func5, Ybaf.ntmps5
  go_wp2
  go_ret
  exact ⟨rfl, rfl⟩

set_option maxHeartbeats 400000 in
theorem un_rem (p g c : Nat) (v : Value) (w : World) (hb : Bytes w g [114, 101, 109, 111, 118, 101]) (hp : w.cell? ⟨p, 0, none⟩ = some v) (hf : w.frozen? ⟨p, 0, none⟩ = false) :
    Calls Ybaf.prog 5 #[.pointer (some ⟨p, 0, none⟩), .slice (some ⟨g, 0, none⟩) 6 c] w fun e w' => e = .returned .nilIface ∧ w' = w.setCell ⟨p, 0, none⟩ (.int .i64 1) := by
  have hcv := run_convert_bytes_back (P := Ybaf.prog) w 27 9 5 ⟨g, 0, none⟩ c [114, 101, 109, 111, 118, 101] Ybaf.underlying27 Ybaf.underlying5 Ybaf.underlying9 hb
  simp only [List.length_cons, List.length_nil] at hcv
  go_enter Ybaf.func5, Ybaf.ntmps5
  go_wp2
  go_ret
  exact ⟨rfl, rfl⟩

end Go.Proofs.YbulkeebyFmt
