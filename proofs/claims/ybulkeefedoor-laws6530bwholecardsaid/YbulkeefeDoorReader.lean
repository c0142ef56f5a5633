import Derived.Test.YbulkeefeDoorBys
import Derived.Test.YbulkeefeDoorShelf
namespace Go.Proofs.YbulkeefeDoor
open Go.RowKit

/-- What the reader at block R holds: 'some l': the bytes l are left; 'none': a read has failed. -/
def RS (w : World) (R : Nat) (sv : Value) : Option (List UInt8) → Prop
  | some l => ∃ a c, Blk w R 42 #[.slice a l.length c, .nilIface] ∧ Bys w a l ∧ Off a l.length R ∧ l.length ≤ c ∧ l.length ≤ 4194304
  | none => Blk w R 42 #[.slice none 0 0, sv]

theorem uv_calls (a : Option Addr) (c : Nat) (l : List UInt8) (w : World) (h : Bys w a l) :
    Calls Ybad.prog 18 #[.slice a l.length c] w fun e w' => e = .returned (.tuple #[.int .u64 (Lib.uvarintDec l).1, .int .i64 (Lib.uvarintDec l).2]) ∧ w' = w := by
  cases l with
  | nil => exact Ybad.binary_Uvarint_empty a c w
  | cons b t =>
    obtain ⟨g, off, rfl, _, _⟩ := h 0 (by simp)
    refine Ybad.binary_Uvarint g off _ c (b :: t) w rfl ?_
    intro j hj
    obtain ⟨g', off', e, _, hc⟩ := h j hj
    simp only [Option.some.injEq, Addr.mk.injEq] at e
    obtain ⟨rfl, rfl, _⟩ := e
    rw [hc]
    simp only [getD_lt hj]

set_option maxHeartbeats 400000 in
theorem fail_calls (R : Nat) (tp : TypeId) (p : Value) (x y : Value) (w : World) (hb : Blk w R 42 #[x, y]) (hg : w.cell? ⟨0, 0, none⟩ = some (.iface tp p)) :
    Calls Ybad.prog 16 #[.pointer (some ⟨R, 0, none⟩)] w fun e w' => e = .returned (.tuple #[]) ∧ Blk w' R 42 #[.slice none 0 0, .iface tp p] ∧ Only R w w' := by
  have c1 := hb.cell 1
  have f1 := hb.frozen 1
  have hb2 := hb.set 1 (.iface tp p)
  have c0 := hb2.cell 0
  have f0 := hb2.frozen 0
  go_enter Ybad.func16, Ybad.ntmps16
  go_wp2
  go_end0
  exact ⟨rfl, by simpa using hb2.set 0 (.slice none 0 0), ((Only.refl R w).setCell 1 _).setCell 0 _⟩
theorem uv_at (a : Option Addr) (c : Nat) (l : List UInt8) (v : Nat) (k : Int) (w : World) (h : Bys w a l) (hd : Hid (Lib.uvarintDec l = (v, k))) :
    Calls Ybad.prog 18 #[.slice a l.length c] w fun e w' => e = .returned (.tuple #[.int .u64 v, .int .i64 k]) ∧ w' = w := by
  have := uv_calls a c l w h
  have hd' : Lib.uvarintDec l = (v, k) := hd
  rw [hd'] at this
  exact this

theorem uvFrom_le : ∀ (l : List UInt8) (i acc : Nat), (Lib.uvarintFrom i acc l).2 ≤ (i + l.length : Nat)
  | [], i, acc => by simp [Lib.uvarintFrom]
  | b :: t, i, acc => by
    have ih := uvFrom_le t (i + 1) (acc + b.toNat % 128 * 2 ^ (7 * i))
    simp only [Lib.uvarintFrom, List.length_cons]
    split
    · simp; omega
    · split
      · split
        · simp; omega
        · simp; omega
      · simp at ih ⊢; omega

theorem dec_split (l : List UInt8) : (∃ v k : Nat, Lib.uvarintDec l = (v, (k : Int)) ∧ 0 < k ∧ k ≤ l.length ∧ v < 18446744073709551616) ∨ (Lib.uvarintDec l).2 ≤ 0 := by
  by_cases h : 0 < (Lib.uvarintDec l).2
  · left
    refine ⟨(Lib.uvarintDec l).1, (Lib.uvarintDec l).2.toNat, ?_, by omega, ?_, Lib.uvarintDec_lt l⟩
    · rw [Int.toNat_of_nonneg (by omega)]
    · have := uvFrom_le l 0 0
      have e : (Lib.uvarintDec l).2 ≤ (0 + l.length : Nat) := this
      omega
  · right; omega

set_option maxHeartbeats 400000 in
theorem ruv_ok (R : Nat) (a : Option Addr) (c : Nat) (l : List UInt8) (y : Value) (v k : Nat) (w : World) (hb : Blk w R 42 #[.slice a l.length c, y]) (h : Bys w a l) (hd : Hid (Lib.uvarintDec l = (v, (k : Int)))) (hk0 : 0 < k) (hk : k ≤ l.length) :
    Calls Ybad.prog 15 #[.pointer (some ⟨R, 0, none⟩)] w fun e w' => e = .returned (.int .u64 v) ∧ Blk w' R 42 #[.slice (cutA a c k) (l.length - k) (c - k), y] ∧ Only R w w' := by
  have c0 := hb.cell 0
  have f0 := hb.frozen 0
  have hs := run_from w a l.length c k hk
  go_enter Ybad.func15, Ybad.ntmps15
  go_wp2_with (go_at_call 18; refine (uv_at a c l v k _ h hd).mono ?_; rintro e w1 ⟨rfl, rfl⟩)
  go_ret
  exact ⟨rfl, by simpa using hb.set 0 (.slice (cutA a c k) (l.length - k) (c - k)), (Only.refl R _).setCell 0 _⟩

set_option maxHeartbeats 400000 in
theorem ruv_fail (R : Nat) (a : Option Addr) (c : Nat) (l : List UInt8) (y : Value) (tp : TypeId) (p : Value) (v : Nat) (k : Int) (w : World) (hb : Blk w R 42 #[.slice a l.length c, y]) (h : Bys w a l) (hd : Hid (Lib.uvarintDec l = (v, k))) (hk0 : k ≤ 0) (hg : w.cell? ⟨0, 0, none⟩ = some (.iface tp p)) :
    Calls Ybad.prog 15 #[.pointer (some ⟨R, 0, none⟩)] w fun e w' => e = .returned (.int .u64 0) ∧ Blk w' R 42 #[.slice none 0 0, .iface tp p] ∧ Only R w w' := by
  have c0 := hb.cell 0
  have hk1 : decide (k ≤ 0) = true := by simpa using hk0
  go_enter Ybad.func15, Ybad.ntmps15
  go_wp2_with (first
    | (go_at_call 18; refine (uv_at a c l v k _ h hd).mono ?_; rintro e w1 ⟨rfl, rfl⟩)
    | (go_at_call 16; refine (fail_calls R tp p _ _ _ hb hg).mono ?_; rintro e w1 ⟨rfl, hb1, ho⟩))
  go_ret
  exact ⟨rfl, hb1, ho⟩

/-- Count's answer and the state behind it. -/
def cntS : Option (List UInt8) → Nat × Option (List UInt8)
  | none => (0, none)
  | some l => match cnt l with
    | none => (0, none)
    | some (n, r) => (n, some r)

theorem cell_only {w w' : World} {R : Nat} {v : Value} (h : Only R w w') (hR : 0 < R) (hg : w.cell? ⟨0, 0, none⟩ = some v) : w'.cell? ⟨0, 0, none⟩ = some v := by
  rw [← hg]
  have hb := h.block 0 (by omega)
  simp only [World.cell?, hb]

set_option maxHeartbeats 400000 in
theorem count_ok (R : Nat) (a : Option Addr) (c : Nat) (l : List UInt8) (v k m : Nat) (w : World)
    (hb : Blk w R 42 #[.slice a l.length c, .nilIface]) (h : Bys w a l) (hm : Hid (m = l.length - k)) (hbig : m ≤ 4194304) (hd : Hid (Lib.uvarintDec l = (v, (k : Int)))) (hk0 : 0 < k) (hk : k ≤ l.length) (hle : v ≤ m) :
    Calls Ybad.prog 13 #[.pointer (some ⟨R, 0, none⟩)] w fun e w' => e = .returned (.int .i64 v) ∧ Blk w' R 42 #[.slice (cutA a c k) m (c - k), .nilIface] ∧ Only R w w' := by
  go_enter Ybad.func13, Ybad.ntmps13
  go_wp2_with (go_at_call 15; refine (ruv_ok R a c l _ v k _ hb h hd hk0 hk).mono ?_; rintro e w1 ⟨rfl, hb1, ho⟩; rw [← hm.out] at hb1; have c1 := hb1.cell 0; clear hk)
  go_ret
  exact ⟨rfl, hb1, ho⟩

set_option maxHeartbeats 400000 in
theorem count_over (R : Nat) (a : Option Addr) (c : Nat) (l : List UInt8) (v k m : Nat) (tp : TypeId) (p : Value) (w : World) (hR : 0 < R) (hg : w.cell? ⟨0, 0, none⟩ = some (.iface tp p))
    (hb : Blk w R 42 #[.slice a l.length c, .nilIface]) (h : Bys w a l) (hm : Hid (m = l.length - k)) (hbig : m ≤ 4194304) (hd : Hid (Lib.uvarintDec l = (v, (k : Int)))) (hk0 : 0 < k) (hk : k ≤ l.length) (hle : m < v) :
    Calls Ybad.prog 13 #[.pointer (some ⟨R, 0, none⟩)] w fun e w' => e = .returned (.int .i64 0) ∧ Blk w' R 42 #[.slice none 0 0, .iface tp p] ∧ Only R w w' := by
  go_enter Ybad.func13, Ybad.ntmps13
  go_wp2_with (first
    | (go_at_call 15; refine (ruv_ok R a c l _ v k _ hb h hd hk0 hk).mono ?_; rintro e w1 ⟨rfl, hb1, ho⟩; rw [← hm.out] at hb1; have c1 := hb1.cell 0; have hg1 := cell_only ho hR hg; clear hk)
    | (go_at_call 16; refine (fail_calls R tp p _ _ _ hb1 hg1).mono ?_; rintro e w2 ⟨rfl, hb2, ho2⟩))
  go_ret
  exact ⟨rfl, hb2, ho.trans ho2⟩

set_option maxHeartbeats 400000 in
theorem count_fail (R : Nat) (a : Option Addr) (c : Nat) (l : List UInt8) (y : Value) (v : Nat) (k : Int) (tp : TypeId) (p : Value) (w : World) (hg : w.cell? ⟨0, 0, none⟩ = some (.iface tp p))
    (hb : Blk w R 42 #[.slice a l.length c, y]) (h : Bys w a l) (hd : Hid (Lib.uvarintDec l = (v, k))) (hk0 : k ≤ 0) :
    Calls Ybad.prog 13 #[.pointer (some ⟨R, 0, none⟩)] w fun e w' => e = .returned (.int .i64 0) ∧ Blk w' R 42 #[.slice none 0 0, .iface tp p] ∧ Only R w w' := by
  go_enter Ybad.func13, Ybad.ntmps13
  go_wp2_with (go_at_call 15; refine (ruv_fail R a c l _ tp p v k _ hb h hd hk0 hg).mono ?_; rintro e w1 ⟨rfl, hb1, ho⟩; have c1 := hb1.cell 0)
  go_ret
  exact ⟨rfl, hb1, ho⟩

theorem count_calls (R : Nat) (st : Option (List UInt8)) (tp : TypeId) (p : Value) (w : World) (hR : 0 < R) (hg : w.cell? ⟨0, 0, none⟩ = some (.iface tp p)) (h : RS w R (.iface tp p) st) :
    Calls Ybad.prog 13 #[.pointer (some ⟨R, 0, none⟩)] w fun e w' => e = .returned (.int .i64 (cntS st).1) ∧ RS w' R (.iface tp p) (cntS st).2 ∧ Only R w w' := by
  cases st with
  | none => exact count_fail R none 0 [] (.iface tp p) 0 0 tp p w hg h (Bys.nil _ _) rfl (by omega)
  | some l =>
    obtain ⟨a, c, hb, hbys, hoff, hc, hbig⟩ := h
    rcases dec_split l with ⟨v, k, hd, hk0, hk, _⟩ | hneg
    · by_cases hle : v ≤ l.length - k
      · have hcnt : cnt l = some (v, l.drop k) := by
          unfold cnt; rw [hd]; simp only [Int.toNat_natCast, List.length_drop]
          rw [if_pos (by omega), if_pos hle]
        refine (count_ok R a c l v k (l.length - k) w hb hbys rfl (by omega) hd hk0 hk hle).mono ?_
        rintro e w' ⟨rfl, hb', ho⟩
        rw [show cntS (some l) = (v, some (l.drop k)) by simp only [cntS, hcnt]]
        refine ⟨rfl, ⟨cutA a c k, c - k, by rw [List.length_drop]; exact hb', (hbys.only hoff ho).drop hc, by rw [List.length_drop]; exact hoff.cut c k, by rw [List.length_drop]; omega, by rw [List.length_drop]; omega⟩, ho⟩
      · have hcnt : cnt l = none := by
          unfold cnt; rw [hd]; simp only [Int.toNat_natCast, List.length_drop]
          rw [if_pos (by omega), if_neg hle]
        refine (count_over R a c l v k (l.length - k) tp p w hR hg hb hbys rfl (by omega) hd hk0 hk (by omega)).mono ?_
        rintro e w' ⟨rfl, hb', ho⟩
        rw [show cntS (some l) = (0, none) by simp only [cntS, hcnt]]
        exact ⟨rfl, hb', ho⟩
    · have hcnt : cnt l = none := by unfold cnt; rw [if_neg (by omega)]
      refine (count_fail R a c l .nilIface (Lib.uvarintDec l).1 (Lib.uvarintDec l).2 tp p w hg hb hbys rfl hneg).mono ?_
      rintro e w' ⟨rfl, hb', ho⟩
      rw [show cntS (some l) = (0, none) by simp only [cntS, hcnt]]
      exact ⟨rfl, hb', ho⟩

/-- 'b[:n:n]' -/
theorem run_head (w : World) (a : Option Addr) (n c k : Nat) (hk : k ≤ c) : (Instr.slice 22 (.slice a n c) none (some (.int .i64 (k : Int))) (some (.int .i64 (k : Int)))).run Ybad.prog w = .ok (.slice a k k) w := by
  rw [run_slice_hm w 22 a n c Ybad.underlying22 .i64 .i64 (k : Int) (k : Int) (by omega) (by omega) (by omega)]
  have : (sizeOf (Ybad.prog.elem 22)).run Ybad.prog w = .ok 1 w := by
    have e : Ybad.prog.elem 22 = 5 := by kernel_rfl
    rw [e]; exact Ybad.sizeOf5 w
  rw [this]
  cases a <;> simp [Result.andThen, sliced, Addr.add]

theorem one_cntS (st : Option (List UInt8)) : one st = (match (cntS st).2 with | none => [] | some r => r.take (cntS st).1, match (cntS st).2 with | none => none | some r => some (r.drop (cntS st).1)) := by
  cases st with
  | none => rfl
  | some l =>
    simp only [one, cntS]
    cases cnt l with
    | none => rfl
    | some x => rfl
theorem cntS_le {st : Option (List UInt8)} {r : List UInt8} (h : (cntS st).2 = some r) : (cntS st).1 ≤ r.length := by
  cases st with
  | none => simp [cntS] at h
  | some l =>
    simp only [cntS] at h ⊢
    cases hc : cnt l with
    | none => rw [hc] at h; simp at h
    | some x =>
      rw [hc] at h
      simp only [Option.some.injEq] at h
      subst h
      exact (cnt_le hc).1
theorem cntS_none {st : Option (List UInt8)} (h : (cntS st).2 = none) : (cntS st).1 = 0 := by
  cases st with
  | none => rfl
  | some l =>
    simp only [cntS] at h ⊢
    cases hc : cnt l with
    | none => rfl
    | some x => rw [hc] at h; simp at h

set_option maxHeartbeats 400000 in
theorem bytes_some (R : Nat) (st : Option (List UInt8)) (r : List UInt8) (n : Nat) (tp : TypeId) (p : Value) (w : World) (hR : 0 < R) (hg : w.cell? ⟨0, 0, none⟩ = some (.iface tp p)) (h : RS w R (.iface tp p) st)
    (hst : Hid (cntS st = (n, some r))) (hn : n ≤ r.length) :
    Calls Ybad.prog 17 #[.pointer (some ⟨R, 0, none⟩)] w fun e w' => ∃ a, e = .returned (.slice a n n) ∧ Bys w' a (r.take n) ∧ RS w' R (.iface tp p) (some (r.drop n)) ∧ Only R w w' := by
  go_enter Ybad.func17, Ybad.ntmps17
  go_wp2_with (go_at_call 13; refine (count_calls R st tp p _ hR hg h).mono ?_; rintro e w1 ⟨rfl, hrs, ho⟩; rw [hst.out] at hrs; rw [hst.out]; obtain ⟨a, c, hb1, hbys, hoff, hc, hbig⟩ := hrs; have c1 := hb1.cell 0; have f1 := hb1.frozen 0; have hs1 := fun w => run_head w a r.length c n (by omega); have hs2 := fun w => run_from w a r.length c n (by omega))
  go_ret
  have ho2 : Only R w1 (w1.setCell ⟨R, 0, none⟩ (.slice (cutA a c n) (r.length - n) (c - n))) := (Only.refl R w1).setCell 0 _
  refine ⟨a, rfl, (hbys.only hoff ho2).take, ⟨cutA a c n, c - n, ?_, (hbys.only hoff ho2).drop hc, by rw [List.length_drop]; exact hoff.cut c n, by rw [List.length_drop]; omega, by rw [List.length_drop]; omega⟩, ho.trans ho2⟩
  rw [List.length_drop]
  simpa using hb1.set 0 (.slice (cutA a c n) (r.length - n) (c - n))

set_option maxHeartbeats 400000 in
theorem bytes_none (R : Nat) (st : Option (List UInt8)) (tp : TypeId) (p : Value) (w : World) (hR : 0 < R) (hg : w.cell? ⟨0, 0, none⟩ = some (.iface tp p)) (h : RS w R (.iface tp p) st)
    (hst : Hid (cntS st = (0, none))) :
    Calls Ybad.prog 17 #[.pointer (some ⟨R, 0, none⟩)] w fun e w' => ∃ a, e = .returned (.slice a 0 0) ∧ Bys w' a [] ∧ RS w' R (.iface tp p) none ∧ Only R w w' := by
  have hs1 : ∀ w, (Instr.slice 22 (.slice none 0 0) none (some (.int .i64 0)) (some (.int .i64 0))).run Ybad.prog w = .ok (.slice none 0 0) w := fun w => run_head w none 0 0 0 (by omega)
  have hs2 : ∀ w, (Instr.slice 22 (.slice none 0 0) (some (.int .i64 0)) none none).run Ybad.prog w = .ok (.slice none 0 0) w := fun w => run_from w none 0 0 0 (by omega)
  go_enter Ybad.func17, Ybad.ntmps17
  go_wp2_with (go_at_call 13; refine (count_calls R st tp p _ hR hg h).mono ?_; rintro e w1 ⟨rfl, hrs, ho⟩; rw [hst.out] at hrs; rw [hst.out]; have hb1 : Blk w1 R 42 #[.slice none 0 0, .iface tp p] := hrs; have c1 := hb1.cell 0; have f1 := hb1.frozen 0)
  go_ret
  exact ⟨none, rfl, Bys.nil _ _, by simpa [RS] using hb1.set 0 (.slice none 0 0), ho.setCell 0 _⟩

theorem bytes_calls (R : Nat) (st : Option (List UInt8)) (tp : TypeId) (p : Value) (w : World) (hR : 0 < R) (hg : w.cell? ⟨0, 0, none⟩ = some (.iface tp p)) (h : RS w R (.iface tp p) st) :
    Calls Ybad.prog 17 #[.pointer (some ⟨R, 0, none⟩)] w fun e w' => ∃ a, e = .returned (.slice a (one st).1.length (one st).1.length) ∧ Bys w' a (one st).1 ∧ RS w' R (.iface tp p) (one st).2 ∧ Only R w w' := by
  have h1 := one_cntS st
  cases hst : (cntS st).2 with
  | none =>
    have h0 := cntS_none hst
    rw [hst] at h1
    rw [h1]
    exact bytes_none R st tp p w hR hg h (Prod.ext h0 hst)
  | some r =>
    have hle := cntS_le hst
    rw [hst] at h1
    rw [h1]
    have := bytes_some R st r (cntS st).1 tp p w hR hg h (Prod.ext rfl hst) hle
    have e : (r.take (cntS st).1).length = (cntS st).1 := by rw [List.length_take]; omega
    refine this.mono ?_
    rintro e' w' ⟨a, he, hb, hrs, ho⟩
    exact ⟨a, by simp only []; rw [e]; exact he, hb, hrs, ho⟩

/-- The string of some bytes. -/
def strOf (l : List UInt8) : ByteArray := ⟨l.toArray⟩

set_option maxHeartbeats 400000 in
theorem string_calls (R : Nat) (st : Option (List UInt8)) (tp : TypeId) (p : Value) (w : World) (hR : 0 < R) (hg : w.cell? ⟨0, 0, none⟩ = some (.iface tp p)) (h : RS w R (.iface tp p) st) :
    Calls Ybad.prog 14 #[.pointer (some ⟨R, 0, none⟩)] w fun e w' => e = .returned (.string (strOf (one st).1)) ∧ RS w' R (.iface tp p) (one st).2 ∧ Only R w w' := by
  have hb := bytes_calls R st tp p w hR hg h
  generalize one st = x at hb ⊢
  obtain ⟨l, st'⟩ := x
  simp only at hb ⊢
  have hs := fun w a c (h : Bys w a l) => run_str w a c l l.length rfl h
  generalize hm : l.length = m at hb hs
  clear hm
  change ∀ w a c, Bys w a l → (convert 22 9 (.slice a m c)).run Ybad.prog w = .ok (.string (strOf l)) w at hs
  go_enter Ybad.func14, Ybad.ntmps14
  go_wp2_with (go_at_call 17; refine hb.mono ?_; rintro e w1 ⟨a, rfl, hbys, hrs, ho⟩; have hs1 := hs w1 a m hbys; clear hs)
  go_ret
  exact ⟨rfl, hrs, ho⟩

set_option maxHeartbeats 400000 in
theorem newReader_calls (a : Option Addr) (n c : Nat) (w : World) :
    Calls Ybad.prog 7 #[.slice a n c] w fun e w' => e = .returned (.pointer (some ⟨w.heap.size, 0, none⟩)) ∧ Blk w' w.heap.size 42 #[.slice a n c, .nilIface] ∧ Below w.heap.size w w' ∧ w'.heap.size = w.heap.size + 1 := by
  go_enter Ybad.func7, Ybad.ntmps7
  go_wp2
  go_ret
  exact ⟨rfl, Blk.new _ _ _, (Below.refl _ w).alloc (Nat.le_refl _) _, by simp⟩

set_option maxHeartbeats 400000 in
theorem err_calls (R : Nat) (x y : Value) (w : World) (hb : Blk w R 42 #[x, y]) :
    Calls Ybad.prog 9 #[.pointer (some ⟨R, 0, none⟩)] w fun e w' => e = .returned y ∧ w' = w := by
  have c1 := hb.cell 1
  go_enter Ybad.func9, Ybad.ntmps9
  go_wp2
  go_ret
  exact ⟨rfl, rfl⟩

end Go.Proofs.YbulkeefeDoor
