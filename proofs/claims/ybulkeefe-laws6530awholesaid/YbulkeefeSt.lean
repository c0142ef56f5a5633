import Derived.Test.YbulkeefeSame
import Derived.Test.YbulkeefeSelect
import Derived.Test.YbulkeefeHandle
namespace Go.Proofs.Ybulkeefe
open Go.RowKit

/-- The plain data of one call. -/
structure In where
  am : Option Addr
  nm : Nat
  cm : Nat
  ag : Option Addr
  ng : Nat
  cg : Nat
  ap : Option Addr
  np : Nat
  cp : Nat
  vgroup : ByteArray
  vid : ByteArray
  mgroup : ByteArray
  sender : ByteArray
  name : ByteArray

theorem Blk.new' (w : World) (g : Nat) (hg : w.heap.size = g) (T : TypeId) (cs : Array Value) : Blk (w.alloc (.cells cs T)) g T cs := by
  subst hg; exact Blk.new w T cs

theorem mkChan (w : World) : (Instr.makeChan 37 (.int .i64 0)).run Yba.prog w = .ok (.chan (some w.heap.size)) (w.alloc (.chan 0 #[] false 0 0 false)) := by kernel_rfl

/-- The blocks that the law lays ahead of its closures. -/
structure St (w3 wc : World) (G H : Nat) (inC v m : Array Value) (fv fd : Value) : Prop where
  size : wc.heap.size = H + 1 + 1 + 1 + 1 + 1 + 1 + 1
  hin : Blk wc G 25 inC
  b7 : Blk wc H 30 v
  b8 : Blk wc (H + 1) 32 m
  b9 : Blk wc (H + 1 + 1) 3 #[.int .i64 0]
  b10 : Blk wc (H + 1 + 1 + 1) 30 #[.string ⟨#[]⟩, .string ⟨#[]⟩, .slice none 0 0, .slice none 0 0]
  b11 : Blk wc (H + 1 + 1 + 1 + 1) 3 #[.int .i64 0]
  b12 : Blk wc (H + 1 + 1 + 1 + 1 + 1) 32 #[.string ⟨#[]⟩, .string ⟨#[]⟩, .slice none 0 0]
  b13 : Blk wc (H + 1 + 1 + 1 + 1 + 1 + 1) 36 #[fv, fd]
  bel : Below H w3 wc

theorem St.setFv {w3 wc : World} {G H : Nat} {inC v m : Array Value} {fv fd : Value} (h : St w3 wc G H inC v m fv fd) (hG : G < H) (x : Value) : St w3 (wc.setCell ⟨H + 1 + 1 + 1 + 1 + 1 + 1, 0, none⟩ x) G H inC v m x fd :=
  ⟨by rw [← h.size]; simp [World.setCell], h.hin.setOther _ _ (by dsimp only; omega), h.b7.setOther _ _ (by dsimp only; omega), h.b8.setOther _ _ (by dsimp only; omega), h.b9.setOther _ _ (by dsimp only; omega), h.b10.setOther _ _ (by dsimp only; omega), h.b11.setOther _ _ (by dsimp only; omega), h.b12.setOther _ _ (by dsimp only; omega), h.b13.set 0 x, h.bel.setCell (by dsimp only; omega) _⟩
theorem St.setFd {w3 wc : World} {G H : Nat} {inC v m : Array Value} {fv fd : Value} (h : St w3 wc G H inC v m fv fd) (hG : G < H) (x : Value) : St w3 (wc.setCell ⟨H + 1 + 1 + 1 + 1 + 1 + 1, 1, none⟩ x) G H inC v m fv x :=
  ⟨by rw [← h.size]; simp [World.setCell], h.hin.setOther _ _ (by dsimp only; omega), h.b7.setOther _ _ (by dsimp only; omega), h.b8.setOther _ _ (by dsimp only; omega), h.b9.setOther _ _ (by dsimp only; omega), h.b10.setOther _ _ (by dsimp only; omega), h.b11.setOther _ _ (by dsimp only; omega), h.b12.setOther _ _ (by dsimp only; omega), h.b13.set 1 x, h.bel.setCell (by dsimp only; omega) _⟩

/-- The two handlers as the law lays them. -/
def fvOf (H : Nat) (hv : Bool) : Value := if hv then .func (.func 6) #[] #[.pointer (some ⟨H + 1 + 1, 0, none⟩), .pointer (some ⟨H + 1 + 1 + 1, 0, none⟩)] else .nilFunc
def fdOf (H : Nat) (hd : Bool) : Value := if hd then .func (.func 7) #[] #[.pointer (some ⟨H + 1 + 1 + 1 + 1, 0, none⟩), .pointer (some ⟨H + 1 + 1 + 1 + 1 + 1, 0, none⟩)] else .nilFunc


/-- The blocks from the call of handle on. -/
structure St5 (w3 w5 : World) (G H : Nat) (inC grp : Array Value) (c9 : Int) (c10 : Array Value) (c11 : Int) (c12 : Array Value) (shut : Bool) : Prop where
  hin : Blk w5 G 25 inC
  b9 : Blk w5 (H + 1 + 1) 3 #[.int .i64 c9]
  b10 : Blk w5 (H + 1 + 1 + 1) 30 c10
  b11 : Blk w5 (H + 1 + 1 + 1 + 1) 3 #[.int .i64 c11]
  b12 : Blk w5 (H + 1 + 1 + 1 + 1 + 1) 32 c12
  ch : w5.heap[H + 1 + 1 + 1 + 1 + 1 + 1 + 1]? = some (.chan 0 #[] shut 0 0 false)
  grp : Blk w5 (H + 1 + 1 + 1 + 1 + 1 + 1 + 1 + 1) 54 grp
  bel : Below H w3 w5

theorem lt_of_some {w : World} {c : Nat} {o : Obj} (hc : w.heap[c]? = some o) : c < w.heap.size := by
  rcases Nat.lt_or_ge c w.heap.size with h | h
  · exact h
  · rw [Array.getElem?_eq_none h] at hc; cases hc

theorem St.five {w3 wc : World} {G H : Nat} {inC v m : Array Value} {fv fd : Value} (h : St w3 wc G H inC v m fv fd) (g : Array Value) :
    St5 w3 ((wc.alloc (.chan 0 #[] false 0 0 false)).alloc (.cells g 54)) G H inC g 0 #[.string ⟨#[]⟩, .string ⟨#[]⟩, .slice none 0 0, .slice none 0 0] 0 #[.string ⟨#[]⟩, .string ⟨#[]⟩, .slice none 0 0] false := by
  have hs := h.size
  refine ⟨(h.hin.alloc _).alloc _, (h.b9.alloc _).alloc _, (h.b10.alloc _).alloc _, (h.b11.alloc _).alloc _, (h.b12.alloc _).alloc _, ?_, Blk.new' _ _ (by simp; omega) _ _, (h.bel.alloc (by omega) _).alloc (by simp; omega) _⟩
  rw [Below.heap_alloc _ _ _ (by simp; omega), ← hs]
  exact heap_alloc_new _ _

theorem St5.below {w3 w5 w6 : World} {G H : Nat} {inC grp : Array Value} {c9 : Int} {c10 : Array Value} {c11 : Int} {c12 : Array Value} {shut : Bool} (h : St5 w3 w5 G H inC grp c9 c10 c11 c12 shut) (hb : Below w5.heap.size w5 w6) :
    St5 w3 w6 G H inC grp c9 c10 c11 c12 shut :=
  ⟨h.hin.below hb h.hin.lt, h.b9.below hb h.b9.lt, h.b10.below hb h.b10.lt, h.b11.below hb h.b11.lt, h.b12.below hb h.b12.lt, by rw [hb.block _ (lt_of_some h.ch)]; exact h.ch, h.grp.below hb h.grp.lt, h.bel.trans (hb.mono (by have := h.b9.lt; omega))⟩

theorem St5.chgV {w3 w5 w6 : World} {G H : Nat} {inC grp : Array Value} {c9 : Int} {c10 : Array Value} {c11 : Int} {c12 : Array Value} {shut : Bool} (h : St5 w3 w5 G H inC grp c9 c10 c11 c12 shut) (hG : G < H) (hb : Chg (H + 1 + 1) (H + 1 + 1 + 1) w5 w6) {d9 : Int} {d10 : Array Value}
    (h9 : Blk w6 (H + 1 + 1) 3 #[.int .i64 d9]) (h10 : Blk w6 (H + 1 + 1 + 1) 30 d10) : St5 w3 w6 G H inC grp d9 d10 c11 c12 shut :=
  ⟨hb.blk h.hin (by omega) (by omega), h9, h10, hb.blk h.b11 (by omega) (by omega), hb.blk h.b12 (by omega) (by omega), by rw [hb.block _ (lt_of_some h.ch) (by omega) (by omega)]; exact h.ch, hb.blk h.grp (by omega) (by omega),
    h.bel.trans ⟨hb.os, hb.tape, hb.output, hb.size, fun k hk => hb.block k (by have := h.b9.lt; omega) (by omega) (by omega)⟩⟩
theorem St5.chgM {w3 w5 w6 : World} {G H : Nat} {inC grp : Array Value} {c9 : Int} {c10 : Array Value} {c11 : Int} {c12 : Array Value} {shut : Bool} (h : St5 w3 w5 G H inC grp c9 c10 c11 c12 shut) (hG : G < H) (hb : Chg (H + 1 + 1 + 1 + 1) (H + 1 + 1 + 1 + 1 + 1) w5 w6) {d11 : Int} {d12 : Array Value}
    (h11 : Blk w6 (H + 1 + 1 + 1 + 1) 3 #[.int .i64 d11]) (h12 : Blk w6 (H + 1 + 1 + 1 + 1 + 1) 32 d12) : St5 w3 w6 G H inC grp c9 c10 d11 d12 shut :=
  ⟨hb.blk h.hin (by omega) (by omega), hb.blk h.b9 (by omega) (by omega), hb.blk h.b10 (by omega) (by omega), h11, h12, by rw [hb.block _ (lt_of_some h.ch) (by omega) (by omega)]; exact h.ch, hb.blk h.grp (by omega) (by omega),
    h.bel.trans ⟨hb.os, hb.tape, hb.output, hb.size, fun k hk => hb.block k (by have := h.b9.lt; omega) (by omega) (by omega)⟩⟩
theorem St5.chgC {w3 w5 w6 : World} {G H : Nat} {inC grp : Array Value} {c9 : Int} {c10 : Array Value} {c11 : Int} {c12 : Array Value} {shut : Bool} (h : St5 w3 w5 G H inC grp c9 c10 c11 c12 shut) (hG : G < H) (hb : Chg (H + 1 + 1 + 1 + 1 + 1 + 1 + 1) (H + 1 + 1 + 1 + 1 + 1 + 1 + 1) w5 w6)
    (hc : w6.heap[H + 1 + 1 + 1 + 1 + 1 + 1 + 1]? = some (.chan 0 #[] true 0 0 false)) : St5 w3 w6 G H inC grp c9 c10 c11 c12 true :=
  ⟨hb.blk h.hin (by omega) (by omega), hb.blk h.b9 (by omega) (by omega), hb.blk h.b10 (by omega) (by omega), hb.blk h.b11 (by omega) (by omega), hb.blk h.b12 (by omega) (by omega), hc, hb.blk h.grp (by omega) (by omega),
    h.bel.trans ⟨hb.os, hb.tape, hb.output, hb.size, fun k hk => hb.block k (by have := h.b9.lt; omega) (by omega) (by omega)⟩⟩

theorem below_draws {w w' : World} (h : Draws w w') : Below w.heap.size w w' := h.below (Below.refl _ _)

theorem equalIn37 (d c : Nat) (w : World) : (Op.equalIn (d + 1) 37 (.chan (some c)) (.chan (some c))).run Yba.prog w = .ok true w := by
  simp [Op.equalIn, run_underlying Yba.underlying37]
theorem neq37_same (c : Nat) (w : World) : (binOp .neq 37 (.chan (some c)) (.chan (some c))).run Yba.prog w = .ok (.bool false) w := by
  simp only [binOp]
  simp [Op.equal, Op.maxDepth, equalIn37 9999 c w]

end Go.Proofs.Ybulkeefe
