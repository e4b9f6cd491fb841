/-
  Contracts of uint256's Add, Sub, AddOverflow, SubOverflow, AddUint64, SubUint64, Neg, Abs, whatever places receiver and operands are.
-/
import Derived.Test.YtfaocjcpnjmfiaaGreatDoorWrite
namespace Go.Proofs.YtfaocjcpnjmfiaaGreatDoor
open Go.RowKit
set_option linter.unusedVariables false
def N4.addc (x y : N4) : Bool := addC x.d y.d (addC x.c y.c (addC x.b y.b (addC x.a y.a false)))
def N4.add (x y : N4) : N4 := ⟨addS x.a y.a false, addS x.b y.b (addC x.a y.a false), addS x.c y.c (addC x.b y.b (addC x.a y.a false)), addS x.d y.d (addC x.c y.c (addC x.b y.b (addC x.a y.a false)))⟩
/-- The receiver and a flag are handed back. -/
def RetPutB (b o : Nat) (z : N4) (f : Bool) (w : World) (e : Ending) (w' : World) : Prop := e = .returned (.tuple #[.pointer (some ⟨b, o, none⟩), .bool f]) ∧ ∃ n, w' = (put4 w b o z).drewN n
theorem retPutB {b o : Nat} {z : N4} {f : Bool} {v : Value} {w w' : World} (n : Nat) (hv : v = .tuple #[.pointer (some ⟨b, o, none⟩), .bool f]) (h : w' = (put4 w b o z).drewN n) : RetPutB b o z f w (.returned v) w' := ⟨by rw [hv], n, h⟩

set_option maxHeartbeats 1000000 in
theorem add_any (b o c p d q : Nat) (z x y : N4) (w : World) (hz : At4 w b o z) (fz : Free4 w b o) (hx : At4 w c p x) (hy : At4 w d q y) (sx : Sep b o c p) (sy : Sep b o d q) :
    Calls Tryz.prog 49 #[.pointer (some ⟨b, o, none⟩), .pointer (some ⟨c, p, none⟩), .pointer (some ⟨d, q, none⟩)] w (RetPut b o (x.add y) w) := by
  obtain ⟨z0, z1, z2, z3⟩ := hz
  obtain ⟨f0, f1, f2, f3⟩ := fz
  obtain ⟨x0, x1, x2, x3⟩ := hx
  obtain ⟨y0, y1, y2, y3⟩ := hy
  obtain ⟨q01, q02, q03, q10, q12, q13, q20, q21, q23, q30, q31, q32⟩ := sx.facts
  obtain ⟨r01, r02, r03, r10, r12, r13, r20, r21, r23, r30, r31, r32⟩ := sy.facts
  clear q10 q20 q21 q30 q31 q32 r10 r20 r21 r30 r31 r32
  go_enter Tryz.func49, Tryz.ntmps49
  go_wp2
  go_region
  go_wp2
  go_region
  go_wp2
  go_region
  go_wp2
  go_region
  go_wp2
  go_ret
  exact retPut 4 rfl rfl






/-- The receiver holds z, memory has grown. -/
structure Left (W : World) (b o : Nat) (z : N4) (w' : World) : Prop where
  bel : Below W.heap.size (put4 W b o z) w'
def RetLeft (b o : Nat) (z : N4) (w : World) (e : Ending) (w' : World) : Prop := e = .returned (.pointer (some ⟨b, o, none⟩)) ∧ Left w b o z w'
theorem Left.of_put (W : World) (b o n : Nat) (z : N4) : Left W b o z ((put4 W b o z).drewN n) := ⟨⟨rfl, rfl, rfl, Nat.le_refl _, fun _ _ => rfl⟩⟩
/-- A store that came behind new blocks. -/
theorem Left.of_alloc {W w1 : World} {b o : Nat} {z : N4} {n : Nat} (h : Below W.heap.size W w1) (hb : b < W.heap.size) : Left W b o z ((put4 w1 b o z).drewN n) := by
  refine ⟨⟨h.os, h.tape, h.output, ?_, fun k hk => ?_⟩⟩
  · rw [World.heap_drewN, put4_size, put4_size]; exact h.size
  · have e := h.block k hk
    rw [World.heap_drewN]
    unfold put4 World.setCell
    simp only [Array.getElem?_modify, e]
def N4.abs (x : N4) : N4 := if x.d < 9223372036854775808#64 then x else N4.dif ⟨0#64, 0#64, 0#64, 0#64⟩ x
end Go.Proofs.YtfaocjcpnjmfiaaGreatDoor
