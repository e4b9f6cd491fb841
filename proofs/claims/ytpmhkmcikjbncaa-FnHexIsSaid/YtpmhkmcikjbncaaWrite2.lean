/-
  Contracts of uint256's Add, Sub, AddOverflow, SubOverflow, AddUint64, SubUint64, Neg, Abs, whatever places receiver and operands are.
-/
import Derived.Test.YtpmhkmcikjbncaaWrite
namespace Go.Proofs.Ytpmhkmcikjbncaa
open Go.RowKit
set_option linter.unusedVariables false
def N4.addc (x y : N4) : Bool := addC x.d y.d (addC x.c y.c (addC x.b y.b (addC x.a y.a false)))
def N4.add (x y : N4) : N4 := ⟨addS x.a y.a false, addS x.b y.b (addC x.a y.a false), addS x.c y.c (addC x.b y.b (addC x.a y.a false)), addS x.d y.d (addC x.c y.c (addC x.b y.b (addC x.a y.a false)))⟩
/-- The receiver and a flag are handed back. -/
def RetPutB (b o : Nat) (z : N4) (f : Bool) (w : World) (e : Ending) (w' : World) : Prop := e = .returned (.tuple #[.pointer (some ⟨b, o, none⟩), .bool f]) ∧ ∃ n, w' = (put4 w b o z).drewN n
theorem retPutB {b o : Nat} {z : N4} {f : Bool} {v : Value} {w w' : World} (n : Nat) (hv : v = .tuple #[.pointer (some ⟨b, o, none⟩), .bool f]) (h : w' = (put4 w b o z).drewN n) : RetPutB b o z f w (.returned v) w' := ⟨by rw [hv], n, h⟩







/-- The receiver holds z, memory has grown. -/
structure Left (W : World) (b o : Nat) (z : N4) (w' : World) : Prop where
  bel : Below W.heap.size (put4 W b o z) w'
def RetLeft (b o : Nat) (z : N4) (w : World) (e : Ending) (w' : World) : Prop := e = .returned (.pointer (some ⟨b, o, none⟩)) ∧ Left w b o z w'
theorem Left.of_put (W : World) (b o n : Nat) (z : N4) : Left W b o z ((put4 W b o z).drewN n) := ⟨⟨rfl, rfl, rfl, Nat.le_refl _, fun _ _ => rfl⟩⟩
/-- A store that came behind new blocks. -/
theorem Left.of_alloc {W w1 : World} {b o : Nat} {z : N4} {n : Nat} (h : Below W.heap.size W w1) (hb : b < W.heap.size) : Left W b o z ((put4 w1 b o z).drewN n) := by
  refine ⟨⟨h.os, h.tape, h.output, ?_, fun k hk => ?_⟩⟩
  · rw [World.heap_drewN, put4_size, put4_size]; exact h.size
  · have e := h.block k hk
    rw [World.heap_drewN]
    unfold put4 World.setCell
    simp only [Array.getElem?_modify, e]
def N4.abs (x : N4) : N4 := if x.d < 9223372036854775808#64 then x else N4.dif ⟨0#64, 0#64, 0#64, 0#64⟩ x
end Go.Proofs.Ytpmhkmcikjbncaa
