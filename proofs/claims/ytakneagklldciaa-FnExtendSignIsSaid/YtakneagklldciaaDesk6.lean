/-
  Contracts of uint256's SRsh and Byte, and of the thin package's functions over cells for them.
-/
import Derived.Test.YtakneagklldciaaDesk5
import Derived.Test.YtakneagklldciaaShiftLaw
namespace Go.Proofs.Ytakneagklldciaa
open Go.RowKit
set_option linter.unusedVariables false
set_option linter.unusedSimpArgs false
theorem u64_and7 (x : W64) : bits BinOp.and IntKind.u64 (U x) (7 : Int) = U (x &&& 7#64) := u64_and x 7#64
theorem u64_and255 (x : W64) : bits BinOp.and IntKind.u64 (U x) (255 : Int) = U (x &&& 255#64) := u64_and x 255#64
theorem u64_mul8 (x : W64) : IntKind.u64.wrap (U x * 8) = U (x * 8#64) := u64_mul x 8#64
theorem u64_56sub (x : W64) : IntKind.u64.wrap (56 - U x) = U (56#64 - x) := u64_lit 56 (by decide) x
theorem u64_ge32 (x : W64) : (32 ≤ U x) ↔ 32#64 ≤ x := u64_le 32#64 x
def N4.wdB (x : N4) (j : Nat) : W64 := if j = 0 then x.a else if j = 1 then x.b else if j = 2 then x.c else x.d
theorem put4_0321 (w : World) (b o : Nat) (z : N4) :
    (((w.setCell ⟨b, o, none⟩ (V z.a)).setCell ⟨b, o + 3, none⟩ (V z.d)).setCell ⟨b, o + 2, none⟩ (V z.c)).setCell ⟨b, o + 1, none⟩ (V z.b) = put4 w b o z := by
  unfold put4
  rw [setCell_comm _ ⟨b, o + 3, none⟩ ⟨b, o + 2, none⟩ _ _ (by simp), setCell_comm _ ⟨b, o + 3, none⟩ ⟨b, o + 1, none⟩ _ _ (by simp), setCell_comm _ ⟨b, o + 2, none⟩ ⟨b, o + 1, none⟩ _ _ (by simp)]
/-- The byte at place i of a number, the highest one at 0; i as a word. -/
def byteOff (i : W64) : W64 := 56#64 - (i &&& 7#64) * 8#64
def N4.byteW (z : N4) (i : W64) : W64 := shrW (z.wdB (3 - i.toNat / 8)) (byteOff i) &&& 255#64
def N4.byte (z x : N4) : N4 := if (!x.isU) || decide (32#64 ≤ x.a) then ⟨0#64, 0#64, 0#64, 0#64⟩ else ⟨z.byteW x.a, 0#64, 0#64, 0#64⟩


end Go.Proofs.Ytakneagklldciaa
