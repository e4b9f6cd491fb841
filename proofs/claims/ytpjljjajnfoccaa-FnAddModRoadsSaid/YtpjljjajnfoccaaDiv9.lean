/-
  The contract of uint256's DivMod where the two receivers are two places of one block.
-/
import Derived.Test.YtpjljjajnfoccaaDiv8
import Derived.LaidEql
namespace Go.Proofs.Ytpjljjajnfoccaa
open Go.RowKit
set_option linter.unusedVariables false
set_option linter.unusedSimpArgs false
set_option maxRecDepth 20000
theorem ptrEq (b o r : Nat) (w : World) : (binOp .eql 48 (.pointer (some ⟨b, o, none⟩)) (.pointer (some ⟨b, r, none⟩))).run Try.prog w = .ok (.bool (o == r)) w := by
  have hp : Try.prog.underlying 48 = some (.pointer 72) := by kernel_rfl
  have hs : (Try.prog.info? 72).map (·.size) = some 4 := by kernel_rfl
  obtain ⟨j, hj, hj4⟩ : ∃ j, Try.prog.info? 72 = some j ∧ j.size = 4 := by
    cases h : Try.prog.info? 72 with
    | none => rw [h] at hs; cases hs
    | some j => rw [h] at hs; exact ⟨j, rfl, by simpa using hs⟩
  have h : ∀ d : Nat, (Op.equalIn (d + 1) 48 (.pointer (some ⟨b, o, none⟩)) (.pointer (some ⟨b, r, none⟩))).run Try.prog w = .ok (o == r) w := fun d => by
    simp [Op.equalIn, run_underlying hp, sizeOf, typeInfo, hj, hj4, sameAddr]
    rw [Bool.eq_iff_iff]; simp
  simp only [binOp]
  simp [Op.equal, Op.maxDepth, h 9999]
end Go.Proofs.Ytpjljjajnfoccaa
