/-
  The walk of uint256's zzDiv64 at a divisor whose highest bit is set.
-/
import Derived.Test.YtfaocjcpnjmfiaaDoorDiv1
import Derived.Deep.DeepCutAuto
import Derived.Deep.CutBlock
namespace Go.Proofs.YtfaocjcpnjmfiaaDoor
open Go.RowKit
set_option linter.unusedVariables false
set_option linter.unusedSimpArgs false
/-- The reciprocal of a word whose highest bit is set. -/
def recW (d : W64) : W64 := BitVec.ofNat 64 ((340282366920938463463374607431768211455 - 18446744073709551616 * d.toNat) / d.toNat)
theorem recW_toNat (d : W64) (hd : 9223372036854775808 ≤ d.toNat) : (recW d).toNat = (340282366920938463463374607431768211455 - 18446744073709551616 * d.toNat) / d.toNat := by
  unfold recW
  rw [BitVec.toNat_ofNat]
  exact Nat.mod_eq_of_lt (recip_bounds d.toNat _ (by omega) d.isLt rfl).1
end Go.Proofs.YtfaocjcpnjmfiaaDoor
