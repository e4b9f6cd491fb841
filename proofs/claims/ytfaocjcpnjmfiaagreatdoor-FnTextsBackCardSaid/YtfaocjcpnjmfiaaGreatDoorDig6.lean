/-
  The reference's Times, bit and Divide, by worth.
-/
import Derived.Test.YtfaocjcpnjmfiaaGreatDoorMath
namespace Go.Proofs.YtfaocjcpnjmfiaaGreatDoor
open Go.RowKit
set_option linter.unusedVariables false
set_option linter.unusedSimpArgs false
theorem Tryz.infoInt6 : (Tryz.prog.info? 3).map (fun i => (i.zero, i.size, i.bytes)) = some (some (.int .i64 0), 1, 8) := by kernel_rfl
end Go.Proofs.YtfaocjcpnjmfiaaGreatDoor
