/-
  The reference's Length, IsNought, Decimal.
-/
import Derived.Test.YtfaocjcpnjmfiaaGreatDoorByt1
import Derived.Test.YtfaocjcpnjmfiaaGreatDoorLenS
import Derived.Lib.ItoaNum
namespace Go.Proofs.YtfaocjcpnjmfiaaGreatDoor
open Go.RowKit
set_option linter.unusedVariables false
set_option linter.unusedSimpArgs false
set_option maxRecDepth 20000
end Go.Proofs.YtfaocjcpnjmfiaaGreatDoor
