/-
  The reference's Length, by worth.
-/
import Derived.Test.YtfaocjcpnjmfiaaGreatDoorDig7
namespace Go.Proofs.YtfaocjcpnjmfiaaGreatDoor
open Go.RowKit
set_option linter.unusedVariables false
set_option linter.unusedSimpArgs false
set_option maxRecDepth 20000
end Go.Proofs.YtfaocjcpnjmfiaaGreatDoor
