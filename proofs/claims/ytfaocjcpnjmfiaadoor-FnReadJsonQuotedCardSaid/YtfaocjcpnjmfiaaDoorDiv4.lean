/-
  Contracts of uint256's udivremBy1 and udivremKnuth over rows of words.
-/
import Derived.Test.YtfaocjcpnjmfiaaDoorDiv2
import Derived.Test.YtfaocjcpnjmfiaaDoorDivMath2
namespace Go.Proofs.YtfaocjcpnjmfiaaDoor
open Go.RowKit
set_option linter.unusedVariables false
set_option linter.unusedSimpArgs false
set_option maxRecDepth 20000
end Go.Proofs.YtfaocjcpnjmfiaaDoor
