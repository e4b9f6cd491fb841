/-
  The reference's Quotient, Rest, SignedQuotient and SignedRest, by worth.
-/
import Derived.Test.YtbmlbjpiodiihaaDig7
import Derived.Test.YtbmlbjpiodiihaaSpec3
import Derived.Test.YtbmlbjpiodiihaaDiv7
namespace Go.Proofs.Ytbmlbjpiodiihaa
open Go.RowKit
set_option linter.unusedVariables false
set_option linter.unusedSimpArgs false
end Go.Proofs.Ytbmlbjpiodiihaa
