/-
  The reference's Quotient, Rest, SignedQuotient and SignedRest, by worth.
-/
import Derived.Test.YtpjljjajnfoccaaDig7
import Derived.Test.YtpjljjajnfoccaaSpec3
import Derived.Test.YtpjljjajnfoccaaDiv7
namespace Go.Proofs.Ytpjljjajnfoccaa
open Go.RowKit
set_option linter.unusedVariables false
set_option linter.unusedSimpArgs false
end Go.Proofs.Ytpjljjajnfoccaa
