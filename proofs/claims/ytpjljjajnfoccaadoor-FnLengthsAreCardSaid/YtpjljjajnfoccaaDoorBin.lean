/-
  Contracts of encoding/binary's writers and readers of whole numbers.
-/
import Derived.Test.YtpjljjajnfoccaaDoorByt2
import Derived.Test.YtpjljjajnfoccaaDoorDesk3
import Derived.Test.YtpjljjajnfoccaaDoorHeldM
import Derived.Lib.EndianBits
import Derived.Laws.NewBlocks
import Derived.RegionTactic
import Derived.Outline
namespace Go.Proofs.YtpjljjajnfoccaaDoor
open Go.RowKit
set_option linter.unusedVariables false
set_option linter.unusedSimpArgs false
set_option maxRecDepth 100000
end Go.Proofs.YtpjljjajnfoccaaDoor
