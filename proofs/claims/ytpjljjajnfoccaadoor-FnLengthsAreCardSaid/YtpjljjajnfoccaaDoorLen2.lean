/-
  impl.BitLen, impl.ByteLen; the lengths of texts.
-/
import Derived.Test.YtpjljjajnfoccaaDoorLog
import Derived.Test.YtpjljjajnfoccaaDoorByt3
import Derived.Test.YtpjljjajnfoccaaDoorDec0
namespace Go.Proofs.YtpjljjajnfoccaaDoor
open Go.RowKit
set_option linter.unusedVariables false
set_option linter.unusedSimpArgs false
theorem implBitLen_any (x : N4) (w : World) : Calls Tryd.prog 20 #[x.v] w (RetBel (.int .i64 (x.bits : Nat)) w) := by
  go_enter Tryd.func20, Tryd.ntmps20
  go_wp2_with fail
  refine (intOf_any x _).mono ?_
  rintro e w1 ⟨B, rfl, m⟩
  have hb := bel_trans (bel_alloc (bel_refl w) _) m.bel
  go_wp2_with fail
  refine (bitLen_any B 0 x _ m.at4).mono ?_
  rintro e w2 ⟨rfl, rfl⟩
  go_wp2
  go_ret
  exact retBel rfl hb
theorem implByteLen_any (x : N4) (w : World) : Calls Tryd.prog 21 #[x.v] w (RetBel (.int .i64 (x.nb : Nat)) w) := by
  go_enter Tryd.func21, Tryd.ntmps21
  go_wp2_with fail
  refine (intOf_any x _).mono ?_
  rintro e w1 ⟨B, rfl, m⟩
  have hb := bel_trans (bel_alloc (bel_refl w) _) m.bel
  go_wp2_with fail
  refine (byteLen_any B 0 x _ m.at4).mono ?_
  rintro e w2 ⟨rfl, rfl⟩
  go_wp2
  go_ret
  exact retBel rfl hb
end Go.Proofs.YtpjljjajnfoccaaDoor
