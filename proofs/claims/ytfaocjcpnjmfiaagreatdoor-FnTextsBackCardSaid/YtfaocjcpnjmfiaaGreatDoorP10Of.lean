/-
  The library's powers of ten hold what its text lays into them: off the row's own list of variables.
-/
import Derived.Test.YtfaocjcpnjmfiaaGreatDoorBunX
import Derived.Test.YtfaocjcpnjmfiaaGreatDoorRows
import Derived.Lib.LaidU8
import Derived.OpenShut
import Derived.LaidMore
import Derived.Stop.Joined
namespace Go.Proofs.YtfaocjcpnjmfiaaGreatDoor
open Go.RowKit Go.Lib
set_option linter.unusedVariables false
theorem p10_datum {H : Type} : (Rows.laid_internal_strconv_uint64pow10 : DataW H) = tabData .u64 pow10Tab := rfl
theorem p10_of {w : World} (h : VarReads Tryz.prog w "internal/strconv.uint64pow10" Rows.laid_internal_strconv_uint64pow10) : P10 w := by
  obtain ⟨g, t, cs, fuel, p, hg, hty, hvar, hd⟩ := h
  obtain rfl := Option.some.inj ((show Tryz.prog.globalNamed "internal/strconv.uint64pow10" = some 8 by kernel_rfl).symm.trans hg)
  obtain rfl := Option.some.inj ((show (Tryz.prog.globals[8]?).map (·.type) = some 98 by kernel_rfl).symm.trans hty)
  rw [p10_datum] at hd
  have hcs := cells_of_tab (t := 98) (e := 22) (n := 20) (k := .u64) (by kernel_rfl) (by kernel_rfl) (by kernel_rfl) (by kernel_rfl) hd
  unfold P10 TabIs
  rw [hvar, ← hcs]
end Go.Proofs.YtfaocjcpnjmfiaaGreatDoor
