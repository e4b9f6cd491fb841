/-
  The reference's Divide, by worth.
-/
import Derived.Test.YtfaocjcpnjmfiaaGreatDoorDig6
namespace Go.Proofs.YtfaocjcpnjmfiaaGreatDoor
open Go.RowKit
set_option linter.unusedVariables false
set_option linter.unusedSimpArgs false
theorem bel_step {a b c : World} {n : Nat} (h : Below n a b) (hn : n ≤ a.heap.size) (k : Below b.heap.size b c) : Below n a c := h.trans (k.mono (Nat.le_trans hn h.size))
end Go.Proofs.YtfaocjcpnjmfiaaGreatDoor
