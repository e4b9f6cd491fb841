/-
  The contract of uint256's udivrem: a number of some words divided by one of four.
-/
import Derived.Test.YtfaocjcpnjmfiaaDoorDiv4
import Derived.Test.YtfaocjcpnjmfiaaDoorDivMath3
import Derived.BigRegion
namespace Go.Proofs.YtfaocjcpnjmfiaaDoor
open Go.RowKit
set_option linter.unusedVariables false
set_option linter.unusedSimpArgs false
set_option maxRecDepth 20000
theorem But.put4 {S : List Nat} {w w' : World} (h : But S w w') {b : Nat} (hb : b ∈ S ∨ w.heap.size ≤ b) (o : Nat) (z : N4) : But S w (put4 w' b o z) :=
  (((h.set hb _ _).set hb _ _).set hb _ _).set hb _ _
theorem But.step {S T : List Nat} {a b c : World} (h : But S a b) (k : But T b c) (ht : ∀ t ∈ T, t ∈ S ∨ a.heap.size ≤ t) : But S a c :=
  ⟨k.os.trans h.os, k.tape.trans h.tape, k.output.trans h.output, Nat.le_trans h.size k.size, fun i hi hs => (k.block i (Nat.lt_of_lt_of_le hi h.size) (fun e => by
    rcases ht i e with h1 | h1
    · exact hs h1
    · omega)).trans (h.block i hi hs)⟩
end Go.Proofs.YtfaocjcpnjmfiaaDoor
