/-
  Contracts of math/bits.Mul64, umulHop and umulStep that tell of their two words what they are worth.
-/
import Derived.Test.YtpjljjajnfoccaaRow
namespace Go.Proofs.Ytpjljjajnfoccaa
open Go.RowKit
set_option linter.unusedVariables false
theorem mul64_ex (x y : W64) (w : World) : Calls Try.prog 69 #[V x, V y] w fun e w' => ∃ hi lo : W64, e = .returned (.tuple #[V hi, V lo]) ∧ lo.toNat + 18446744073709551616 * hi.toNat = x.toNat * y.toNat ∧ w = w' :=
  (mul64_any x y w).mono fun _ _ ⟨h1, h2⟩ => ⟨_, _, h1, (mul_spec x y).symm, h2⟩
end Go.Proofs.Ytpjljjajnfoccaa
