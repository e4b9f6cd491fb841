/-
  Contracts of math/bits.Mul64, umulHop and umulStep that tell of their two words what they are worth.
-/
import Derived.Test.YtbmlbjpiodiihaaRow
namespace Go.Proofs.Ytbmlbjpiodiihaa
open Go.RowKit
set_option linter.unusedVariables false
theorem mul64_ex (x y : W64) (w : World) : Calls Try.prog 105 #[V x, V y] w fun e w' => ∃ hi lo : W64, e = .returned (.tuple #[V hi, V lo]) ∧ lo.toNat + 18446744073709551616 * hi.toNat = x.toNat * y.toNat ∧ w = w' :=
  (mul64_any x y w).mono fun _ _ ⟨h1, h2⟩ => ⟨_, _, h1, (mul_spec x y).symm, h2⟩
theorem hop_ex (z x y : W64) (w : World) : Calls Try.prog 106 #[V z, V x, V y] w fun e w' => ∃ hi lo : W64, e = .returned (.tuple #[V hi, V lo]) ∧ lo.toNat + 18446744073709551616 * hi.toNat = z.toNat + x.toNat * y.toNat ∧ w = w' :=
  (umulHop_any z x y w).mono fun _ _ ⟨h1, h2⟩ => ⟨_, _, h1, hop_spec z x y, h2⟩
theorem step_ex (z x y c : W64) (w : World) : Calls Try.prog 107 #[V z, V x, V y, V c] w fun e w' => ∃ hi lo : W64, e = .returned (.tuple #[V hi, V lo]) ∧ lo.toNat + 18446744073709551616 * hi.toNat = z.toNat + x.toNat * y.toNat + c.toNat ∧ w = w' :=
  (umulStep_any z x y c w).mono fun _ _ ⟨h1, h2⟩ => ⟨_, _, h1, step_spec z x y c, h2⟩
end Go.Proofs.Ytbmlbjpiodiihaa
