/-
  Inequality of numbers by value, as the model runs it.
-/
import Derived.Test.YtbmlbjpiodiihaaEql
namespace Go.Proofs.Ytbmlbjpiodiihaa
open Go.RowKit
set_option maxHeartbeats 1000000 in
theorem neq_num (x y : N4) (w : World) : (binOp .neq 26 x.v y.v).run Try.prog w = .ok (.bool (!x.eqb y)) w := by
  have key : ∀ q0 q1 q2 q3 : Bool, (x.a == y.a) = q0 → (x.b == y.b) = q1 → (x.c == y.c) = q2 → (x.d == y.d) = q3 → (binOp .neq 26 x.v y.v).run Try.prog w = .ok (.bool (!(q0 && q1 && q2 && q3))) w := by
    intro q0 q1 q2 q3 e0 e1 e2 e3
    cases q0 <;> cases q1 <;> cases q2 <;> cases q3 <;> go_simp
  exact key _ _ _ _ rfl rfl rfl rfl
theorem neq_num0 (x : N4) (w : World) : (binOp .neq 26 (.agg #[V x.a, V x.b, V x.c, V x.d]) (.agg #[.int .u64 0, .int .u64 0, .int .u64 0, .int .u64 0])).run Try.prog w = .ok (.bool (!x.eqb ⟨0#64, 0#64, 0#64, 0#64⟩)) w := neq_num x ⟨0#64, 0#64, 0#64, 0#64⟩ w
attribute [go_sem ↓] neq_num neq_num0
end Go.Proofs.Ytbmlbjpiodiihaa
