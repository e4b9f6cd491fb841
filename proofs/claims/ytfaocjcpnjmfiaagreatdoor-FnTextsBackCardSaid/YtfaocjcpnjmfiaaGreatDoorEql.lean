/-
  Equality of numbers by value, as the model runs it.
-/
import Derived.Test.YtfaocjcpnjmfiaaGreatDoorRead
namespace Go.Proofs.YtfaocjcpnjmfiaaGreatDoor
open Go.RowKit
theorem eqb_zero (x : N4) : x.eqb ⟨0#64, 0#64, 0#64, 0#64⟩ = x.isZ := by
  unfold N4.eqb N4.isZ
  rw [Bool.eq_iff_iff]
  simp only [Bool.and_eq_true, beq_iff_eq, BitVec.or_eq_zero_iff]
theorem eqb_iff (x y : N4) : x.eqb y = true ↔ x = y := by
  unfold N4.eqb
  simp only [Bool.and_eq_true, beq_iff_eq]
  exact ⟨fun h => N4.ext' h.1.1.1 h.1.1.2 h.1.2 h.2, fun h => by subst h; simp⟩
theorem eqb_self (x : N4) : x.eqb x = true := (eqb_iff x x).2 rfl
set_option maxHeartbeats 1000000 in
theorem eql_num (x y : N4) (w : World) : (binOp .eql 24 x.v y.v).run Tryz.prog w = .ok (.bool (x.eqb y)) w := by
  have key : ∀ q0 q1 q2 q3 : Bool, (x.a == y.a) = q0 → (x.b == y.b) = q1 → (x.c == y.c) = q2 → (x.d == y.d) = q3 → (binOp .eql 24 x.v y.v).run Tryz.prog w = .ok (.bool (q0 && q1 && q2 && q3)) w := by
    intro q0 q1 q2 q3 e0 e1 e2 e3
    cases q0 <;> cases q1 <;> cases q2 <;> cases q3 <;> go_simp
  exact key _ _ _ _ rfl rfl rfl rfl
theorem eql_num0 (x : N4) (w : World) : (binOp .eql 24 (.agg #[V x.a, V x.b, V x.c, V x.d]) (.agg #[.int .u64 0, .int .u64 0, .int .u64 0, .int .u64 0])).run Tryz.prog w = .ok (.bool (x.eqb ⟨0#64, 0#64, 0#64, 0#64⟩)) w := eql_num x ⟨0#64, 0#64, 0#64, 0#64⟩ w
attribute [go_sem ↓] eql_num eql_num0
set_option maxHeartbeats 1000000 in
theorem eqIn_num (d : Nat) (x y : N4) (w : World) : (Op.equalIn (d + 2) 24 x.v y.v).run Tryz.prog w = .ok (x.eqb y) w := by
  have key : ∀ q0 q1 q2 q3 : Bool, (x.a == y.a) = q0 → (x.b == y.b) = q1 → (x.c == y.c) = q2 → (x.d == y.d) = q3 → (Op.equalIn (d + 2) 24 x.v y.v).run Tryz.prog w = .ok (q0 && q1 && q2 && q3) w := by
    intro q0 q1 q2 q3 e0 e1 e2 e3
    cases q0 <;> cases q1 <;> cases q2 <;> cases q3 <;> go_simp
  exact key _ _ _ _ rfl rfl rfl rfl
theorem eqIn_num' (d : Nat) (x y : N4) (w : World) : (Op.equalIn (d + 1 + 1) 24 x.v y.v).run Tryz.prog w = .ok (x.eqb y) w := eqIn_num d x y w
def C4.eqb (x y : C4) : Bool := x.a.eqb y.a && x.b.eqb y.b && x.c.eqb y.c && x.d.eqb y.d
attribute [local go_sem ↓] eqIn_num eqIn_num'
theorem C4.eqb_self (x : C4) : x.eqb x = true := by unfold C4.eqb; rw [Go.Proofs.YtfaocjcpnjmfiaaGreatDoor.eqb_self, Go.Proofs.YtfaocjcpnjmfiaaGreatDoor.eqb_self, Go.Proofs.YtfaocjcpnjmfiaaGreatDoor.eqb_self, Go.Proofs.YtfaocjcpnjmfiaaGreatDoor.eqb_self]; rfl
end Go.Proofs.YtfaocjcpnjmfiaaGreatDoor
