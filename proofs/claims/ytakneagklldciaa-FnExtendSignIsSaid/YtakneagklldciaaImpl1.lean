/-
  Contracts of the thin package's AllOne, One, FromUint64, Uint64WithOverflow, CmpUint64, LtUint64, GtUint64 and of the package's methods beneath.
-/
import Derived.Test.YtakneagklldciaaSpec0
namespace Go.Proofs.Ytakneagklldciaa
open Go.RowKit
def nullN : N4 := ⟨0#64, 0#64, 0#64, 0#64⟩
def oneN : N4 := ⟨1#64, 0#64, 0#64, 0#64⟩
def onesN : N4 := ⟨18446744073709551615#64, 18446744073709551615#64, 18446744073709551615#64, 18446744073709551615#64⟩
theorem retNum {P : Program} {fn : Func} {a : Act} {w w' : World} {x : N4} (h : (results fn a.tmps).run P w' = .ok x.v w') (hd : a.defers = []) (hb : Below w.heap.size w w') : bodyPost P fn (RetBel x.v w) .ret a w' :=
  bodyPost_ret h hd (retBel rfl hb)
theorem eqb_comm (x y : N4) : x.eqb y = y.eqb x := by
  rw [Bool.eq_iff_iff, eqb_iff, eqb_iff]; exact ⟨Eq.symm, Eq.symm⟩
theorem eql_num1 (x : N4) (w : World) : (binOp .eql 26 (.agg #[V x.a, V x.b, V x.c, V x.d]) (.agg #[.int .u64 1, .int .u64 0, .int .u64 0, .int .u64 0])).run Try.prog w = .ok (.bool (x.eqb oneN)) w := eql_num x oneN w
theorem eql_numA (x : N4) (n : W64) (w : World) : (binOp .eql 26 (.agg #[V x.a, V x.b, V x.c, V x.d]) (.agg #[V n, .int .u64 0, .int .u64 0, .int .u64 0])).run Try.prog w = .ok (.bool (x.eqb ⟨n, 0#64, 0#64, 0#64⟩)) w := eql_num x ⟨n, 0#64, 0#64, 0#64⟩ w
attribute [go_sem ↓] eql_num1 eql_numA






set_option maxHeartbeats 400000 in
theorem gtUint64_any (b o : Nat) (x : N4) (n : W64) (w : World) (hx : At4 w b o x) :
    Calls Try.prog 74 #[.pointer (some ⟨b, o, none⟩), V n] w fun e w' => e = .returned (.bool (decide (n < x.a) || !x.isU)) ∧ ∃ m, w' = w.drewN m := by
  obtain ⟨x0, x1, x2, x3⟩ := hx
  cases h1 : decide (n < x.a)
  all_goals
    go_enter Try.func74, Try.ntmps74
    go_wp2
    go_quiet (fail)
    go_wp2
    go_ret
    exact quiet_end _ rfl
end Go.Proofs.Ytakneagklldciaa
