/-
  Contracts of uint256's methods that only read: IsZero, IsUint64, Sign, Cmp, Eq, Lt, Gt, CmpUint64, LtUint64, GtUint64, Uint64, Uint64WithOverflow.
-/
import Derived.Test.YtfaocjcpnjmfiaaGreatDoorCarry
namespace Go.Proofs.YtfaocjcpnjmfiaaGreatDoor
open Go.RowKit

def N4.isZ (x : N4) : Bool := (x.a ||| x.b ||| x.c ||| x.d) == 0#64
def N4.isU (x : N4) : Bool := (x.b ||| x.c ||| x.d) == 0#64
def N4.sign (x : N4) : Int := if x.isZ then 0 else if x.d < 9223372036854775808#64 then 1 else -1
def N4.ltc (z x : N4) : Bool := subC z.d x.d (subC z.c x.c (subC z.b x.b (subC z.a x.a false)))
def N4.dif (z x : N4) : N4 := ⟨subD z.a x.a false, subD z.b x.b (subC z.a x.a false), subD z.c x.c (subC z.b x.b (subC z.a x.a false)), subD z.d x.d (subC z.c x.c (subC z.b x.b (subC z.a x.a false)))⟩
def N4.cmp (z x : N4) : Int := if z.ltc x then -1 else if (z.dif x).isZ then 0 else 1
def N4.eqb (z x : N4) : Bool := z.a == x.a && z.b == x.b && z.c == x.c && z.d == x.d
def N4.cmpW (z : N4) (n : W64) : Int := if decide (n < z.a) || !z.isU then 1 else if z.a == n then 0 else -1

theorem u64_half (x : W64) : (U x < 9223372036854775808) ↔ x < 9223372036854775808#64 := by
  unfold U; rw [BitVec.lt_def]; simp; omega
attribute [go_sem] u64_half
theorem quiet_end {v v' : Value} {w : World} (n : Nat) (h : v = v') : Ending.returned v = .returned v' ∧ ∃ m, w.drewN n = w.drewN m := ⟨by rw [h], n, rfl⟩
theorem quiet_end0 {v v' : Value} {w : World} (h : v = v') : Ending.returned v = .returned v' ∧ ∃ m, w = w.drewN m := ⟨by rw [h], 0, rfl⟩
/-- A quiet call inside a quiet region. -/
theorem quiet_in {P : Program} {f : FuncId} {args : Array Value} {w : World} {n : Nat} {v : Value}
    (h : Calls P f args (w.drewN n) fun e w' => e = .returned v ∧ ∃ m, w' = (w.drewN n).drewN m) :
    Calls P f args (w.drewN n) fun e w'' => e = .returned v ∧ ∃ m, w'' = w.drewN m :=
  h.mono fun _ _ ⟨he, m, hm⟩ => ⟨he, n + m, by rw [hm, World.drewN_drewN]⟩
theorem quiet_in2 {P : Program} {f : FuncId} {args : Array Value} {w : World} {a n : Nat} {v : Value}
    (h : Calls P f args (w.drewN (a + n)) fun e w' => e = .returned v ∧ ∃ m, w' = (w.drewN (a + n)).drewN m) :
    Calls P f args (w.drewN (a + n)) fun e w'' => e = .returned v ∧ ∃ m, w'' = w.drewN (a + m) :=
  h.mono fun _ _ ⟨he, m, hm⟩ => ⟨he, n + m, by rw [hm, World.drewN_drewN, Nat.add_assoc]⟩

set_option maxHeartbeats 400000 in
theorem isZero_any (b o : Nat) (x : N4) (w : World) (hx : At4 w b o x) :
    Calls Tryz.prog 25 #[.pointer (some ⟨b, o, none⟩)] w fun e w' => e = .returned (.bool x.isZ) ∧ ∃ n, w' = w.drewN n := by
  obtain ⟨x0, x1, x2, x3⟩ := hx
  go_enter Tryz.func25, Tryz.ntmps25
  go_wp2
  go_quiet (fail)
  go_wp2
  go_ret
  exact quiet_end nq rfl
set_option maxHeartbeats 400000 in
theorem isUint64_any (b o : Nat) (x : N4) (w : World) (hx : At4 w b o x) :
    Calls Tryz.prog 26 #[.pointer (some ⟨b, o, none⟩)] w fun e w' => e = .returned (.bool x.isU) ∧ ∃ n, w' = w.drewN n := by
  obtain ⟨x0, x1, x2, x3⟩ := hx
  go_enter Tryz.func26, Tryz.ntmps26
  go_wp2
  go_quiet (fail)
  go_wp2
  go_ret
  exact quiet_end nq rfl
set_option maxHeartbeats 400000 in
theorem uint64_any (b o : Nat) (x : N4) (w : World) (hx : At4 w b o x) :
    Calls Tryz.prog 28 #[.pointer (some ⟨b, o, none⟩)] w fun e w' => e = .returned (V x.a) ∧ ∃ n, w' = w.drewN n := by
  obtain ⟨x0, x1, x2, x3⟩ := hx
  go_enter Tryz.func28, Tryz.ntmps28
  go_wp2
  go_ret
  exact quiet_end0 rfl
end Go.Proofs.YtfaocjcpnjmfiaaGreatDoor
