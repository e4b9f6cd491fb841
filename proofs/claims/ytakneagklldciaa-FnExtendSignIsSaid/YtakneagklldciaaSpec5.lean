/-
  The reference's ByteAt, by worth.
-/
import Derived.Test.YtakneagklldciaaSpec4
namespace Go.Proofs.Ytakneagklldciaa
open Go.RowKit
set_option linter.unusedVariables false
set_option linter.unusedSimpArgs false
/-- A byte of a number, as the reference says it. -/
def byteN (x y : N4) : N4 := if (!y.isU) || decide (31 < y.a.toNat) then ⟨0#64, 0#64, 0#64, 0#64⟩ else ⟨BitVec.ofNat 64 (x.toNat / 2 ^ (8 * (31 - y.a.toNat)) % 256), 0#64, 0#64, 0#64⟩
theorem dig_byte (X n : Nat) : X / 65536 ^ (n / 2) % 65536 / 2 ^ (8 * (n % 2)) % 256 = X / 2 ^ (8 * n) % 256 := by
  have e1 : (65536 : Nat) ^ (n / 2) = 2 ^ (16 * (n / 2)) := by rw [Nat.pow_mul]
  have e2 : 2 ^ (8 * n) = 2 ^ (16 * (n / 2)) * 2 ^ (8 * (n % 2)) := by rw [← Nat.pow_add]; congr 1; omega
  rw [e1, e2, ← Nat.div_div_eq_div_mul]
  generalize X / 2 ^ (16 * (n / 2)) = Y
  rcases (by omega : n % 2 = 0 ∨ n % 2 = 1) with h | h <;> rw [h] <;> omega
theorem i64_and255 (x : Nat) (h : x < 9223372036854775808) : bits .and .i64 (x : Int) 255 = ((x % 256 : Nat) : Int) := by
  have h1 := (bits_nat .i64 63 (by decide) (fun n h0 h1 => IntWalk.i64_in n (by omega)) x 255 (by omega) (by decide)).1
  have e : x &&& 255 = x % 256 := Nat.and_two_pow_sub_one_eq_mod x 8
  rw [e] at h1
  exact h1
end Go.Proofs.Ytakneagklldciaa
