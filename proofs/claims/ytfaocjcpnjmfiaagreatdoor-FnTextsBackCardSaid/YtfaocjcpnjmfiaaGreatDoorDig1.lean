/-
  The reference's words and Whole: a number as sixteen digits of sixteen bits.
-/
import Derived.Test.YtfaocjcpnjmfiaaGreatDoorDig0
namespace Go.Proofs.YtfaocjcpnjmfiaaGreatDoor
open Go.RowKit
set_option linter.unusedVariables false
theorem u64_shr16 (x : W64) (k : Nat) : Op.shift .shr .u64 (U x) .i64 (16 * (k : Int)) = pure (.int .u64 (U (x >>> (16 * k)))) := by
  rw [shift_shr_any _ _ _ _ (by omega)]
  congr 2
  unfold U
  rw [BitVec.toNat_ushiftRight, Nat.shiftRight_eq_div_pow, show (16 * (k : Int)).toNat = 16 * k by omega]
  by_cases h : 16 * k ≤ 64
  · rw [show min (16 * k) (IntKind.u64.bits) = 16 * k from Nat.min_eq_left h]
    simp
  · rw [show min (16 * k) (IntKind.u64.bits) = 64 from Nat.min_eq_right (by show 64 ≤ 16 * k; omega)]
    have h1 : x.toNat < 2 ^ (16 * k) := Nat.lt_of_lt_of_le x.isLt (Nat.pow_le_pow_right (by decide) (by omega))
    rw [Nat.div_eq_of_lt h1]
    have := x.isLt
    omega
theorem u64_and16 (x : W64) : bits BinOp.and IntKind.u64 (U x) (65535 : Int) = U (x &&& 65535#64) := u64_and x 65535#64
theorem and16_toNat (x : W64) : (x &&& 65535#64).toNat = x.toNat % 65536 := by
  rw [BitVec.toNat_and]
  exact Nat.and_two_pow_sub_one_eq_mod x.toNat 16
/-- The lowest sixteen bits. -/
def lo16 (x : W64) : Nat := x.toNat % 65536
theorem i64_and16 (x : W64) : IntKind.i64.wrap (U (x &&& 65535#64)) = (lo16 x : Int) := by
  unfold U lo16
  rw [and16_toNat, IntWalk.i64_in _ (by omega)]
/-- Digit i of a number. -/
def N4.wd (x : N4) (j : Nat) : W64 := if j = 0 then x.a else if j = 1 then x.b else if j = 2 then x.c else x.d
def N4.dg (x : N4) (i : Nat) : Nat := lo16 (x.wd (i / 4) >>> (16 * (i % 4)))
def N4.digs (x : N4) : List Nat := (List.range 16).map x.dg
theorem digs_len (x : N4) : x.digs.length = 16 := by simp [N4.digs]
theorem digs_take (x : N4) (n : Nat) (h : n < 16) : x.digs.take (n + 1) = x.digs.take n ++ [x.dg n] := by
  rw [List.take_succ_eq_append_getElem (by rw [digs_len]; exact h)]
  simp [N4.digs]
theorem digs_snoc (x : N4) (j k : Nat) (hj : j < 4) (hk : k < 4) : ints (x.digs.take (4 * j + (k + 1))) = ints (x.digs.take (4 * j + k)) ++ [.int .i64 (lo16 (x.wd j >>> (16 * k)) : Int)] := by
  rw [show 4 * j + (k + 1) = 4 * j + k + 1 by omega, digs_take x _ (by omega)]
  simp only [ints, List.map_append, List.map_cons, List.map_nil, N4.dg]
  rw [show (4 * j + k) / 4 = j by omega, show (4 * j + k) % 4 = k by omega]
theorem grown_of_bel {w w' : World} (h : Below w.heap.size w w') : w.grownBy w' none := ⟨h.os, h.tape, h.output, h.size, fun k hk _ => h.block k hk⟩
attribute [local go_sem ↓] u64_shr16
attribute [local go_sem] u64_and16 i64_and16
end Go.Proofs.YtfaocjcpnjmfiaaGreatDoor
