/-
  Contracts of uint256's Lsh, Rsh, SRsh and their helpers, whatever places receiver and operand are.
-/
import Derived.Test.YtfaocjcpnjmfiaaGreatDoorWrite2
namespace Go.Proofs.YtfaocjcpnjmfiaaGreatDoor
open Go.RowKit
set_option linter.unusedVariables false
set_option linter.unusedSimpArgs false
/-- Shifts by a word's worth; the walk does not look inside. -/
def shlW (x n : W64) : W64 := x <<< n
def shrW (x n : W64) : W64 := x >>> n
theorem u64_shlU (x n : W64) (k : IntKind) : Op.shift .shl .u64 (U x) k (U n) = pure (.int .u64 (U (shlW x n))) := by
  rw [shift_shl_any _ _ _ _ (U_nonneg n)]
  congr 2
  unfold U shlW
  rw [IntKind.wrap_u64, BitVec.shiftLeft_eq', BitVec.toNat_shiftLeft, Nat.shiftLeft_eq, Int.toNat_natCast]
  by_cases h : n.toNat ≤ 64
  · rw [show min n.toNat (IntKind.u64.bits) = n.toNat from Nat.min_eq_left h]
    simp
  · rw [show min n.toNat (IntKind.u64.bits) = 64 from Nat.min_eq_right (by show 64 ≤ n.toNat; omega)]
    have h2 : x.toNat * 2 ^ n.toNat = x.toNat * 2 ^ (n.toNat - 64) * 2 ^ 64 := by rw [Nat.mul_assoc, ← Nat.pow_add]; congr 2; omega
    rw [h2, Nat.mul_mod_left]
    omega
theorem u64_shrU (x n : W64) (k : IntKind) : Op.shift .shr .u64 (U x) k (U n) = pure (.int .u64 (U (shrW x n))) := by
  rw [shift_shr_any _ _ _ _ (U_nonneg n)]
  congr 2
  unfold U shrW
  rw [BitVec.ushiftRight_eq', BitVec.toNat_ushiftRight, Nat.shiftRight_eq_div_pow, Int.toNat_natCast]
  by_cases h : n.toNat ≤ 64
  · rw [show min n.toNat (IntKind.u64.bits) = n.toNat from Nat.min_eq_left h]
    simp
  · rw [show min n.toNat (IntKind.u64.bits) = 64 from Nat.min_eq_right (by show 64 ≤ n.toNat; omega)]
    have h1 : x.toNat < 2 ^ n.toNat := Nat.lt_of_lt_of_le x.isLt (Nat.pow_le_pow_right (by decide) (by omega))
    rw [Nat.div_eq_of_lt h1]
    have := x.isLt
    omega
theorem u64_lit (k : Nat) (h : k < 18446744073709551616) (x : W64) : IntKind.u64.wrap ((k : Int) - U x) = U (BitVec.ofNat 64 k - x) := by
  rw [← U_ofNat k h, u64_sub]
/-- n less a bound, and 64 less n; the walk does not look inside. -/
def lessW (n : W64) (k : W64) : W64 := n - k
def restW (n : W64) : W64 := 64#64 - n
def N4.lsh (x : N4) (n : W64) : N4 := if n = 0#64 then x else if 192#64 ≤ n then ⟨0#64, 0#64, 0#64, shlW x.a (lessW n 192#64)⟩
  else if 128#64 ≤ n then ⟨0#64, 0#64, shlW x.a (lessW n 128#64), shlW x.b (lessW n 128#64) ||| shrW x.a (restW (lessW n 128#64))⟩
  else if 64#64 ≤ n then ⟨0#64, shlW x.a (lessW n 64#64), shlW x.b (lessW n 64#64) ||| shrW x.a (restW (lessW n 64#64)), shlW x.c (lessW n 64#64) ||| shrW x.b (restW (lessW n 64#64))⟩
  else ⟨shlW x.a n, shlW x.b n ||| shrW x.a (restW n), shlW x.c n ||| shrW x.b (restW n), shlW x.d n ||| shrW x.c (restW n)⟩
def N4.rsh (x : N4) (n : W64) : N4 := if n = 0#64 then x else if 192#64 ≤ n then ⟨shrW x.d (lessW n 192#64), 0#64, 0#64, 0#64⟩
  else if 128#64 ≤ n then ⟨shrW x.c (lessW n 128#64) ||| shlW x.d (restW (lessW n 128#64)), shrW x.d (lessW n 128#64), 0#64, 0#64⟩
  else if 64#64 ≤ n then ⟨shrW x.b (lessW n 64#64) ||| shlW x.c (restW (lessW n 64#64)), shrW x.c (lessW n 64#64) ||| shlW x.d (restW (lessW n 64#64)), shrW x.d (lessW n 64#64), 0#64⟩
  else ⟨shrW x.a n ||| shlW x.b (restW n), shrW x.b n ||| shlW x.c (restW n), shrW x.c n ||| shlW x.d (restW n), shrW x.d n⟩
/-- The ones that come in. -/
def onesW (n : W64) : W64 := shlW 18446744073709551615#64 (restW (n % 64#64))
def N4.srsh (x : N4) (n : W64) : N4 := if n = 0#64 then x else if 256#64 ≤ n then ⟨18446744073709551615#64, 18446744073709551615#64, 18446744073709551615#64, 18446744073709551615#64⟩ else if 192#64 ≤ n then ⟨shrW x.d (lessW n 192#64) ||| onesW n, 18446744073709551615#64, 18446744073709551615#64, 18446744073709551615#64⟩
  else if 128#64 ≤ n then ⟨shrW x.c (lessW n 128#64) ||| shlW x.d (restW (lessW n 128#64)), shrW x.d (lessW n 128#64) ||| onesW n, 18446744073709551615#64, 18446744073709551615#64⟩
  else if 64#64 ≤ n then ⟨shrW x.b (lessW n 64#64) ||| shlW x.c (restW (lessW n 64#64)), shrW x.c (lessW n 64#64) ||| shlW x.d (restW (lessW n 64#64)), shrW x.d (lessW n 64#64) ||| onesW n, 18446744073709551615#64⟩
  else ⟨shrW x.a n ||| shlW x.b (restW n), shrW x.b n ||| shlW x.c (restW n), shrW x.c n ||| shlW x.d (restW n), shrW x.d n ||| onesW n⟩
theorem u64_64sub (x : W64) : IntKind.u64.wrap (64 - U x) = U (restW x) := u64_lit 64 (by decide) x
theorem u64_sub192 (x : W64) : IntKind.u64.wrap (U x - 192) = U (lessW x 192#64) := u64_sub x 192#64
theorem u64_sub128 (x : W64) : IntKind.u64.wrap (U x - 128) = U (lessW x 128#64) := u64_sub x 128#64
theorem u64_sub64 (x : W64) : IntKind.u64.wrap (U x - 64) = U (lessW x 64#64) := u64_sub x 64#64
theorem u64_ge192 (x : W64) : (192 ≤ U x) ↔ 192#64 ≤ x := u64_le 192#64 x
theorem u64_ge128 (x : W64) : (128 ≤ U x) ↔ 128#64 ≤ x := u64_le 128#64 x
theorem u64_ge64 (x : W64) : (64 ≤ U x) ↔ 64#64 ≤ x := u64_le 64#64 x
theorem u64_ge256 (x : W64) : (256 ≤ U x) ↔ 256#64 ≤ x := u64_le 256#64 x
attribute [go_sem ↓] u64_shlU u64_shrU
attribute [go_sem] u64_64sub u64_sub192 u64_sub128 u64_sub64 u64_ge192 u64_ge128 u64_ge64 u64_ge256
theorem put4_set0 (w : World) (b o : Nat) (y : N4) (v : W64) : (put4 w b o y).setCell ⟨b, o, none⟩ (V v) = put4 w b o { y with a := v } := by
  unfold put4
  rw [setCell_comm _ ⟨b, o + 3, none⟩ ⟨b, o, none⟩ _ _ (by simp), setCell_comm _ ⟨b, o + 2, none⟩ ⟨b, o, none⟩ _ _ (by simp), setCell_comm _ ⟨b, o + 1, none⟩ ⟨b, o, none⟩ _ _ (by simp), setCell_again]
theorem put4_set1 (w : World) (b o : Nat) (y : N4) (v : W64) : (put4 w b o y).setCell ⟨b, o + 1, none⟩ (V v) = put4 w b o { y with b := v } := by
  unfold put4
  rw [setCell_comm _ ⟨b, o + 3, none⟩ ⟨b, o + 1, none⟩ _ _ (by simp), setCell_comm _ ⟨b, o + 2, none⟩ ⟨b, o + 1, none⟩ _ _ (by simp), setCell_again]
theorem put4_set2 (w : World) (b o : Nat) (y : N4) (v : W64) : (put4 w b o y).setCell ⟨b, o + 2, none⟩ (V v) = put4 w b o { y with c := v } := by
  unfold put4
  rw [setCell_comm _ ⟨b, o + 3, none⟩ ⟨b, o + 2, none⟩ _ _ (by simp), setCell_again]
theorem put4_set3 (w : World) (b o : Nat) (y : N4) (v : W64) : (put4 w b o y).setCell ⟨b, o + 3, none⟩ (V v) = put4 w b o { y with d := v } := by
  unfold put4
  rw [setCell_again]
theorem put4_put4 (w : World) (b o : Nat) (y z : N4) : put4 (put4 w b o y) b o z = put4 w b o z := by
  show ((((put4 w b o y).setCell ⟨b, o, none⟩ (V z.a)).setCell ⟨b, o + 1, none⟩ (V z.b)).setCell ⟨b, o + 2, none⟩ (V z.c)).setCell ⟨b, o + 3, none⟩ (V z.d) = _
  rw [put4_set0, put4_set1, put4_set2, put4_set3]
theorem setCell_drewN' (w : World) (n : Nat) (p : Addr) (v : Value) : (w.drewN n).setCell p v = (w.setCell p v).drewN n := rfl
theorem drewN_drew' (w : World) (n : Nat) : (w.drewN n).drew = w.drewN (n + 1) := rfl
theorem put4_drewN (w : World) (n b o : Nat) (z : N4) : put4 (w.drewN n) b o z = (put4 w b o z).drewN n := rfl

theorem u64_mod64 (x : W64) : U x % 64 = U (x % 64#64) := by
  unfold U; rw [BitVec.toNat_umod]; simp
theorem u64_tmod64 (x : W64) : (U x).tmod 64 = U (x % 64#64) := by
  rw [Int.tmod_eq_emod_of_nonneg (U_nonneg x), u64_mod64]
theorem u64_shlMax (n : W64) (k : IntKind) : Op.shift .shl .u64 18446744073709551615 k (U n) = pure (.int .u64 (U (shlW 18446744073709551615#64 n))) := u64_shlU 18446744073709551615#64 n k
theorem u64_and63 (x : W64) : bits BinOp.and IntKind.u64 (U x) (9223372036854775808 : Int) = U (x &&& 9223372036854775808#64) := u64_and x 9223372036854775808#64
theorem and63 (x : W64) : (x &&& 9223372036854775808#64 != 0#64) = (x >>> 63 == 1#64) := by
  have h1 : (9223372036854775808#64 : W64) = BitVec.twoPow 64 63 := by decide
  rw [h1, BitVec.and_twoPow]
  have h2 : x.getLsbD 63 = decide (9223372036854775808 ≤ x.toNat) := by
    rw [BitVec.getLsbD, Nat.testBit_eq_decide_div_mod_eq]
    have := x.isLt
    rw [Bool.eq_iff_iff]; simp only [decide_eq_true_eq]; omega
  have h3 : (x >>> 63 == 1#64) = decide (9223372036854775808 ≤ x.toNat) := by
    rw [Bool.eq_iff_iff]
    simp only [beq_iff_eq, decide_eq_true_eq, ← BitVec.toNat_inj, BitVec.toNat_ushiftRight, Nat.shiftRight_eq_div_pow, BitVec.toNat_ofNat]
    have := x.isLt
    omega
  rw [h2, h3]
  by_cases h : 9223372036854775808 ≤ x.toNat
  · rw [decide_eq_true h]; decide
  · rw [decide_eq_false h]; decide
attribute [local go_sem ↓] u64_shlMax
attribute [local go_sem] u64_mod64 u64_tmod64 u64_and63
/-- The sign bit, as isBitSet asks it. -/
def N4.top (x : N4) : Bool := x.d >>> 63 == 1#64
end Go.Proofs.YtfaocjcpnjmfiaaGreatDoor
