/-
  Contracts of uint256's zzDiv64 (at a divisor whose highest bit is set), reciprocal2by1 and udivrem2by1.
-/
import Derived.Test.YtfaocjcpnjmfiaaDoorDivMath
import Derived.Test.YtfaocjcpnjmfiaaDoorRow
import Derived.Test.YtfaocjcpnjmfiaaDoorLen
import Derived.Test.YtfaocjcpnjmfiaaDoorShiftLaw
namespace Go.Proofs.YtfaocjcpnjmfiaaDoor
open Go.RowKit
set_option linter.unusedVariables false
set_option linter.unusedSimpArgs false
/-- Words' quotients, halves; the walk does not look inside. -/
def quoW (x y : W64) : W64 := x / y
def remW (x y : W64) : W64 := x % y
def hiW (x : W64) : W64 := x >>> (32 : Nat)
def loW (x : W64) : W64 := x &&& 4294967295#64
theorem quoW_toNat (x y : W64) : (quoW x y).toNat = x.toNat / y.toNat := BitVec.toNat_udiv
theorem remW_toNat (x y : W64) : (remW x y).toNat = x.toNat % y.toNat := BitVec.toNat_umod
theorem hiW_toNat (x : W64) : (hiW x).toNat = x.toNat / 4294967296 := by unfold hiW; rw [BitVec.toNat_ushiftRight, Nat.shiftRight_eq_div_pow]
theorem loW_toNat (x : W64) : (loW x).toNat = x.toNat % 4294967296 := by unfold loW; rw [BitVec.toNat_and]; exact Nat.and_two_pow_sub_one_eq_mod x.toNat 32
theorem u64_quo (x y : W64) : (U x).tdiv (U y) = U (quoW x y) := by
  unfold U; rw [quoW_toNat, Int.tdiv_eq_ediv_of_nonneg (by omega)]; simp
theorem u64_quo' (x y : W64) : U x / U y = U (quoW x y) := by unfold U; rw [quoW_toNat]; simp
theorem u64_rem (x y : W64) : (U x).tmod (U y) = U (remW x y) := by
  unfold U; rw [remW_toNat, Int.tmod_eq_emod_of_nonneg (by omega)]; simp
theorem u64_rem' (x y : W64) : U x % U y = U (remW x y) := by unfold U; rw [remW_toNat]; simp
theorem u64_hi (x : W64) : U x / (4294967296 : Int) = U (hiW x) := by unfold U; rw [hiW_toNat]; simp
theorem u64_lo (x : W64) : bits BinOp.and IntKind.u64 (U x) (4294967295 : Int) = U (loW x) := u64_and x 4294967295#64
theorem u64_mulc (x : W64) : IntKind.u64.wrap (U x * 4294967296) = U (x * 4294967296#64) := u64_mul x 4294967296#64
theorem u64_mulc' (x : W64) : IntKind.u64.wrap (4294967296 * U x) = U (4294967296#64 * x) := u64_mul 4294967296#64 x
theorem u64_sub1 (x : W64) : IntKind.u64.wrap (U x - 1) = U (x - 1#64) := u64_sub x 1#64
theorem u64_add1 (x : W64) : IntKind.u64.wrap (U x + 1) = U (x + 1#64) := u64_add x 1#64
theorem u64_ge32b (x : W64) : (4294967296 ≤ U x) ↔ 4294967296#64 ≤ x := u64_le 4294967296#64 x
theorem u64_wrapUd (x : W64) : IntKind.u64.wrap (U x) = U x := by
  have h := u64_add x 0#64
  have e : U (0#64) = 0 := rfl
  rw [e, Int.add_zero, BitVec.add_zero] at h
  exact h
attribute [go_sem] u64_quo u64_quo' u64_rem u64_rem' u64_hi u64_lo u64_mulc u64_mulc' u64_sub1 u64_add1 u64_ge32b u64_wrapUd
/-- The digit of 32 bits at a place in the loop. -/
def HalfRel (u n y1 y0 : Nat) (q rh : W64) : Prop := u = q.toNat * y1 + rh.toNat ∧ (u * 4294967296 + n) / (y1 * 4294967296 + y0) ≤ q.toNat ∧ rh.toNat < 4294967296 ∧ q.toNat ≤ 4294967297
theorem half_begin (uW y1 y0 : W64) (n : Nat) (h1 : 2147483648 ≤ y1.toNat) (h1' : y1.toNat < 4294967296) (h0 : y0.toNat < 4294967296) (hn : n < 4294967296) (hu : uW.toNat < y1.toNat * 4294967296 + y0.toNat) :
    HalfRel uW.toNat n y1.toNat y0.toNat (quoW uW y1) (uW - quoW uW y1 * y1) := by
  have hq := quoW_toNat uW y1
  have hd := Nat.div_add_mod uW.toNat y1.toNat
  have hm := Nat.mod_lt uW.toNat (show 0 < y1.toNat by omega)
  have hqb : uW.toNat / y1.toNat ≤ 4294967297 := by
    apply Nat.le_of_lt_succ
    refine (Nat.div_lt_iff_lt_mul (by omega)).2 ?_
    show _ < 4294967298 * y1.toNat
    omega
  have hmul : (quoW uW y1 * y1).toNat = y1.toNat * (uW.toNat / y1.toNat) := by
    rw [BitVec.toNat_mul, hq, Nat.mul_comm]
    have := uW.isLt
    apply Nat.mod_eq_of_lt
    have : y1.toNat * (uW.toNat / y1.toNat) ≤ uW.toNat := Nat.mul_div_le _ _
    omega
  have hr : (uW - quoW uW y1 * y1).toNat = uW.toNat % y1.toNat := by
    rw [BitVec.toNat_sub_of_le (by rw [BitVec.le_def, hmul]; omega), hmul]
    omega
  refine ⟨?_, ?_, by rw [hr]; omega, by rw [hq]; exact hqb⟩
  · rw [hr, hq, Nat.mul_comm]; omega
  · rw [hq]; exact half_start _ _ _ _ (by omega) hn h0
/-- The loop's test, on words. -/
theorem half_more (u n : Nat) (nW y1 y0 q rh : W64) (hnW : nW.toNat = n) (h1 : 2147483648 ≤ y1.toNat) (h1' : y1.toNat < 4294967296) (h0 : y0.toNat < 4294967296) (hn : n < 4294967296) (hu : u < y1.toNat * 4294967296 + y0.toNat) (H : HalfRel u n y1.toNat y0.toNat q rh) :
    (4294967296#64 ≤ q ∨ 4294967296#64 * rh + nW < q * y0 → (u * 4294967296 + n) / (y1.toNat * 4294967296 + y0.toNat) < q.toNat) ∧ (¬ 4294967296#64 ≤ q → ¬ 4294967296#64 * rh + nW < q * y0 → q.toNat = (u * 4294967296 + n) / (y1.toNat * 4294967296 + y0.toNat)) := by
  obtain ⟨e, hge, hrh, hqb⟩ := H
  have hlt : (u * 4294967296 + n) / (y1.toNat * 4294967296 + y0.toNat) < 4294967296 := by
    refine (Nat.div_lt_iff_lt_mul (by omega)).2 ?_
    omega
  have hl : (4294967296#64 * rh + nW).toNat = 4294967296 * rh.toNat + n := by
    rw [BitVec.toNat_add, BitVec.toNat_mul, hnW]
    simp only [BitVec.toNat_ofNat]
    omega
  have hqy : q.toNat * y0.toNat < 18446744073709551616 := by
    have : q.toNat * y0.toNat ≤ 4294967297 * 4294967295 := Nat.mul_le_mul hqb (by omega)
    omega
  have hr : (q * y0).toNat = q.toNat * y0.toNat := by rw [BitVec.toNat_mul]; exact Nat.mod_eq_of_lt hqy
  rw [BitVec.lt_def, hl, hr, BitVec.le_def]
  simp only [BitVec.toNat_ofNat]
  refine ⟨fun h => ?_, fun h2 h => ?_⟩
  · rcases h with h | h
    · omega
    · exact half_less _ _ _ _ _ _ (by omega) e h
  · exact half_digit _ _ _ _ _ _ (by omega) e hge h
/-- One round: the digit less 1; the loop goes on, or the digit is right. -/
theorem half_round (u n : Nat) (y1 y0 q rh : W64) (h1 : 2147483648 ≤ y1.toNat) (h1' : y1.toNat < 4294967296) (h0 : y0.toNat < 4294967296) (hn : n < 4294967296) (H : HalfRel u n y1.toNat y0.toNat q rh)
    (hlt : (u * 4294967296 + n) / (y1.toNat * 4294967296 + y0.toNat) < q.toNat) :
    (¬ 4294967296#64 ≤ rh + y1 → HalfRel u n y1.toNat y0.toNat (q - 1#64) (rh + y1)) ∧ (4294967296#64 ≤ rh + y1 → (q - 1#64).toNat = (u * 4294967296 + n) / (y1.toNat * 4294967296 + y0.toNat)) ∧ (q - 1#64).toNat + 1 = q.toNat := by
  obtain ⟨e, hge, hrh, hqb⟩ := H
  have hpos : 0 < q.toNat := Nat.lt_of_le_of_lt (Nat.zero_le _) hlt
  have hle1 : (u * 4294967296 + n) / (y1.toNat * 4294967296 + y0.toNat) ≤ q.toNat - 1 := Nat.le_sub_one_of_lt hlt
  have hq1 : (q - 1#64).toNat = q.toNat - 1 := by
    rw [BitVec.toNat_sub_of_le (by rw [BitVec.le_def]; simp only [BitVec.toNat_ofNat]; omega)]
    rfl
  have hr1 : (rh + y1).toNat = rh.toNat + y1.toNat := by
    rw [BitVec.toNat_add]; apply Nat.mod_eq_of_lt; omega
  have e' : u = (q.toNat - 1) * y1.toNat + (rh.toNat + y1.toNat) := by
    obtain ⟨m, hm⟩ : ∃ m, q.toNat = m + 1 := ⟨q.toNat - 1, by omega⟩
    rw [hm, Nat.add_sub_cancel]
    rw [hm, Nat.add_mul, Nat.one_mul] at e
    omega
  rw [BitVec.le_def, hr1]
  simp only [BitVec.toNat_ofNat]
  refine ⟨fun h => ⟨by rw [hq1, hr1]; exact e', by rw [hq1]; exact hle1, by rw [hr1]; omega, by rw [hq1]; clear hle1 hge hlt; omega⟩, fun h => ?_, by rw [hq1]; clear hle1 hge hlt; omega⟩
  rw [hq1]
  refine half_digit _ _ _ _ _ _ (by omega) e' hle1 ?_
  clear hle1 hge hlt
  have : (q.toNat - 1) * y0.toNat ≤ 4294967296 * 4294967295 := Nat.mul_le_mul (by omega) (by omega)
  omega
end Go.Proofs.YtfaocjcpnjmfiaaDoor
