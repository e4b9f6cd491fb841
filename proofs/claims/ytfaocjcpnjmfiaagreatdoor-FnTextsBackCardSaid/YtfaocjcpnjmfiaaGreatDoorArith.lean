/-
  Plain laws: sums and differences of four-word numbers as whole numbers.
-/
import Derived.Test.YtfaocjcpnjmfiaaGreatDoorOrd
import Derived.Test.YtfaocjcpnjmfiaaGreatDoorWrite2
namespace Go.Proofs.YtfaocjcpnjmfiaaGreatDoor
theorem add_whole (x y : N4) : x.toNat + y.toNat = (x.add y).toNat + 2 ^ 256 * (x.addc y).toNat := by
  have e0 := add_spec x.a y.a false
  have e1 := add_spec x.b y.b (addC x.a y.a false)
  have e2 := add_spec x.c y.c (addC x.b y.b (addC x.a y.a false))
  have e3 := add_spec x.d y.d (addC x.c y.c (addC x.b y.b (addC x.a y.a false)))
  simp only [Bool.toNat_false] at e0
  unfold N4.add N4.toNat N4.addc
  simp only
  omega
theorem add_toNat (x y : N4) : (x.add y).toNat = (x.toNat + y.toNat) % 2 ^ 256 := by
  have h := add_whole x y
  have c := toNat_lt (x.add y); have d := bool_le (x.addc y)
  omega
theorem addc_eq (x y : N4) : x.addc y = decide (2 ^ 256 ≤ x.toNat + y.toNat) := by
  have h := add_whole x y
  have c := toNat_lt (x.add y); have d := bool_le (x.addc y)
  rw [Bool.eq_iff_iff, bool_one, decide_eq_true_eq]
  omega
theorem dif_zero_toNat (x : N4) : (N4.dif ⟨0#64, 0#64, 0#64, 0#64⟩ x).toNat = (2 ^ 256 - x.toNat) % 2 ^ 256 := by
  rw [dif_toNat]; congr 2
/-- A number by its worth. -/
def ofN (n : Nat) : N4 := ⟨BitVec.ofNat 64 n, BitVec.ofNat 64 (n / 2 ^ 64), BitVec.ofNat 64 (n / 2 ^ 128), BitVec.ofNat 64 (n / 2 ^ 192)⟩
theorem ofN_toNat (n : Nat) : (ofN n).toNat = n % 2 ^ 256 := by
  unfold ofN N4.toNat
  simp only [BitVec.toNat_ofNat]
  omega
theorem eq_ofN {x : N4} {n : Nat} (h : x.toNat = n % 2 ^ 256) : x = ofN n := toNat_inj (by rw [h, ofN_toNat])
theorem add_ofN (x y : N4) : x.add y = ofN (x.toNat + y.toNat) := eq_ofN (add_toNat x y)
theorem dif_ofN (x y : N4) : x.dif y = ofN (x.toNat + 2 ^ 256 - y.toNat) := eq_ofN (dif_toNat x y)
end Go.Proofs.YtfaocjcpnjmfiaaGreatDoor
