/-
  Plain laws: borrows and carries as equations, comparison of four-word numbers as comparison of whole numbers. No program in sight but the definitions.
-/
import Derived.Test.YtfaocjcpnjmfiaaGreatDoorEql
namespace Go.Proofs.YtfaocjcpnjmfiaaGreatDoor
theorem sub_spec (x y : W64) (c : Bool) : x.toNat + 2 ^ 64 * (subC x y c).toNat = y.toNat + c.toNat + (subD x y c).toNat := by
  have a1 := x.isLt; have b1 := y.isLt
  unfold subD subC bw
  cases c
  · by_cases h : x.toNat < y.toNat
    · simp [BitVec.toNat_sub, h]; omega
    · simp [BitVec.toNat_sub, h]; omega
  · by_cases h : x.toNat < y.toNat + 1
    · simp [BitVec.toNat_sub, h]; omega
    · simp [BitVec.toNat_sub, h]; omega
theorem add_spec (x y : W64) (c : Bool) : x.toNat + y.toNat + c.toNat = (addS x y c).toNat + 2 ^ 64 * (addC x y c).toNat := by
  have a1 := x.isLt; have b1 := y.isLt
  unfold addS addC bw
  cases c
  · by_cases h : 2 ^ 64 ≤ x.toNat + y.toNat
    · simp [BitVec.toNat_add, h]; omega
    · simp [BitVec.toNat_add, h]; omega
  · by_cases h : 2 ^ 64 ≤ x.toNat + y.toNat + 1
    · simp [BitVec.toNat_add, h]; omega
    · simp [BitVec.toNat_add, h]; omega
theorem bool_le (c : Bool) : c.toNat ≤ 1 := by cases c <;> decide
theorem bool_one (c : Bool) : c = true ↔ c.toNat = 1 := by cases c <;> decide
theorem toNat_lt (z : N4) : z.toNat < 2 ^ 256 := by
  have a1 := z.a.isLt; have a2 := z.b.isLt; have a3 := z.c.isLt; have a4 := z.d.isLt
  unfold N4.toNat; omega
theorem toNat_inj {z x : N4} (h : z.toNat = x.toNat) : z = x := by
  have a1 := z.a.isLt; have a2 := z.b.isLt; have a3 := z.c.isLt; have a4 := z.d.isLt
  have b1 := x.a.isLt; have b2 := x.b.isLt; have b3 := x.c.isLt; have b4 := x.d.isLt
  unfold N4.toNat at h
  apply N4.ext' <;> apply BitVec.eq_of_toNat_eq <;> omega
theorem isZ_iff (x : N4) : x.isZ = true ↔ x.toNat = 0 := by
  rw [← eqb_zero, eqb_iff]
  constructor
  · rintro rfl; rfl
  · intro h; exact toNat_inj (h.trans rfl)
/-- The borrow of a whole difference. -/
theorem dif_spec (z x : N4) : z.toNat + 2 ^ 256 * (z.ltc x).toNat = x.toNat + (z.dif x).toNat := by
  have e0 := sub_spec z.a x.a false
  have e1 := sub_spec z.b x.b (subC z.a x.a false)
  have e2 := sub_spec z.c x.c (subC z.b x.b (subC z.a x.a false))
  have e3 := sub_spec z.d x.d (subC z.c x.c (subC z.b x.b (subC z.a x.a false)))
  simp only [Bool.toNat_false] at e0
  unfold N4.dif N4.toNat N4.ltc
  simp only
  omega
theorem dif_toNat (z x : N4) : (z.dif x).toNat = (z.toNat + 2 ^ 256 - x.toNat) % 2 ^ 256 := by
  have h := dif_spec z x
  have a := toNat_lt z; have b := toNat_lt x; have c := toNat_lt (z.dif x); have d := bool_le (z.ltc x)
  omega
theorem ltc_iff (z x : N4) : z.ltc x = true ↔ z.toNat < x.toNat := by
  have h := dif_spec z x
  have a := toNat_lt z; have b := toNat_lt x; have c := toNat_lt (z.dif x); have d := bool_le (z.ltc x)
  rw [bool_one]
  omega
theorem ltc_eq (z x : N4) : z.ltc x = decide (z.toNat < x.toNat) := by
  rw [Bool.eq_iff_iff, ltc_iff]; simp
theorem eqb_eq (z x : N4) : z.eqb x = decide (z.toNat = x.toNat) := by
  rw [Bool.eq_iff_iff, eqb_iff]; simp; exact ⟨fun h => by rw [h], toNat_inj⟩
theorem cmp_eq (z x : N4) : z.cmp x = if z.toNat < x.toNat then -1 else if z.toNat = x.toNat then 0 else 1 := by
  have a := toNat_lt z; have b := toNat_lt x
  unfold N4.cmp
  by_cases h : z.toNat < x.toNat
  · rw [if_pos ((ltc_iff _ _).2 h), if_pos h]
  · rw [if_neg (fun e => h ((ltc_iff _ _).1 e)), if_neg h]
    by_cases h2 : z.toNat = x.toNat
    · rw [if_pos ((isZ_iff _).2 (by rw [dif_toNat, h2]; omega)), if_pos h2]
    · rw [if_neg (fun e => h2 (by have := (isZ_iff _).1 e; rw [dif_toNat] at this; omega)), if_neg h2]
/-- The sign bit. -/
def N4.neg (x : N4) : Bool := x.d >>> 63 == 1#64
theorem neg_iff (x : N4) : x.neg = true ↔ ¬ x.d < 9223372036854775808#64 := by
  have a := x.d.isLt
  unfold N4.neg
  rw [beq_iff_eq, BitVec.lt_def, ← BitVec.toNat_inj]
  simp only [BitVec.toNat_ushiftRight, Nat.shiftRight_eq_div_pow, BitVec.toNat_ofNat]
  omega
theorem sign_eq (x : N4) : x.sign = if x.isZ then 0 else if x.neg then -1 else 1 := by
  unfold N4.sign
  by_cases h : x.neg = true
  · rw [if_neg ((neg_iff x).1 h), if_pos h]
  · rw [if_pos (Decidable.not_not.1 fun e => h ((neg_iff x).2 e)), if_neg h]
end Go.Proofs.YtfaocjcpnjmfiaaGreatDoor
