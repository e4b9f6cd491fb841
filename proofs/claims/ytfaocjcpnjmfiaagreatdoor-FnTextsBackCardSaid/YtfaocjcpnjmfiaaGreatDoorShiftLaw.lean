/-
  Plain laws: shifts of four-word numbers as products and quotients of whole numbers; the arithmetic shift as the turned shift of the turned number.
-/
import Derived.Test.YtfaocjcpnjmfiaaGreatDoorShift
import Derived.Test.YtfaocjcpnjmfiaaGreatDoorArith
namespace Go.Proofs.YtfaocjcpnjmfiaaGreatDoor
set_option linter.unusedVariables false
theorem restW_toNat (n : W64) (h : n.toNat ≤ 64) : (restW n).toNat = 64 - n.toNat := by
  unfold restW; rw [BitVec.toNat_sub]; have := n.isLt; simp only [BitVec.toNat_ofNat]; omega
theorem lessW_toNat (n k : W64) (h : k ≤ n) : (lessW n k).toNat = n.toNat - k.toNat := by
  unfold lessW; rw [BitVec.toNat_sub_of_le h]
theorem shlW_toNat (x n : W64) : (shlW x n).toNat = x.toNat * 2 ^ n.toNat % 2 ^ 64 := by
  unfold shlW; rw [BitVec.shiftLeft_eq', BitVec.toNat_shiftLeft, Nat.shiftLeft_eq]
theorem shrW_toNat (x n : W64) : (shrW x n).toNat = x.toNat / 2 ^ n.toNat := by
  unfold shrW; rw [BitVec.ushiftRight_eq', BitVec.toNat_ushiftRight, Nat.shiftRight_eq_div_pow]
theorem pow64 (k : Nat) (h : k ≤ 64) : 2 ^ 64 = 2 ^ (64 - k) * 2 ^ k := by rw [← Nat.pow_add]; congr 1; omega
theorem shl_or (d c n : W64) (h : n.toNat < 64) : (shlW d n ||| shrW c (restW n)).toNat = d.toNat * 2 ^ n.toNat % 2 ^ 64 + c.toNat * 2 ^ n.toNat / 2 ^ 64 := by
  rw [BitVec.toNat_or, shlW_toNat, shrW_toNat, restW_toNat n (by omega)]
  generalize n.toNat = k at h
  have e := pow64 k (by omega)
  have e1 : d.toNat * 2 ^ k % 2 ^ 64 = 2 ^ k * (d.toNat % 2 ^ (64 - k)) := by rw [e, Nat.mul_mod_mul_right, Nat.mul_comm]
  have e2 : c.toNat * 2 ^ k / 2 ^ 64 = c.toNat / 2 ^ (64 - k) := by rw [e, Nat.mul_div_mul_right _ _ (Nat.two_pow_pos k)]
  have hc : c.toNat / 2 ^ (64 - k) < 2 ^ k := Nat.div_lt_of_lt_mul (by rw [← e]; exact c.isLt)
  rw [e1, e2, ← Nat.two_pow_add_eq_or_of_lt hc]
theorem shr_or (a b n : W64) (h : n.toNat < 64) : (shrW a n ||| shlW b (restW n)).toNat = a.toNat / 2 ^ n.toNat + b.toNat % 2 ^ n.toNat * 2 ^ (64 - n.toNat) := by
  rw [BitVec.toNat_or, shlW_toNat, shrW_toNat, restW_toNat n (by omega)]
  generalize n.toNat = k at h
  have e : 2 ^ 64 = 2 ^ k * 2 ^ (64 - k) := by rw [← Nat.pow_add]; congr 1; omega
  have e1 : b.toNat * 2 ^ (64 - k) % 2 ^ 64 = 2 ^ (64 - k) * (b.toNat % 2 ^ k) := by rw [e, Nat.mul_mod_mul_right, Nat.mul_comm]
  have ha : a.toNat / 2 ^ k < 2 ^ (64 - k) := Nat.div_lt_of_lt_mul (by rw [← e]; exact a.isLt)
  rw [e1, Nat.or_comm, ← Nat.two_pow_add_eq_or_of_lt ha, Nat.mul_comm (b.toNat % 2 ^ k)]
  omega
theorem pow_big (n k : Nat) (h : k ≤ n) : ∃ q, 2 ^ n = 2 ^ k * q := ⟨2 ^ (n - k), by rw [← Nat.pow_add]; congr 1; omega⟩
theorem lsh_toNat (x : N4) (n : W64) : (x.lsh n).toNat = x.toNat * 2 ^ n.toNat % 2 ^ 256 := by
  have a1 := x.a.isLt; have a2 := x.b.isLt; have a3 := x.c.isLt; have a4 := x.d.isLt
  unfold N4.lsh
  by_cases h0 : n = 0#64
  · rw [if_pos h0, h0, show (0#64 : W64).toNat = 0 from rfl, Nat.pow_zero, Nat.mul_one, Nat.mod_eq_of_lt (toNat_lt x)]
  rw [if_neg h0]
  by_cases h192 : 192#64 ≤ n
  · rw [if_pos h192]
    have hl := lessW_toNat n 192#64 h192
    rw [BitVec.le_def] at h192
    simp only [BitVec.toNat_ofNat] at hl h192
    unfold N4.toNat
    simp only [shlW_toNat, hl]
    have e : x.a.toNat * 2 ^ (n.toNat - 192 % 2 ^ 64) * 2 ^ 192 = x.a.toNat * 2 ^ n.toNat := by rw [Nat.mul_assoc, ← Nat.pow_add]; congr 2; omega
    obtain ⟨q, hq⟩ := pow_big n.toNat 192 (by omega)
    have e2 : (x.a.toNat + 2 ^ 64 * x.b.toNat + 2 ^ 128 * x.c.toNat + 2 ^ 192 * x.d.toNat) * 2 ^ n.toNat = x.a.toNat * 2 ^ n.toNat + 2 ^ 256 * (x.b.toNat * q + 2 ^ 64 * (x.c.toNat * q) + 2 ^ 128 * (x.d.toNat * q)) := by rw [hq]; grind
    rw [e2, Nat.add_mul_mod_self_left, ← e]
    generalize x.a.toNat * 2 ^ (n.toNat - 192 % 2 ^ 64) = A
    simp only [BitVec.toNat_ofNat]
    omega
  rw [if_neg h192]
  by_cases h128 : 128#64 ≤ n
  · rw [if_pos h128]
    have hl := lessW_toNat n 128#64 h128
    rw [BitVec.le_def] at h128 h192
    simp only [BitVec.toNat_ofNat] at hl h128 h192
    have hm : (lessW n 128#64).toNat < 64 := by omega
    have w0 := (shlW x.b (lessW n 128#64) ||| shrW x.a (restW (lessW n 128#64))).isLt
    rw [shl_or _ _ _ hm] at w0
    have hn : 2 ^ n.toNat = 2 ^ 128 * 2 ^ (lessW n 128#64).toNat := by rw [← Nat.pow_add]; congr 1; omega
    unfold N4.toNat
    simp only [shl_or _ _ _ hm, shlW_toNat]
    have e2 : (x.a.toNat + 2 ^ 64 * x.b.toNat + 2 ^ 128 * x.c.toNat + 2 ^ 192 * x.d.toNat) * 2 ^ n.toNat = 2 ^ 128 * (x.a.toNat * 2 ^ (lessW n 128#64).toNat) + 2 ^ 192 * (x.b.toNat * 2 ^ (lessW n 128#64).toNat) + 2 ^ 256 * (x.c.toNat * 2 ^ (lessW n 128#64).toNat + 2 ^ 64 * (x.d.toNat * 2 ^ (lessW n 128#64).toNat)) := by rw [hn]; grind
    rw [e2, Nat.add_mul_mod_self_left]
    generalize x.a.toNat * 2 ^ (lessW n 128#64).toNat = A at *
    generalize x.b.toNat * 2 ^ (lessW n 128#64).toNat = B at *
    simp only [BitVec.toNat_ofNat]
    omega
  rw [if_neg h128]
  by_cases h64 : 64#64 ≤ n
  · rw [if_pos h64]
    have hl := lessW_toNat n 64#64 h64
    rw [BitVec.le_def] at h64 h128
    simp only [BitVec.toNat_ofNat] at hl h64 h128
    have hm : (lessW n 64#64).toNat < 64 := by omega
    have w0 := (shlW x.b (lessW n 64#64) ||| shrW x.a (restW (lessW n 64#64))).isLt
    rw [shl_or _ _ _ hm] at w0
    have w1 := (shlW x.c (lessW n 64#64) ||| shrW x.b (restW (lessW n 64#64))).isLt
    rw [shl_or _ _ _ hm] at w1
    have hn : 2 ^ n.toNat = 2 ^ 64 * 2 ^ (lessW n 64#64).toNat := by rw [← Nat.pow_add]; congr 1; omega
    unfold N4.toNat
    simp only [shl_or _ _ _ hm, shlW_toNat]
    have e2 : (x.a.toNat + 2 ^ 64 * x.b.toNat + 2 ^ 128 * x.c.toNat + 2 ^ 192 * x.d.toNat) * 2 ^ n.toNat = 2 ^ 64 * (x.a.toNat * 2 ^ (lessW n 64#64).toNat) + 2 ^ 128 * (x.b.toNat * 2 ^ (lessW n 64#64).toNat) + 2 ^ 192 * (x.c.toNat * 2 ^ (lessW n 64#64).toNat) + 2 ^ 256 * (x.d.toNat * 2 ^ (lessW n 64#64).toNat) := by rw [hn]; grind
    rw [e2, Nat.add_mul_mod_self_left]
    generalize x.a.toNat * 2 ^ (lessW n 64#64).toNat = A at *
    generalize x.b.toNat * 2 ^ (lessW n 64#64).toNat = B at *
    generalize x.c.toNat * 2 ^ (lessW n 64#64).toNat = C at *
    simp only [BitVec.toNat_ofNat]
    omega
  rw [if_neg h64]
  rw [BitVec.le_def] at h64
  simp only [BitVec.toNat_ofNat] at h64
  have hm : n.toNat < 64 := by omega
  have w0 := (shlW x.b n ||| shrW x.a (restW n)).isLt
  rw [shl_or _ _ _ hm] at w0
  have w1 := (shlW x.c n ||| shrW x.b (restW n)).isLt
  rw [shl_or _ _ _ hm] at w1
  have w2 := (shlW x.d n ||| shrW x.c (restW n)).isLt
  rw [shl_or _ _ _ hm] at w2
  unfold N4.toNat
  simp only [shl_or _ _ _ hm, shlW_toNat]
  have e2 : (x.a.toNat + 2 ^ 64 * x.b.toNat + 2 ^ 128 * x.c.toNat + 2 ^ 192 * x.d.toNat) * 2 ^ n.toNat = x.a.toNat * 2 ^ n.toNat + 2 ^ 64 * (x.b.toNat * 2 ^ n.toNat) + 2 ^ 128 * (x.c.toNat * 2 ^ n.toNat) + 2 ^ 192 * (x.d.toNat * 2 ^ n.toNat) := by grind
  rw [e2]
  generalize x.a.toNat * 2 ^ n.toNat = A at *
  generalize x.b.toNat * 2 ^ n.toNat = B at *
  generalize x.c.toNat * 2 ^ n.toNat = C at *
  generalize x.d.toNat * 2 ^ n.toNat = D at *
  omega
theorem rsh_ring (P Q q0 q1 q2 q3 r0 r1 r2 r3 : Nat) : (P * q0 + r0) + P * Q * (P * q1 + r1) + (P * Q) ^ 2 * (P * q2 + r2) + (P * Q) ^ 3 * (P * q3 + r3) = P * (q0 + r1 * Q + P * Q * (q1 + r2 * Q) + (P * Q) ^ 2 * (q2 + r3 * Q) + (P * Q) ^ 3 * q3) + r0 := by grind
theorem rsh_core (a b c d k : Nat) (hk : k < 64) : (a + 2 ^ 64 * b + 2 ^ 128 * c + 2 ^ 192 * d) / 2 ^ k = a / 2 ^ k + b % 2 ^ k * 2 ^ (64 - k) + 2 ^ 64 * (b / 2 ^ k + c % 2 ^ k * 2 ^ (64 - k)) + 2 ^ 128 * (c / 2 ^ k + d % 2 ^ k * 2 ^ (64 - k)) + 2 ^ 192 * (d / 2 ^ k) := by
  have e : 2 ^ 64 = 2 ^ k * 2 ^ (64 - k) := by rw [← Nat.pow_add]; congr 1; omega
  have h := rsh_ring (2 ^ k) (2 ^ (64 - k)) (a / 2 ^ k) (b / 2 ^ k) (c / 2 ^ k) (d / 2 ^ k) (a % 2 ^ k) (b % 2 ^ k) (c % 2 ^ k) (d % 2 ^ k)
  rw [Nat.div_add_mod, Nat.div_add_mod, Nat.div_add_mod, Nat.div_add_mod, ← e] at h
  have e2 : ((2 : Nat) ^ 64) ^ 2 = 2 ^ 128 := rfl
  have e3 : ((2 : Nat) ^ 64) ^ 3 = 2 ^ 192 := rfl
  rw [e2, e3] at h
  rw [h, Nat.mul_add_div (Nat.two_pow_pos k), Nat.div_eq_of_lt (Nat.mod_lt _ (Nat.two_pow_pos k)), Nat.add_zero]
theorem rsh_toNat (x : N4) (n : W64) : (x.rsh n).toNat = x.toNat / 2 ^ n.toNat := by
  have a1 := x.a.isLt; have a2 := x.b.isLt; have a3 := x.c.isLt; have a4 := x.d.isLt
  unfold N4.rsh
  by_cases h0 : n = 0#64
  · rw [if_pos h0, h0, show (0#64 : W64).toNat = 0 from rfl, Nat.pow_zero, Nat.div_one]
  rw [if_neg h0]
  by_cases h192 : 192#64 ≤ n
  · rw [if_pos h192]
    have hl := lessW_toNat n 192#64 h192
    rw [BitVec.le_def] at h192
    simp only [BitVec.toNat_ofNat] at hl h192
    have hn : 2 ^ n.toNat = 2 ^ 192 * 2 ^ (lessW n 192#64).toNat := by rw [← Nat.pow_add]; congr 1; omega
    unfold N4.toNat
    simp only [shrW_toNat]
    rw [hn, ← Nat.div_div_eq_div_mul, show (x.a.toNat + 2 ^ 64 * x.b.toNat + 2 ^ 128 * x.c.toNat + 2 ^ 192 * x.d.toNat) / 2 ^ 192 = x.d.toNat by omega]
    simp
  rw [if_neg h192]
  by_cases h128 : 128#64 ≤ n
  · rw [if_pos h128]
    have hl := lessW_toNat n 128#64 h128
    rw [BitVec.le_def] at h128 h192
    simp only [BitVec.toNat_ofNat] at hl h128 h192
    have hm : (lessW n 128#64).toNat < 64 := by omega
    have hn : 2 ^ n.toNat = 2 ^ 128 * 2 ^ (lessW n 128#64).toNat := by rw [← Nat.pow_add]; congr 1; omega
    have h := rsh_core x.c.toNat x.d.toNat 0 0 _ hm
    unfold N4.toNat
    simp only [shr_or _ _ _ hm, shrW_toNat]
    rw [hn, ← Nat.div_div_eq_div_mul, show (x.a.toNat + 2 ^ 64 * x.b.toNat + 2 ^ 128 * x.c.toNat + 2 ^ 192 * x.d.toNat) / 2 ^ 128 = x.c.toNat + 2 ^ 64 * x.d.toNat + 2 ^ 128 * 0 + 2 ^ 192 * 0 by omega, h]
    simp
  rw [if_neg h128]
  by_cases h64 : 64#64 ≤ n
  · rw [if_pos h64]
    have hl := lessW_toNat n 64#64 h64
    rw [BitVec.le_def] at h64 h128
    simp only [BitVec.toNat_ofNat] at hl h64 h128
    have hm : (lessW n 64#64).toNat < 64 := by omega
    have hn : 2 ^ n.toNat = 2 ^ 64 * 2 ^ (lessW n 64#64).toNat := by rw [← Nat.pow_add]; congr 1; omega
    have h := rsh_core x.b.toNat x.c.toNat x.d.toNat 0 _ hm
    unfold N4.toNat
    simp only [shr_or _ _ _ hm, shrW_toNat]
    rw [hn, ← Nat.div_div_eq_div_mul, show (x.a.toNat + 2 ^ 64 * x.b.toNat + 2 ^ 128 * x.c.toNat + 2 ^ 192 * x.d.toNat) / 2 ^ 64 = x.b.toNat + 2 ^ 64 * x.c.toNat + 2 ^ 128 * x.d.toNat + 2 ^ 192 * 0 by omega, h]
    simp
  rw [if_neg h64]
  rw [BitVec.le_def] at h64
  simp only [BitVec.toNat_ofNat] at h64
  have hm : n.toNat < 64 := by omega
  unfold N4.toNat
  simp only [shr_or _ _ _ hm, shrW_toNat]
  exact (rsh_core _ _ _ _ _ hm).symm
/-! ### the arithmetic shift -/
theorem shrW_bit (x n : W64) (i : Nat) : (shrW x n).getLsbD i = x.getLsbD (n.toNat + i) := by
  unfold shrW; rw [BitVec.ushiftRight_eq', BitVec.getLsbD_ushiftRight]
theorem shlW_bit (x n : W64) (i : Nat) : (shlW x n).getLsbD i = (decide (i < 64) && !decide (i < n.toNat) && x.getLsbD (i - n.toNat)) := by
  unfold shlW; rw [BitVec.shiftLeft_eq', BitVec.getLsbD_shiftLeft]
theorem not_mid (a b n : W64) (h : n.toNat < 64) : ~~~(shrW (~~~a) n ||| shlW (~~~b) (restW n)) = shrW a n ||| shlW b (restW n) := by
  apply BitVec.eq_of_getLsbD_eq
  intro i hi
  simp only [BitVec.getLsbD_not, BitVec.getLsbD_or, shrW_bit, shlW_bit, restW_toNat n (by omega), hi, decide_true, Bool.true_and]
  by_cases c : i < 64 - n.toNat
  · have h1 : n.toNat + i < 64 := by omega
    simp [c, h1]
  · have h1 : ¬ n.toNat + i < 64 := by omega
    have h2 : i - (64 - n.toNat) < 64 := by omega
    have h3 : a.getLsbD (n.toNat + i) = false := BitVec.getLsbD_of_ge _ _ (by omega)
    simp [c, h1, h2, h3]
theorem not_top (a n m : W64) (h : n.toNat < 64) (hm : (m % 64#64).toNat = n.toNat) : ~~~(shrW (~~~a) n) = shrW a n ||| onesW m := by
  apply BitVec.eq_of_getLsbD_eq
  intro i hi
  have hr : (restW (m % 64#64)).toNat = 64 - n.toNat := by rw [restW_toNat _ (by omega), hm]
  unfold onesW
  simp only [BitVec.getLsbD_not, BitVec.getLsbD_or, shrW_bit, shlW_bit, hr, hi, decide_true, Bool.true_and]
  have hmax : ∀ j, j < 64 → (18446744073709551615#64 : W64).getLsbD j = true := by
    intro j hj
    rw [show (18446744073709551615#64 : W64) = BitVec.allOnes 64 by decide, BitVec.getLsbD_allOnes]
    exact decide_eq_true hj
  by_cases c : i < 64 - n.toNat
  · have h1 : n.toNat + i < 64 := by omega
    simp [c, h1]
  · have h1 : ¬ n.toNat + i < 64 := by omega
    have h3 : a.getLsbD (n.toNat + i) = false := BitVec.getLsbD_of_ge _ _ (by omega)
    rw [hmax _ (by omega)]
    simp [c, h1]
theorem not_zero : ~~~(0#64 : W64) = 18446744073709551615#64 := by decide
theorem mod64_toNat (n : W64) : (n % 64#64).toNat = n.toNat % 64 := by rw [BitVec.toNat_umod]; rfl
theorem srsh_is (x : N4) (n : W64) : x.srsh n = (x.not.rsh n).not := by
  unfold N4.srsh N4.rsh
  by_cases h0 : n = 0#64
  · rw [if_pos h0, if_pos h0]
    unfold N4.not
    simp
  rw [if_neg h0, if_neg h0]
  by_cases h256 : 256#64 ≤ n
  · have h192 : 192#64 ≤ n := by rw [BitVec.le_def] at *; simp only [BitVec.toNat_ofNat] at *; omega
    rw [if_pos h256, if_pos h192]
    have hl := lessW_toNat n 192#64 h192
    rw [BitVec.le_def] at h256
    simp only [BitVec.toNat_ofNat] at hl h256
    have hz : ∀ a, shrW a (lessW n 192#64) = 0#64 := by
      intro a
      apply BitVec.eq_of_toNat_eq
      rw [shrW_toNat, Nat.div_eq_of_lt (Nat.lt_of_lt_of_le a.isLt (Nat.pow_le_pow_right (by decide) (by omega)))]
      rfl
    unfold N4.not
    simp only [hz, not_zero]
  rw [if_neg h256]
  rw [BitVec.le_def] at h256
  simp only [BitVec.toNat_ofNat] at h256
  by_cases h192 : 192#64 ≤ n
  · rw [if_pos h192, if_pos h192]
    have hl := lessW_toNat n 192#64 h192
    rw [BitVec.le_def] at h192
    simp only [BitVec.toNat_ofNat] at hl h192
    unfold N4.not
    simp only [not_zero]
    rw [not_top x.d (lessW n 192#64) n (by omega) (by rw [mod64_toNat]; omega)]
  rw [if_neg h192, if_neg h192]
  by_cases h128 : 128#64 ≤ n
  · rw [if_pos h128, if_pos h128]
    have hl := lessW_toNat n 128#64 h128
    rw [BitVec.le_def] at h128 h192
    simp only [BitVec.toNat_ofNat] at hl h128 h192
    unfold N4.not
    simp only [not_zero]
    rw [not_mid x.c x.d (lessW n 128#64) (by omega), not_top x.d (lessW n 128#64) n (by omega) (by rw [mod64_toNat]; omega)]
  rw [if_neg h128, if_neg h128]
  by_cases h64 : 64#64 ≤ n
  · rw [if_pos h64, if_pos h64]
    have hl := lessW_toNat n 64#64 h64
    rw [BitVec.le_def] at h128 h64
    simp only [BitVec.toNat_ofNat] at hl h128 h64
    unfold N4.not
    simp only [not_zero]
    rw [not_mid x.b x.c (lessW n 64#64) (by omega), not_mid x.c x.d (lessW n 64#64) (by omega), not_top x.d (lessW n 64#64) n (by omega) (by rw [mod64_toNat]; omega)]
  rw [if_neg h64, if_neg h64]
  rw [BitVec.le_def] at h64
  simp only [BitVec.toNat_ofNat] at h64
  unfold N4.not
  simp only
  rw [not_mid x.a x.b n (by omega), not_mid x.b x.c n (by omega), not_mid x.c x.d n (by omega), not_top x.d n n (by omega) (by rw [mod64_toNat]; omega)]
/-- What SRsh gives. -/
def N4.sar (x : N4) (n : W64) : N4 := if x.top then x.srsh n else x.rsh n
theorem top_neg (x : N4) : x.top = x.neg := rfl
end Go.Proofs.YtfaocjcpnjmfiaaGreatDoor
