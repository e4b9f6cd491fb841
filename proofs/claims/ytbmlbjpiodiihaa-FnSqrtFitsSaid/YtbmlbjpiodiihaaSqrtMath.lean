/-
  The root of a natural number, and Newton's step towards it. Plain Lean, no program in sight.
-/
namespace Go.Proofs.Ytbmlbjpiodiihaa

/-- The greatest number whose square is not greater. -/
def rootN : Nat → Nat
  | 0 => 0
  | n + 1 => if (rootN n + 1) * (rootN n + 1) ≤ n + 1 then rootN n + 1 else rootN n
theorem rootN_spec (n : Nat) : rootN n * rootN n ≤ n ∧ n < (rootN n + 1) * (rootN n + 1) := by
  induction n with
  | zero => exact ⟨Nat.le_refl _, by decide⟩
  | succ n ih =>
    unfold rootN
    by_cases h : (rootN n + 1) * (rootN n + 1) ≤ n + 1
    · rw [if_pos h]
      refine ⟨h, ?_⟩
      have e : (rootN n + 1 + 1) * (rootN n + 1 + 1) = (rootN n + 1) * (rootN n + 1) + 2 * rootN n + 3 := by grind
      omega
    · rw [if_neg h]
      omega
theorem sq_mono {a b : Nat} (h : a ≤ b) : a * a ≤ b * b := Nat.mul_le_mul h h
theorem rootN_unique {n r : Nat} (h1 : r * r ≤ n) (h2 : n < (r + 1) * (r + 1)) : r = rootN n := by
  obtain ⟨k1, k2⟩ := rootN_spec n
  rcases Nat.lt_trichotomy r (rootN n) with h | h | h
  · have := sq_mono (show r + 1 ≤ rootN n by omega)
    omega
  · exact h
  · have := sq_mono (show rootN n + 1 ≤ r by omega)
    omega
/-- Newton's step stays above. -/
theorem newton_above {x z : Nat} (hz : 0 < z) : rootN x ≤ (z + x / z) / 2 := by
  obtain ⟨k1, k2⟩ := rootN_spec x
  have hd := Nat.lt_mul_div_succ x hz
  generalize rootN x = r at *
  generalize x / z = q at *
  rcases Nat.lt_or_ge (z + q) (2 * r) with h | h
  · exfalso
    have e : z * (q + 1) ≤ z * (2 * r - z) := Nat.mul_le_mul_left _ (by omega)
    have e2 : z * (2 * r - z) ≤ r * r := by
      rcases Nat.le_total z r with hz | hz
      · obtain ⟨d, rfl⟩ : ∃ d, r = z + d := ⟨r - z, by omega⟩
        have e3 : 2 * (z + d) - z = z + 2 * d := by omega
        rw [e3]
        have e4 : (z + d) * (z + d) = z * (z + 2 * d) + d * d := by grind
        omega
      · rcases Nat.le_total z (2 * r) with hz2 | hz2
        · obtain ⟨d, hd⟩ : ∃ d, z = r + d := ⟨z - r, by omega⟩
          obtain ⟨f, hf⟩ : ∃ f, r = d + f := ⟨r - d, by omega⟩
          have e3 : 2 * r - z = f := by omega
          rw [e3, hd, hf]
          have e4 : (d + f) * (d + f) = (d + f + d) * f + d * d := by grind
          omega
        · rw [show 2 * r - z = 0 by omega]; omega
    omega
  · omega
/-- Where the step does not go down, the root is reached. -/
theorem newton_end {x z : Nat} (h1 : rootN x ≤ z) (h2 : z ≤ (z + x / z) / 2) : z = rootN x := by
  have hm := Nat.div_mul_le_self x z
  have hq : z ≤ x / z := by omega
  have h3 : z * z ≤ x := Nat.le_trans (Nat.mul_le_mul_right z hq) hm
  have := rootN_spec x
  rcases Nat.lt_or_ge (rootN x) z with h | h
  · have := sq_mono (show rootN x + 1 ≤ z by omega)
    omega
  · omega
/-- How large the quotient can be. -/
theorem newton_quo {x z : Nat} (h0 : 0 < rootN x) (h1 : rootN x ≤ z) : x / z ≤ rootN x + 2 := by
  obtain ⟨k1, k2⟩ := rootN_spec x
  have hm := Nat.div_mul_le_self x z
  generalize rootN x = r at *
  generalize x / z = q at *
  rcases Nat.lt_or_ge (r + 2) q with h | h
  · exfalso
    have e1 : (r + 3) * r ≤ q * z := Nat.mul_le_mul h h1
    have e2 : (r + 1) * (r + 1) = r * r + 2 * r + 1 := by grind
    have e3 : (r + 3) * r = r * r + 3 * r := by grind
    omega
  · exact h
theorem rootN_le_of {x z : Nat} (h : x < (z + 1) * (z + 1)) : rootN x ≤ z := by
  have := rootN_spec x
  rcases Nat.lt_or_ge z (rootN x) with h1 | h1
  · have := sq_mono (show z + 1 ≤ rootN x by omega)
    omega
  · exact h1
theorem rootN_pos {x : Nat} (h : 0 < x) : 0 < rootN x := by
  have := rootN_spec x
  rcases Nat.eq_zero_or_pos (rootN x) with h1 | h1
  · rw [h1] at this; omega
  · exact h1
/-- The first estimate: a power of two. -/
theorem first_above {x k : Nat} (h : x < 2 ^ k) : rootN x ≤ 2 ^ ((k + 1) / 2) := by
  apply rootN_le_of
  have e : 2 ^ k ≤ 2 ^ ((k + 1) / 2) * 2 ^ ((k + 1) / 2) := by rw [← Nat.pow_add]; exact Nat.pow_le_pow_right (by decide) (by omega)
  have := sq_mono (show 2 ^ ((k + 1) / 2) ≤ 2 ^ ((k + 1) / 2) + 1 by omega)
  omega
/-- The reference's way: bit by bit. -/
theorem root_bit {x o n : Nat} (h1 : o * o ≤ x) (h2 : x < (o + 2 ^ (n + 1)) * (o + 2 ^ (n + 1))) :
    let o' := if (o + 2 ^ n) * (o + 2 ^ n) ≤ x then o + 2 ^ n else o
    o' * o' ≤ x ∧ x < (o' + 2 ^ n) * (o' + 2 ^ n) := by
  intro o'
  by_cases h : (o + 2 ^ n) * (o + 2 ^ n) ≤ x
  · have e : o' = o + 2 ^ n := if_pos h
    rw [e]
    refine ⟨h, ?_⟩
    have e2 : o + 2 ^ n + 2 ^ n = o + 2 ^ (n + 1) := by rw [Nat.pow_succ]; omega
    rw [e2]
    exact h2
  · have e : o' = o := if_neg h
    rw [e]
    exact ⟨h1, by omega⟩
end Go.Proofs.Ytbmlbjpiodiihaa
