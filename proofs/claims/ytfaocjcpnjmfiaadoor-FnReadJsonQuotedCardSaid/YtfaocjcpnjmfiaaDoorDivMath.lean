/-
  Plain laws on natural numbers for the division of long numbers: the reciprocal of a word, a quotient of two words by one, Knuth's digit. No program in sight.
-/
import Derived.Test.YtfaocjcpnjmfiaaDoorBase
namespace Go.Proofs.YtfaocjcpnjmfiaaDoor
set_option linter.unusedVariables false
/-! ### two words by one, by the reciprocal (Moeller and Granlund) -/
/-- The true remainder's place: t is u less (q1 + 1) times d. -/
theorem mg_core (d v u1 u0 q1 q0 : Int) (t k : Int) (hd : 18446744073709551616 ≤ 2 * d) (hd2 : d < 18446744073709551616) (hk : k = 340282366920938463463374607431768211456 - (18446744073709551616 + v) * d) (hk1 : 1 ≤ k) (hk2 : k ≤ d)
    (h1 : 0 ≤ u1) (h1' : u1 < d) (h0 : 0 ≤ u0) (h0' : u0 < 18446744073709551616) (hq : q1 * 18446744073709551616 + q0 = (18446744073709551616 + v) * u1 + u0) (hq0 : 0 ≤ q0) (hq0' : q0 < 18446744073709551616)
    (ht : t = u1 * 18446744073709551616 + u0 - (q1 + 1) * d) : (t < 18446744073709551616 - d ∨ t < q0) ∧ q0 < t + 18446744073709551616 ∧ -d ≤ t ∧ t < 18446744073709551616 := by
  have e : 18446744073709551616 * t = u1 * k + u0 * (18446744073709551616 - d) + q0 * d - 18446744073709551616 * d := by
    have e1 : q0 = (18446744073709551616 + v) * u1 + u0 - q1 * 18446744073709551616 := by omega
    rw [ht, hk, e1]; grind
  have a1 : u1 * k ≤ (d - 1) * d := Int.mul_le_mul (by omega) hk2 (by omega) (by omega)
  have a0 : 0 ≤ u1 * k := Int.mul_nonneg h1 (by omega)
  have b1 : u0 * (18446744073709551616 - d) ≤ 18446744073709551615 * (18446744073709551616 - d) := Int.mul_le_mul_of_nonneg_right (by omega) (by omega)
  have b0 : 0 ≤ u0 * (18446744073709551616 - d) := Int.mul_nonneg h0 (by omega)
  have c1 : q0 * d ≤ 18446744073709551615 * d := Int.mul_le_mul_of_nonneg_right (by omega) (by omega)
  have c0 : 0 ≤ q0 * d := Int.mul_nonneg hq0 (by omega)
  have e2 : (d - 1) * d = d * d - d := by grind
  have dd0 : d * d ≤ 18446744073709551615 * d := Int.mul_le_mul_of_nonneg_right (by omega) (by omega)
  refine ⟨?_, ?_, ?_, ?_⟩
  · by_cases hA : t < 18446744073709551616 - d
    · exact .inl hA
    · by_cases hB : t < q0
      · exact .inr hB
      · exfalso
        have x1 : 0 ≤ (t - (18446744073709551616 - d)) * (18446744073709551616 - d) := Int.mul_nonneg (by omega) (by omega)
        have x2 : 0 ≤ (t - q0) * d := Int.mul_nonneg (by omega) (by omega)
        have y1 : (t - (18446744073709551616 - d)) * (18446744073709551616 - d) = 18446744073709551616 * t - t * d - 340282366920938463463374607431768211456 + 36893488147419103232 * d - d * d := by grind
        have y2 : (t - q0) * d = t * d - q0 * d := by grind
        rw [y1] at x1
        rw [y2] at x2
        rw [e2] at a1
        generalize t * d = td at *
        generalize d * d = dd at *
        generalize q0 * d = qd at *
        generalize u1 * k = uk at *
        generalize u0 * (18446744073709551616 - d) = ud at *
        omega
  · have x1 : 0 ≤ (18446744073709551616 - q0 - 1) * (18446744073709551616 - d) := Int.mul_nonneg (by omega) (by omega)
    have y1 : (18446744073709551616 - q0 - 1) * (18446744073709551616 - d) = 340282366920938463463374607431768211456 - 18446744073709551616 * d - 18446744073709551616 * q0 + q0 * d - 18446744073709551616 + d := by grind
    rw [y1] at x1
    generalize q0 * d = qd at *
    generalize u1 * k = uk at *
    generalize u0 * (18446744073709551616 - d) = ud at *
    omega
  · generalize q0 * d = qd at *
    generalize u1 * k = uk at *
    generalize u0 * (18446744073709551616 - d) = ud at *
    omega
  · rw [e2] at a1
    generalize d * d = dd at *
    generalize q0 * d = qd at *
    generalize u1 * k = uk at *
    generalize u0 * (18446744073709551616 - d) = ud at *
    omega
/-- The reciprocal's bounds. -/
theorem recip_bounds (d v : Nat) (hd : 18446744073709551616 ≤ 2 * d) (hd2 : d < 18446744073709551616) (hv : v = (340282366920938463463374607431768211455 - 18446744073709551616 * d) / d) :
    v < 18446744073709551616 ∧ (18446744073709551616 + v) * d < 340282366920938463463374607431768211456 ∧ 340282366920938463463374607431768211456 ≤ (18446744073709551616 + v) * d + d := by
  have hpos : 0 < d := by omega
  have h1 := Nat.div_add_mod (340282366920938463463374607431768211455 - 18446744073709551616 * d) d
  have h2 := Nat.mod_lt (340282366920938463463374607431768211455 - 18446744073709551616 * d) hpos
  rw [← hv] at h1
  have e : (18446744073709551616 + v) * d = 18446744073709551616 * d + d * v := by grind
  rw [e]
  have hlt : v < 18446744073709551616 := by
    rcases Nat.lt_or_ge v 18446744073709551616 with h | h
    · exact h
    · have := Nat.mul_le_mul_left d h
      generalize d * v = p at *
      omega
  generalize (340282366920938463463374607431768211455 - 18446744073709551616 * d) % d = r at *
  generalize d * v = p at *
  omega
/-- What the code of udivrem2by1 computes, on natural numbers: q and r after each of its ways. -/
theorem mg_nat (d v u1 u0 q1 q0 r Q R : Nat) (hd : 18446744073709551616 ≤ 2 * d) (hd2 : d < 18446744073709551616) (hv : v = (340282366920938463463374607431768211455 - 18446744073709551616 * d) / d)
    (h1 : u1 < d) (h0 : u0 < 18446744073709551616) (hq : q1 * 18446744073709551616 + q0 = (18446744073709551616 + v) * u1 + u0) (hq0 : q0 < 18446744073709551616)
    (hr : r < 18446744073709551616) (hrm : ((r : Int) - ((u0 : Int) - ((q1 : Int) + 1) * (d : Int))) % 18446744073709551616 = 0)
    (hQ : Q = (u1 * 18446744073709551616 + u0) / d) (hR : R = (u1 * 18446744073709551616 + u0) % d) :
    Q < 18446744073709551616 ∧
    (q0 < r → d ≤ (r + d) % 18446744073709551616 → Q = q1 + 1 ∧ R = (r + d) % 18446744073709551616 - d) ∧
    (q0 < r → ¬ d ≤ (r + d) % 18446744073709551616 → Q = q1 ∧ R = (r + d) % 18446744073709551616) ∧
    (¬ q0 < r → d ≤ r → Q = q1 + 2 ∧ R = r - d) ∧
    (¬ q0 < r → ¬ d ≤ r → Q = q1 + 1 ∧ R = r) := by
  obtain ⟨b1, b2, b3⟩ := recip_bounds d v hd hd2 hv
  have hpos : 0 < d := by omega
  obtain ⟨t, ht⟩ : ∃ t : Int, t = (u1 : Int) * 18446744073709551616 + (u0 : Int) - ((q1 : Int) + 1) * (d : Int) := ⟨_, rfl⟩
  have hvd : (((18446744073709551616 + v) * d : Nat) : Int) = (18446744073709551616 + (v : Int)) * (d : Int) := by simp
  have core := mg_core d v u1 u0 q1 q0 t (340282366920938463463374607431768211456 - (18446744073709551616 + (v : Int)) * (d : Int)) (by omega) (by omega) rfl (by rw [← hvd]; omega) (by rw [← hvd]; omega) (by omega) (by omega) (by omega) (by omega)
    (by have : ((q1 * 18446744073709551616 + q0 : Nat) : Int) = (((18446744073709551616 + v) * u1 + u0 : Nat) : Int) := by rw [hq]
        simpa using this) (by omega) (by omega) ht
  obtain ⟨c1, c2, c3, c4⟩ := core
  have hrt : (r : Int) = if 0 ≤ t then t else t + 18446744073709551616 := by
    have e : ((r : Int) - t) % 18446744073709551616 = 0 := by
      have : (r : Int) - t = (r : Int) - ((u0 : Int) - ((q1 : Int) + 1) * (d : Int)) - (u1 : Int) * 18446744073709551616 := by rw [ht]; omega
      rw [this]; omega
    split <;> omega
  have hN : ((u1 * 18446744073709551616 + u0 : Nat) : Int) = ((q1 : Int) + 1) * (d : Int) + t := by rw [ht]; simp; omega
  have key : ∀ (q' r' : Nat), r' < d → ((u1 * 18446744073709551616 + u0 : Nat) : Int) = (q' : Int) * (d : Int) + (r' : Int) → Q = q' ∧ R = r' := by
    intro q' r' hr' he
    have he' : u1 * 18446744073709551616 + u0 = d * q' + r' := by
      have h1 : (((u1 * 18446744073709551616 + u0 : Nat)) : Int) = ((d * q' + r' : Nat) : Int) := by rw [he]; simp [Int.mul_comm]
      exact Int.ofNat.inj h1
    rw [hQ, hR, he']
    exact ⟨by rw [Nat.mul_add_div hpos, Nat.div_eq_of_lt hr', Nat.add_zero], by rw [Nat.mul_add_mod, Nat.mod_eq_of_lt hr']⟩
  have e1 : ((q1 : Int) + 1) * (d : Int) = (q1 : Int) * (d : Int) + (d : Int) := by grind
  have e2 : ((q1 + 2 : Nat) : Int) * (d : Int) = (q1 : Int) * (d : Int) + 2 * (d : Int) := by
    have : ((q1 + 2 : Nat) : Int) = (q1 : Int) + 2 := by simp
    rw [this]; grind
  have e3 : ((q1 + 1 : Nat) : Int) * (d : Int) = (q1 : Int) * (d : Int) + (d : Int) := by
    have : ((q1 + 1 : Nat) : Int) = (q1 : Int) + 1 := by simp
    rw [this]; grind
  rw [e1] at hN
  refine ⟨?_, ?_, ?_, ?_, ?_⟩
  · rw [hQ]
    apply Nat.div_lt_of_lt_mul
    have : u1 * 18446744073709551616 + u0 < (u1 + 1) * 18446744073709551616 := by omega
    have h3 : (u1 + 1) * 18446744073709551616 ≤ d * 18446744073709551616 := Nat.mul_le_mul_right _ h1
    exact Nat.lt_of_lt_of_le this h3
  · intro hA hB
    refine key _ _ (by split at hrt <;> omega) ?_
    rw [e3]
    split at hrt <;> omega
  · intro hA hB
    refine key _ _ (by omega) ?_
    split at hrt <;> omega
  · intro hA hB
    refine key _ _ (by split at hrt <;> omega) ?_
    rw [e2]
    split at hrt <;> omega
  · intro hA hB
    refine key _ _ (by omega) ?_
    rw [e3]
    split at hrt <;> omega
/-! ### a word's quotient by halves (math/bits.Div64 at a divisor whose highest bit is set) -/
/-- One digit of 32 bits: where q is no less than the true one, u = q * y1 + rh; the loop's test tells whether q is too great. -/
theorem half_test (y1 y0 u n q rh : Nat) (hu : u = q * y1 + rh) : (4294967296 * rh + n < q * y0 ↔ u * 4294967296 + n < q * (y1 * 4294967296 + y0)) := by
  have e : q * (y1 * 4294967296 + y0) = q * y1 * 4294967296 + q * y0 := by grind
  rw [e, hu]
  generalize q * y1 = a
  generalize q * y0 = b
  omega
theorem half_digit (y1 y0 u n q rh : Nat) (hy : 0 < y1) (hu : u = q * y1 + rh) (hge : (u * 4294967296 + n) / (y1 * 4294967296 + y0) ≤ q) (hle : ¬ 4294967296 * rh + n < q * y0) : q = (u * 4294967296 + n) / (y1 * 4294967296 + y0) := by
  rw [half_test y1 y0 u n q rh hu] at hle
  have : q ≤ (u * 4294967296 + n) / (y1 * 4294967296 + y0) := (Nat.le_div_iff_mul_le (by omega)).2 (by omega)
  omega
theorem half_less (y1 y0 u n q rh : Nat) (hy : 0 < y1) (hu : u = q * y1 + rh) (hgt : 4294967296 * rh + n < q * y0) : (u * 4294967296 + n) / (y1 * 4294967296 + y0) < q := by
  rw [half_test y1 y0 u n q rh hu] at hgt
  exact (Nat.div_lt_iff_lt_mul (by omega)).2 hgt
theorem half_start (y1 y0 u n : Nat) (hy : 0 < y1) (hn : n < 4294967296) (h0 : y0 < 4294967296) : (u * 4294967296 + n) / (y1 * 4294967296 + y0) ≤ u / y1 := by
  apply Nat.le_of_lt_succ
  refine (Nat.div_lt_iff_lt_mul (by omega)).2 ?_
  have h1 := Nat.div_add_mod u y1
  have h2 := Nat.mod_lt u hy
  have e : (u / y1).succ * (y1 * 4294967296 + y0) = (y1 * (u / y1)) * 4294967296 + (u / y1) * y0 + y1 * 4294967296 + y0 := by rw [Nat.succ_eq_add_one]; grind
  rw [e]
  generalize y1 * (u / y1) = a at *
  generalize u / y1 * y0 = b at *
  omega
/-! ### Knuth's digit -/
/-- D's highest word is dh, then dl; the dividend's highest words are u2, u1, u0. -/
theorem knuth_low (P dh dl dr u2 u1 u0 ur q : Nat) (hdr : dr < P) (hur : ur < P) (hq : q * ((dh * 18446744073709551616 + dl) * P + dr) ≤ ((u2 * 18446744073709551616 + u1) * 18446744073709551616 + u0) * P + ur) :
    q * (dh * 18446744073709551616 + dl) ≤ (u2 * 18446744073709551616 + u1) * 18446744073709551616 + u0 := by
  have h1 : q * (dh * 18446744073709551616 + dl) * P ≤ q * ((dh * 18446744073709551616 + dl) * P + dr) := by rw [Nat.mul_assoc]; exact Nat.mul_le_mul_left _ (Nat.le_add_right _ _)
  have h2 : q * (dh * 18446744073709551616 + dl) * P < ((u2 * 18446744073709551616 + u1) * 18446744073709551616 + u0 + 1) * P := by
    have : ((u2 * 18446744073709551616 + u1) * 18446744073709551616 + u0 + 1) * P = ((u2 * 18446744073709551616 + u1) * 18446744073709551616 + u0) * P + P := by rw [Nat.add_mul, Nat.one_mul]
    omega
  have := Nat.lt_of_mul_lt_mul_right h2
  omega
theorem knuth_low1 (dh dl u2 u1 u0 q : Nat) (hu0 : u0 < 18446744073709551616) (hq : q * (dh * 18446744073709551616 + dl) ≤ (u2 * 18446744073709551616 + u1) * 18446744073709551616 + u0) : q * dh ≤ u2 * 18446744073709551616 + u1 := by
  have e : q * (dh * 18446744073709551616 + dl) = q * dh * 18446744073709551616 + q * dl := by grind
  rw [e] at hq
  generalize q * dh = a at *
  generalize q * dl = b at *
  omega
/-- The corrected digit is the true one, or one more. -/
theorem knuth_digit (P dh dl dr u2 u1 u0 ur qe re q : Nat) (hP : 0 < P) (hdr : dr < P) (hur : ur < P) (hh : 18446744073709551616 ≤ 2 * dh) (hdh : dh < 18446744073709551616) (hdl : dl < 18446744073709551616) (hu1 : u1 < 18446744073709551616) (hu0 : u0 < 18446744073709551616)
    (hU : ((u2 * 18446744073709551616 + u1) * 18446744073709551616 + u0) * P + ur < ((dh * 18446744073709551616 + dl) * P + dr) * 18446744073709551616)
    (hlt : u2 < dh) (hqe : qe = (u2 * 18446744073709551616 + u1) / dh) (hre : re = (u2 * 18446744073709551616 + u1) % dh)
    (hq : q = (((u2 * 18446744073709551616 + u1) * 18446744073709551616 + u0) * P + ur) / ((dh * 18446744073709551616 + dl) * P + dr)) :
    (re * 18446744073709551616 + u0 < qe * dl → q ≤ qe - 1 ∧ qe - 1 ≤ q + 1 ∧ 1 ≤ qe) ∧ (¬ re * 18446744073709551616 + u0 < qe * dl → q ≤ qe ∧ qe ≤ q + 1) := by
  obtain ⟨D, hD⟩ : ∃ D, D = (dh * 18446744073709551616 + dl) * P + dr := ⟨_, rfl⟩
  obtain ⟨U, hUU⟩ : ∃ U, U = ((u2 * 18446744073709551616 + u1) * 18446744073709551616 + u0) * P + ur := ⟨_, rfl⟩
  rw [← hD, ← hUU] at hq hU
  have hdpos : 0 < dh := by omega
  have hDpos : 0 < D := by
    have : 0 < (dh * 18446744073709551616 + dl) * P := Nat.mul_pos (by omega) hP
    omega
  have hqD : q * D ≤ U := by rw [hq]; exact Nat.div_mul_le_self _ _
  have l0 := knuth_low P dh dl dr u2 u1 u0 ur q hdr hur (by rw [← hD, ← hUU]; exact hqD)
  have l1 := knuth_low1 dh dl u2 u1 u0 q hu0 l0
  have hdm := Nat.div_add_mod (u2 * 18446744073709551616 + u1) dh
  rw [← hqe, ← hre] at hdm
  have hml : re < dh := by rw [hre]; exact Nat.mod_lt _ hdpos
  have hqeB : qe < 18446744073709551616 := by
    rw [hqe]
    refine (Nat.div_lt_iff_lt_mul hdpos).2 ?_
    have : (u2 + 1) * 18446744073709551616 ≤ dh * 18446744073709551616 := Nat.mul_le_mul_right _ hlt
    omega
  -- what is below the dividend is below the quotient
  have up : ∀ k, k * D ≤ U → k ≤ q := fun k hk => by rw [hq]; exact (Nat.le_div_iff_mul_le hDpos).2 hk
  have hD1 : D ≤ (dh + 1) * 18446744073709551616 * P := by
    have h1 : (dh * 18446744073709551616 + dl + 1) * P ≤ ((dh + 1) * 18446744073709551616) * P := Nat.mul_le_mul_right _ (by omega)
    have h2 : (dh * 18446744073709551616 + dl + 1) * P = (dh * 18446744073709551616 + dl) * P + P := by rw [Nat.add_mul, Nat.one_mul]
    omega
  have hD2 : D ≤ (dh * 18446744073709551616 + dl + 1) * P := by
    have h2 : (dh * 18446744073709551616 + dl + 1) * P = (dh * 18446744073709551616 + dl) * P + P := by rw [Nat.add_mul, Nat.one_mul]
    omega
  refine ⟨fun ht => ?_, fun ht => ?_⟩
  · have hqlt : q < qe := by
      rcases Nat.lt_or_ge q qe with h | h
      · exact h
      · exfalso
        have h1 : qe * (dh * 18446744073709551616 + dl) ≤ q * (dh * 18446744073709551616 + dl) := Nat.mul_le_mul_right _ h
        have h2 : qe * (dh * 18446744073709551616 + dl) = dh * qe * 18446744073709551616 + qe * dl := by grind
        rw [h2] at h1
        generalize dh * qe = a at *
        generalize qe * dl = b at *
        generalize q * (dh * 18446744073709551616 + dl) = c at *
        omega
    refine ⟨by omega, ?_, by omega⟩
    by_cases h2 : qe ≤ 2
    · omega
    · have := up (qe - 2) ?_
      · omega
      · obtain ⟨m, rfl⟩ : ∃ m, qe = m + 2 := ⟨qe - 2, by omega⟩
        rw [Nat.add_sub_cancel]
        have h3 : m * D ≤ m * ((dh + 1) * 18446744073709551616 * P) := Nat.mul_le_mul_left _ hD1
        have h4 : m * ((dh + 1) * 18446744073709551616 * P) = (m * (dh + 1)) * 18446744073709551616 * P := by grind
        have h5 : m * (dh + 1) ≤ u2 * 18446744073709551616 + u1 := by
          have e1 : m * (dh + 1) = m * dh + m := by grind
          have e2 : dh * (m + 2) = m * dh + 2 * dh := by grind
          rw [e2] at hdm
          rw [e1]
          generalize m * dh = a at *
          omega
        have h6 : (m * (dh + 1)) * 18446744073709551616 * P ≤ (u2 * 18446744073709551616 + u1) * 18446744073709551616 * P := Nat.mul_le_mul_right _ (Nat.mul_le_mul_right _ h5)
        have h7 : (u2 * 18446744073709551616 + u1) * 18446744073709551616 * P ≤ ((u2 * 18446744073709551616 + u1) * 18446744073709551616 + u0) * P := Nat.mul_le_mul_right _ (Nat.le_add_right _ _)
        omega
  · refine ⟨?_, ?_⟩
    · rw [hqe]; exact (Nat.le_div_iff_mul_le hdpos).2 l1
    · by_cases h2 : qe = 0
      · omega
      · have := up (qe - 1) ?_
        · omega
        · obtain ⟨m, rfl⟩ : ∃ m, qe = m + 1 := ⟨qe - 1, by omega⟩
          rw [Nat.add_sub_cancel]
          have h3 : m * D ≤ m * ((dh * 18446744073709551616 + dl + 1) * P) := Nat.mul_le_mul_left _ hD2
          have h4 : m * ((dh * 18446744073709551616 + dl + 1) * P) = (m * (dh * 18446744073709551616 + dl + 1)) * P := by grind
          have h5 : m * (dh * 18446744073709551616 + dl + 1) ≤ (u2 * 18446744073709551616 + u1) * 18446744073709551616 + u0 := by
            have e1 : m * (dh * 18446744073709551616 + dl + 1) = m * dh * 18446744073709551616 + m * dl + m := by grind
            have e2 : dh * (m + 1) = m * dh + dh := by grind
            have e3 : (m + 1) * dl = m * dl + dl := by grind
            rw [e2] at hdm
            rw [e3] at ht
            rw [e1]
            generalize m * dh = a at *
            generalize m * dl = b at *
            omega
          have h6 := Nat.mul_le_mul_right P h5
          omega
/-- Where the highest word is the divisor's, the greatest word is the true digit, or one more. -/
theorem knuth_top (P dh dl dr u2 u1 u0 ur q : Nat) (hP : 0 < P) (hdr : dr < P) (hh : 18446744073709551616 ≤ 2 * dh) (hdh : dh < 18446744073709551616) (hdl : dl < 18446744073709551616)
    (hU : ((u2 * 18446744073709551616 + u1) * 18446744073709551616 + u0) * P + ur < ((dh * 18446744073709551616 + dl) * P + dr) * 18446744073709551616)
    (hge : dh ≤ u2)
    (hq : q = (((u2 * 18446744073709551616 + u1) * 18446744073709551616 + u0) * P + ur) / ((dh * 18446744073709551616 + dl) * P + dr)) :
    q ≤ 18446744073709551615 ∧ 18446744073709551615 ≤ q + 1 := by
  obtain ⟨D, hD⟩ : ∃ D, D = (dh * 18446744073709551616 + dl) * P + dr := ⟨_, rfl⟩
  obtain ⟨U, hUU⟩ : ∃ U, U = ((u2 * 18446744073709551616 + u1) * 18446744073709551616 + u0) * P + ur := ⟨_, rfl⟩
  rw [← hD, ← hUU] at hq hU
  have hDpos : 0 < D := by
    have : 0 < (dh * 18446744073709551616 + dl) * P := Nat.mul_pos (by omega) hP
    omega
  have hD1 : D ≤ (dh + 1) * 18446744073709551616 * P := by
    have h1 : (dh * 18446744073709551616 + dl + 1) * P ≤ ((dh + 1) * 18446744073709551616) * P := Nat.mul_le_mul_right _ (by omega)
    have h2 : (dh * 18446744073709551616 + dl + 1) * P = (dh * 18446744073709551616 + dl) * P + P := by rw [Nat.add_mul, Nat.one_mul]
    omega
  refine ⟨?_, ?_⟩
  · have : q < 18446744073709551616 := by rw [hq]; exact (Nat.div_lt_iff_lt_mul hDpos).2 (by rw [Nat.mul_comm]; exact hU)
    omega
  · have : 18446744073709551614 ≤ q := by
      rw [hq]
      refine (Nat.le_div_iff_mul_le hDpos).2 ?_
      have h3 : 18446744073709551614 * D ≤ 18446744073709551614 * ((dh + 1) * 18446744073709551616 * P) := Nat.mul_le_mul_left _ hD1
      have h4 : 18446744073709551614 * ((dh + 1) * 18446744073709551616 * P) = (18446744073709551614 * (dh + 1)) * 18446744073709551616 * P := by grind
      have h5 : 18446744073709551614 * (dh + 1) ≤ u2 * 18446744073709551616 + u1 := by clear hU hq hD1 hD hUU h3 h4 hDpos; omega
      have h6 : (18446744073709551614 * (dh + 1)) * 18446744073709551616 * P ≤ (u2 * 18446744073709551616 + u1) * 18446744073709551616 * P := Nat.mul_le_mul_right _ (Nat.mul_le_mul_right _ h5)
      have h7 : (u2 * 18446744073709551616 + u1) * 18446744073709551616 * P ≤ ((u2 * 18446744073709551616 + u1) * 18446744073709551616 + u0) * P := Nat.mul_le_mul_right _ (Nat.le_add_right _ _)
      rw [h4] at h3
      rw [hUU]
      exact Nat.le_trans h3 (Nat.le_trans h6 (Nat.le_trans h7 (Nat.le_add_right _ _)))
    omega
end Go.Proofs.YtfaocjcpnjmfiaaDoor
