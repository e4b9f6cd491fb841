/-
  Plain laws on natural numbers for the division of long numbers: the reciprocal of a word, a quotient of two words by one, Knuth's digit. No program in sight.
  Plain laws on rows of words for Knuth's division: a digit's round. No program in sight but the words' definitions.
  Plain laws on rows of words: a row shifted up, so that a divisor's highest bit is set, and a rest shifted down again. No program in sight but the words' definitions.
  Contracts of uint256's zzDiv64 (at a divisor whose highest bit is set), reciprocal2by1 and udivrem2by1.
  The walk of uint256's zzDiv64 at a divisor whose highest bit is set.
  Contracts of uint256's subMulTo and addTo over rows of words.
  Contracts of uint256's udivremBy1 and udivremKnuth over rows of words.
  The contract of uint256's udivrem: a number of some words divided by one of four.
  Contracts of uint256's Div and Mod, whatever places receiver and operands are.
-/
import Derived.Test.YtfaocjcpnjmfiaaDoorBase
import Derived.Test.YtfaocjcpnjmfiaaDoorRow
import Derived.Test.YtfaocjcpnjmfiaaDoorLen
import Derived.Test.YtfaocjcpnjmfiaaDoorShiftLaw
import Derived.Deep.DeepCutAuto
import Derived.Deep.CutBlock
import Derived.BigRegion

namespace Go.Proofs.YtfaocjcpnjmfiaaDoor
set_option linter.unusedVariables false
/-! ### two words by one, by the reciprocal (Moeller and Granlund) -/
/-- The true remainder's place: t is u less (q1 + 1) times d. -/
theorem mg_core (d v u1 u0 q1 q0 : Int) (t k : Int) (hd : 18446744073709551616 ≤ 2 * d) (hd2 : d < 18446744073709551616) (hk : k = 340282366920938463463374607431768211456 - (18446744073709551616 + v) * d) (hk1 : 1 ≤ k) (hk2 : k ≤ d)
    (h1 : 0 ≤ u1) (h1' : u1 < d) (h0 : 0 ≤ u0) (h0' : u0 < 18446744073709551616) (hq : q1 * 18446744073709551616 + q0 = (18446744073709551616 + v) * u1 + u0) (hq0 : 0 ≤ q0) (hq0' : q0 < 18446744073709551616)
    (ht : t = u1 * 18446744073709551616 + u0 - (q1 + 1) * d) : (t < 18446744073709551616 - d ∨ t < q0) ∧ q0 < t + 18446744073709551616 ∧ -d ≤ t ∧ t < 18446744073709551616 := by
  have e : 18446744073709551616 * t = u1 * k + u0 * (18446744073709551616 - d) + q0 * d - 18446744073709551616 * d := by
    have e1 : q0 = (18446744073709551616 + v) * u1 + u0 - q1 * 18446744073709551616 := by omega
    rw [ht, hk, e1]; grind
  have a1 : u1 * k ≤ (d - 1) * d := Int.mul_le_mul (by omega) hk2 (by omega) (by omega)
  have a0 : 0 ≤ u1 * k := Int.mul_nonneg h1 (by omega)
  have b1 : u0 * (18446744073709551616 - d) ≤ 18446744073709551615 * (18446744073709551616 - d) := Int.mul_le_mul_of_nonneg_right (by omega) (by omega)
  have b0 : 0 ≤ u0 * (18446744073709551616 - d) := Int.mul_nonneg h0 (by omega)
  have c1 : q0 * d ≤ 18446744073709551615 * d := Int.mul_le_mul_of_nonneg_right (by omega) (by omega)
  have c0 : 0 ≤ q0 * d := Int.mul_nonneg hq0 (by omega)
  have e2 : (d - 1) * d = d * d - d := by grind
  have dd0 : d * d ≤ 18446744073709551615 * d := Int.mul_le_mul_of_nonneg_right (by omega) (by omega)
  refine ⟨?_, ?_, ?_, ?_⟩
  · by_cases hA : t < 18446744073709551616 - d
    · exact .inl hA
    · by_cases hB : t < q0
      · exact .inr hB
      · exfalso
        have x1 : 0 ≤ (t - (18446744073709551616 - d)) * (18446744073709551616 - d) := Int.mul_nonneg (by omega) (by omega)
        have x2 : 0 ≤ (t - q0) * d := Int.mul_nonneg (by omega) (by omega)
        have y1 : (t - (18446744073709551616 - d)) * (18446744073709551616 - d) = 18446744073709551616 * t - t * d - 340282366920938463463374607431768211456 + 36893488147419103232 * d - d * d := by grind
        have y2 : (t - q0) * d = t * d - q0 * d := by grind
        rw [y1] at x1
        rw [y2] at x2
        rw [e2] at a1
        generalize t * d = td at *
        generalize d * d = dd at *
        generalize q0 * d = qd at *
        generalize u1 * k = uk at *
        generalize u0 * (18446744073709551616 - d) = ud at *
        omega
  · have x1 : 0 ≤ (18446744073709551616 - q0 - 1) * (18446744073709551616 - d) := Int.mul_nonneg (by omega) (by omega)
    have y1 : (18446744073709551616 - q0 - 1) * (18446744073709551616 - d) = 340282366920938463463374607431768211456 - 18446744073709551616 * d - 18446744073709551616 * q0 + q0 * d - 18446744073709551616 + d := by grind
    rw [y1] at x1
    generalize q0 * d = qd at *
    generalize u1 * k = uk at *
    generalize u0 * (18446744073709551616 - d) = ud at *
    omega
  · generalize q0 * d = qd at *
    generalize u1 * k = uk at *
    generalize u0 * (18446744073709551616 - d) = ud at *
    omega
  · rw [e2] at a1
    generalize d * d = dd at *
    generalize q0 * d = qd at *
    generalize u1 * k = uk at *
    generalize u0 * (18446744073709551616 - d) = ud at *
    omega
/-- The reciprocal's bounds. -/
theorem recip_bounds (d v : Nat) (hd : 18446744073709551616 ≤ 2 * d) (hd2 : d < 18446744073709551616) (hv : v = (340282366920938463463374607431768211455 - 18446744073709551616 * d) / d) :
    v < 18446744073709551616 ∧ (18446744073709551616 + v) * d < 340282366920938463463374607431768211456 ∧ 340282366920938463463374607431768211456 ≤ (18446744073709551616 + v) * d + d := by
  have hpos : 0 < d := by omega
  have h1 := Nat.div_add_mod (340282366920938463463374607431768211455 - 18446744073709551616 * d) d
  have h2 := Nat.mod_lt (340282366920938463463374607431768211455 - 18446744073709551616 * d) hpos
  rw [← hv] at h1
  have e : (18446744073709551616 + v) * d = 18446744073709551616 * d + d * v := by grind
  rw [e]
  have hlt : v < 18446744073709551616 := by
    rcases Nat.lt_or_ge v 18446744073709551616 with h | h
    · exact h
    · have := Nat.mul_le_mul_left d h
      generalize d * v = p at *
      omega
  generalize (340282366920938463463374607431768211455 - 18446744073709551616 * d) % d = r at *
  generalize d * v = p at *
  omega
/-- What the code of udivrem2by1 computes, on natural numbers: q and r after each of its ways. -/
theorem mg_nat (d v u1 u0 q1 q0 r Q R : Nat) (hd : 18446744073709551616 ≤ 2 * d) (hd2 : d < 18446744073709551616) (hv : v = (340282366920938463463374607431768211455 - 18446744073709551616 * d) / d)
    (h1 : u1 < d) (h0 : u0 < 18446744073709551616) (hq : q1 * 18446744073709551616 + q0 = (18446744073709551616 + v) * u1 + u0) (hq0 : q0 < 18446744073709551616)
    (hr : r < 18446744073709551616) (hrm : ((r : Int) - ((u0 : Int) - ((q1 : Int) + 1) * (d : Int))) % 18446744073709551616 = 0)
    (hQ : Q = (u1 * 18446744073709551616 + u0) / d) (hR : R = (u1 * 18446744073709551616 + u0) % d) :
    Q < 18446744073709551616 ∧
    (q0 < r → d ≤ (r + d) % 18446744073709551616 → Q = q1 + 1 ∧ R = (r + d) % 18446744073709551616 - d) ∧
    (q0 < r → ¬ d ≤ (r + d) % 18446744073709551616 → Q = q1 ∧ R = (r + d) % 18446744073709551616) ∧
    (¬ q0 < r → d ≤ r → Q = q1 + 2 ∧ R = r - d) ∧
    (¬ q0 < r → ¬ d ≤ r → Q = q1 + 1 ∧ R = r) := by
  obtain ⟨b1, b2, b3⟩ := recip_bounds d v hd hd2 hv
  have hpos : 0 < d := by omega
  obtain ⟨t, ht⟩ : ∃ t : Int, t = (u1 : Int) * 18446744073709551616 + (u0 : Int) - ((q1 : Int) + 1) * (d : Int) := ⟨_, rfl⟩
  have hvd : (((18446744073709551616 + v) * d : Nat) : Int) = (18446744073709551616 + (v : Int)) * (d : Int) := by simp
  have core := mg_core d v u1 u0 q1 q0 t (340282366920938463463374607431768211456 - (18446744073709551616 + (v : Int)) * (d : Int)) (by omega) (by omega) rfl (by rw [← hvd]; omega) (by rw [← hvd]; omega) (by omega) (by omega) (by omega) (by omega)
    (by have : ((q1 * 18446744073709551616 + q0 : Nat) : Int) = (((18446744073709551616 + v) * u1 + u0 : Nat) : Int) := by rw [hq]
        simpa using this) (by omega) (by omega) ht
  obtain ⟨c1, c2, c3, c4⟩ := core
  have hrt : (r : Int) = if 0 ≤ t then t else t + 18446744073709551616 := by
    have e : ((r : Int) - t) % 18446744073709551616 = 0 := by
      have : (r : Int) - t = (r : Int) - ((u0 : Int) - ((q1 : Int) + 1) * (d : Int)) - (u1 : Int) * 18446744073709551616 := by rw [ht]; omega
      rw [this]; omega
    split <;> omega
  have hN : ((u1 * 18446744073709551616 + u0 : Nat) : Int) = ((q1 : Int) + 1) * (d : Int) + t := by rw [ht]; simp; omega
  have key : ∀ (q' r' : Nat), r' < d → ((u1 * 18446744073709551616 + u0 : Nat) : Int) = (q' : Int) * (d : Int) + (r' : Int) → Q = q' ∧ R = r' := by
    intro q' r' hr' he
    have he' : u1 * 18446744073709551616 + u0 = d * q' + r' := by
      have h1 : (((u1 * 18446744073709551616 + u0 : Nat)) : Int) = ((d * q' + r' : Nat) : Int) := by rw [he]; simp [Int.mul_comm]
      exact Int.ofNat.inj h1
    rw [hQ, hR, he']
    exact ⟨by rw [Nat.mul_add_div hpos, Nat.div_eq_of_lt hr', Nat.add_zero], by rw [Nat.mul_add_mod, Nat.mod_eq_of_lt hr']⟩
  have e1 : ((q1 : Int) + 1) * (d : Int) = (q1 : Int) * (d : Int) + (d : Int) := by grind
  have e2 : ((q1 + 2 : Nat) : Int) * (d : Int) = (q1 : Int) * (d : Int) + 2 * (d : Int) := by
    have : ((q1 + 2 : Nat) : Int) = (q1 : Int) + 2 := by simp
    rw [this]; grind
  have e3 : ((q1 + 1 : Nat) : Int) * (d : Int) = (q1 : Int) * (d : Int) + (d : Int) := by
    have : ((q1 + 1 : Nat) : Int) = (q1 : Int) + 1 := by simp
    rw [this]; grind
  rw [e1] at hN
  refine ⟨?_, ?_, ?_, ?_, ?_⟩
  · rw [hQ]
    apply Nat.div_lt_of_lt_mul
    have : u1 * 18446744073709551616 + u0 < (u1 + 1) * 18446744073709551616 := by omega
    have h3 : (u1 + 1) * 18446744073709551616 ≤ d * 18446744073709551616 := Nat.mul_le_mul_right _ h1
    exact Nat.lt_of_lt_of_le this h3
  · intro hA hB
    refine key _ _ (by split at hrt <;> omega) ?_
    rw [e3]
    split at hrt <;> omega
  · intro hA hB
    refine key _ _ (by omega) ?_
    split at hrt <;> omega
  · intro hA hB
    refine key _ _ (by split at hrt <;> omega) ?_
    rw [e2]
    split at hrt <;> omega
  · intro hA hB
    refine key _ _ (by omega) ?_
    rw [e3]
    split at hrt <;> omega
/-! ### a word's quotient by halves (math/bits.Div64 at a divisor whose highest bit is set) -/
/-- One digit of 32 bits: where q is no less than the true one, u = q * y1 + rh; the loop's test tells whether q is too great. -/
theorem half_test (y1 y0 u n q rh : Nat) (hu : u = q * y1 + rh) : (4294967296 * rh + n < q * y0 ↔ u * 4294967296 + n < q * (y1 * 4294967296 + y0)) := by
  have e : q * (y1 * 4294967296 + y0) = q * y1 * 4294967296 + q * y0 := by grind
  rw [e, hu]
  generalize q * y1 = a
  generalize q * y0 = b
  omega
theorem half_digit (y1 y0 u n q rh : Nat) (hy : 0 < y1) (hu : u = q * y1 + rh) (hge : (u * 4294967296 + n) / (y1 * 4294967296 + y0) ≤ q) (hle : ¬ 4294967296 * rh + n < q * y0) : q = (u * 4294967296 + n) / (y1 * 4294967296 + y0) := by
  rw [half_test y1 y0 u n q rh hu] at hle
  have : q ≤ (u * 4294967296 + n) / (y1 * 4294967296 + y0) := (Nat.le_div_iff_mul_le (by omega)).2 (by omega)
  omega
theorem half_less (y1 y0 u n q rh : Nat) (hy : 0 < y1) (hu : u = q * y1 + rh) (hgt : 4294967296 * rh + n < q * y0) : (u * 4294967296 + n) / (y1 * 4294967296 + y0) < q := by
  rw [half_test y1 y0 u n q rh hu] at hgt
  exact (Nat.div_lt_iff_lt_mul (by omega)).2 hgt
theorem half_start (y1 y0 u n : Nat) (hy : 0 < y1) (hn : n < 4294967296) (h0 : y0 < 4294967296) : (u * 4294967296 + n) / (y1 * 4294967296 + y0) ≤ u / y1 := by
  apply Nat.le_of_lt_succ
  refine (Nat.div_lt_iff_lt_mul (by omega)).2 ?_
  have h1 := Nat.div_add_mod u y1
  have h2 := Nat.mod_lt u hy
  have e : (u / y1).succ * (y1 * 4294967296 + y0) = (y1 * (u / y1)) * 4294967296 + (u / y1) * y0 + y1 * 4294967296 + y0 := by rw [Nat.succ_eq_add_one]; grind
  rw [e]
  generalize y1 * (u / y1) = a at *
  generalize u / y1 * y0 = b at *
  omega
/-! ### Knuth's digit -/
/-- D's highest word is dh, then dl; the dividend's highest words are u2, u1, u0. -/
theorem knuth_low (P dh dl dr u2 u1 u0 ur q : Nat) (hdr : dr < P) (hur : ur < P) (hq : q * ((dh * 18446744073709551616 + dl) * P + dr) ≤ ((u2 * 18446744073709551616 + u1) * 18446744073709551616 + u0) * P + ur) :
    q * (dh * 18446744073709551616 + dl) ≤ (u2 * 18446744073709551616 + u1) * 18446744073709551616 + u0 := by
  have h1 : q * (dh * 18446744073709551616 + dl) * P ≤ q * ((dh * 18446744073709551616 + dl) * P + dr) := by rw [Nat.mul_assoc]; exact Nat.mul_le_mul_left _ (Nat.le_add_right _ _)
  have h2 : q * (dh * 18446744073709551616 + dl) * P < ((u2 * 18446744073709551616 + u1) * 18446744073709551616 + u0 + 1) * P := by
    have : ((u2 * 18446744073709551616 + u1) * 18446744073709551616 + u0 + 1) * P = ((u2 * 18446744073709551616 + u1) * 18446744073709551616 + u0) * P + P := by rw [Nat.add_mul, Nat.one_mul]
    omega
  have := Nat.lt_of_mul_lt_mul_right h2
  omega
theorem knuth_low1 (dh dl u2 u1 u0 q : Nat) (hu0 : u0 < 18446744073709551616) (hq : q * (dh * 18446744073709551616 + dl) ≤ (u2 * 18446744073709551616 + u1) * 18446744073709551616 + u0) : q * dh ≤ u2 * 18446744073709551616 + u1 := by
  have e : q * (dh * 18446744073709551616 + dl) = q * dh * 18446744073709551616 + q * dl := by grind
  rw [e] at hq
  generalize q * dh = a at *
  generalize q * dl = b at *
  omega
/-- The corrected digit is the true one, or one more. -/
theorem knuth_digit (P dh dl dr u2 u1 u0 ur qe re q : Nat) (hP : 0 < P) (hdr : dr < P) (hur : ur < P) (hh : 18446744073709551616 ≤ 2 * dh) (hdh : dh < 18446744073709551616) (hdl : dl < 18446744073709551616) (hu1 : u1 < 18446744073709551616) (hu0 : u0 < 18446744073709551616)
    (hU : ((u2 * 18446744073709551616 + u1) * 18446744073709551616 + u0) * P + ur < ((dh * 18446744073709551616 + dl) * P + dr) * 18446744073709551616)
    (hlt : u2 < dh) (hqe : qe = (u2 * 18446744073709551616 + u1) / dh) (hre : re = (u2 * 18446744073709551616 + u1) % dh)
    (hq : q = (((u2 * 18446744073709551616 + u1) * 18446744073709551616 + u0) * P + ur) / ((dh * 18446744073709551616 + dl) * P + dr)) :
    (re * 18446744073709551616 + u0 < qe * dl → q ≤ qe - 1 ∧ qe - 1 ≤ q + 1 ∧ 1 ≤ qe) ∧ (¬ re * 18446744073709551616 + u0 < qe * dl → q ≤ qe ∧ qe ≤ q + 1) := by
  obtain ⟨D, hD⟩ : ∃ D, D = (dh * 18446744073709551616 + dl) * P + dr := ⟨_, rfl⟩
  obtain ⟨U, hUU⟩ : ∃ U, U = ((u2 * 18446744073709551616 + u1) * 18446744073709551616 + u0) * P + ur := ⟨_, rfl⟩
  rw [← hD, ← hUU] at hq hU
  have hdpos : 0 < dh := by omega
  have hDpos : 0 < D := by
    have : 0 < (dh * 18446744073709551616 + dl) * P := Nat.mul_pos (by omega) hP
    omega
  have hqD : q * D ≤ U := by rw [hq]; exact Nat.div_mul_le_self _ _
  have l0 := knuth_low P dh dl dr u2 u1 u0 ur q hdr hur (by rw [← hD, ← hUU]; exact hqD)
  have l1 := knuth_low1 dh dl u2 u1 u0 q hu0 l0
  have hdm := Nat.div_add_mod (u2 * 18446744073709551616 + u1) dh
  rw [← hqe, ← hre] at hdm
  have hml : re < dh := by rw [hre]; exact Nat.mod_lt _ hdpos
  have hqeB : qe < 18446744073709551616 := by
    rw [hqe]
    refine (Nat.div_lt_iff_lt_mul hdpos).2 ?_
    have : (u2 + 1) * 18446744073709551616 ≤ dh * 18446744073709551616 := Nat.mul_le_mul_right _ hlt
    omega
  -- what is below the dividend is below the quotient
  have up : ∀ k, k * D ≤ U → k ≤ q := fun k hk => by rw [hq]; exact (Nat.le_div_iff_mul_le hDpos).2 hk
  have hD1 : D ≤ (dh + 1) * 18446744073709551616 * P := by
    have h1 : (dh * 18446744073709551616 + dl + 1) * P ≤ ((dh + 1) * 18446744073709551616) * P := Nat.mul_le_mul_right _ (by omega)
    have h2 : (dh * 18446744073709551616 + dl + 1) * P = (dh * 18446744073709551616 + dl) * P + P := by rw [Nat.add_mul, Nat.one_mul]
    omega
  have hD2 : D ≤ (dh * 18446744073709551616 + dl + 1) * P := by
    have h2 : (dh * 18446744073709551616 + dl + 1) * P = (dh * 18446744073709551616 + dl) * P + P := by rw [Nat.add_mul, Nat.one_mul]
    omega
  refine ⟨fun ht => ?_, fun ht => ?_⟩
  · have hqlt : q < qe := by
      rcases Nat.lt_or_ge q qe with h | h
      · exact h
      · exfalso
        have h1 : qe * (dh * 18446744073709551616 + dl) ≤ q * (dh * 18446744073709551616 + dl) := Nat.mul_le_mul_right _ h
        have h2 : qe * (dh * 18446744073709551616 + dl) = dh * qe * 18446744073709551616 + qe * dl := by grind
        rw [h2] at h1
        generalize dh * qe = a at *
        generalize qe * dl = b at *
        generalize q * (dh * 18446744073709551616 + dl) = c at *
        omega
    refine ⟨by omega, ?_, by omega⟩
    by_cases h2 : qe ≤ 2
    · omega
    · have := up (qe - 2) ?_
      · omega
      · obtain ⟨m, rfl⟩ : ∃ m, qe = m + 2 := ⟨qe - 2, by omega⟩
        rw [Nat.add_sub_cancel]
        have h3 : m * D ≤ m * ((dh + 1) * 18446744073709551616 * P) := Nat.mul_le_mul_left _ hD1
        have h4 : m * ((dh + 1) * 18446744073709551616 * P) = (m * (dh + 1)) * 18446744073709551616 * P := by grind
        have h5 : m * (dh + 1) ≤ u2 * 18446744073709551616 + u1 := by
          have e1 : m * (dh + 1) = m * dh + m := by grind
          have e2 : dh * (m + 2) = m * dh + 2 * dh := by grind
          rw [e2] at hdm
          rw [e1]
          generalize m * dh = a at *
          omega
        have h6 : (m * (dh + 1)) * 18446744073709551616 * P ≤ (u2 * 18446744073709551616 + u1) * 18446744073709551616 * P := Nat.mul_le_mul_right _ (Nat.mul_le_mul_right _ h5)
        have h7 : (u2 * 18446744073709551616 + u1) * 18446744073709551616 * P ≤ ((u2 * 18446744073709551616 + u1) * 18446744073709551616 + u0) * P := Nat.mul_le_mul_right _ (Nat.le_add_right _ _)
        omega
  · refine ⟨?_, ?_⟩
    · rw [hqe]; exact (Nat.le_div_iff_mul_le hdpos).2 l1
    · by_cases h2 : qe = 0
      · omega
      · have := up (qe - 1) ?_
        · omega
        · obtain ⟨m, rfl⟩ : ∃ m, qe = m + 1 := ⟨qe - 1, by omega⟩
          rw [Nat.add_sub_cancel]
          have h3 : m * D ≤ m * ((dh * 18446744073709551616 + dl + 1) * P) := Nat.mul_le_mul_left _ hD2
          have h4 : m * ((dh * 18446744073709551616 + dl + 1) * P) = (m * (dh * 18446744073709551616 + dl + 1)) * P := by grind
          have h5 : m * (dh * 18446744073709551616 + dl + 1) ≤ (u2 * 18446744073709551616 + u1) * 18446744073709551616 + u0 := by
            have e1 : m * (dh * 18446744073709551616 + dl + 1) = m * dh * 18446744073709551616 + m * dl + m := by grind
            have e2 : dh * (m + 1) = m * dh + dh := by grind
            have e3 : (m + 1) * dl = m * dl + dl := by grind
            rw [e2] at hdm
            rw [e3] at ht
            rw [e1]
            generalize m * dh = a at *
            generalize m * dl = b at *
            omega
          have h6 := Nat.mul_le_mul_right P h5
          omega
/-- Where the highest word is the divisor's, the greatest word is the true digit, or one more. -/
theorem knuth_top (P dh dl dr u2 u1 u0 ur q : Nat) (hP : 0 < P) (hdr : dr < P) (hh : 18446744073709551616 ≤ 2 * dh) (hdh : dh < 18446744073709551616) (hdl : dl < 18446744073709551616)
    (hU : ((u2 * 18446744073709551616 + u1) * 18446744073709551616 + u0) * P + ur < ((dh * 18446744073709551616 + dl) * P + dr) * 18446744073709551616)
    (hge : dh ≤ u2)
    (hq : q = (((u2 * 18446744073709551616 + u1) * 18446744073709551616 + u0) * P + ur) / ((dh * 18446744073709551616 + dl) * P + dr)) :
    q ≤ 18446744073709551615 ∧ 18446744073709551615 ≤ q + 1 := by
  obtain ⟨D, hD⟩ : ∃ D, D = (dh * 18446744073709551616 + dl) * P + dr := ⟨_, rfl⟩
  obtain ⟨U, hUU⟩ : ∃ U, U = ((u2 * 18446744073709551616 + u1) * 18446744073709551616 + u0) * P + ur := ⟨_, rfl⟩
  rw [← hD, ← hUU] at hq hU
  have hDpos : 0 < D := by
    have : 0 < (dh * 18446744073709551616 + dl) * P := Nat.mul_pos (by omega) hP
    omega
  have hD1 : D ≤ (dh + 1) * 18446744073709551616 * P := by
    have h1 : (dh * 18446744073709551616 + dl + 1) * P ≤ ((dh + 1) * 18446744073709551616) * P := Nat.mul_le_mul_right _ (by omega)
    have h2 : (dh * 18446744073709551616 + dl + 1) * P = (dh * 18446744073709551616 + dl) * P + P := by rw [Nat.add_mul, Nat.one_mul]
    omega
  refine ⟨?_, ?_⟩
  · have : q < 18446744073709551616 := by rw [hq]; exact (Nat.div_lt_iff_lt_mul hDpos).2 (by rw [Nat.mul_comm]; exact hU)
    omega
  · have : 18446744073709551614 ≤ q := by
      rw [hq]
      refine (Nat.le_div_iff_mul_le hDpos).2 ?_
      have h3 : 18446744073709551614 * D ≤ 18446744073709551614 * ((dh + 1) * 18446744073709551616 * P) := Nat.mul_le_mul_left _ hD1
      have h4 : 18446744073709551614 * ((dh + 1) * 18446744073709551616 * P) = (18446744073709551614 * (dh + 1)) * 18446744073709551616 * P := by grind
      have h5 : 18446744073709551614 * (dh + 1) ≤ u2 * 18446744073709551616 + u1 := by clear hU hq hD1 hD hUU h3 h4 hDpos; omega
      have h6 : (18446744073709551614 * (dh + 1)) * 18446744073709551616 * P ≤ (u2 * 18446744073709551616 + u1) * 18446744073709551616 * P := Nat.mul_le_mul_right _ (Nat.mul_le_mul_right _ h5)
      have h7 : (u2 * 18446744073709551616 + u1) * 18446744073709551616 * P ≤ ((u2 * 18446744073709551616 + u1) * 18446744073709551616 + u0) * P := Nat.mul_le_mul_right _ (Nat.le_add_right _ _)
      rw [h4] at h3
      rw [hUU]
      exact Nat.le_trans h3 (Nat.le_trans h6 (Nat.le_trans h7 (Nat.le_add_right _ _)))
    omega
end Go.Proofs.YtfaocjcpnjmfiaaDoor

namespace Go.Proofs.YtfaocjcpnjmfiaaDoor
set_option linter.unusedVariables false
/-- One word of a quotient by one word. -/
theorem by1_round (U Q : List W64) (k c d r q r' S : Nat) (T : Nat) (hT : T = 18446744073709551616 ^ (k + 1) * (S * d + r) + wseg U 0 (k + 1)) (hq : q = (r * 18446744073709551616 + (wd U k).toNat) / d) (hr : r' = (r * 18446744073709551616 + (wd U k).toNat) % d) :
    T = 18446744073709551616 ^ k * ((q + 18446744073709551616 * S) * d + r') + wseg U 0 k := by
  have h := Nat.div_add_mod (r * 18446744073709551616 + (wd U k).toNat) d
  rw [← hq, ← hr] at h
  rw [hT, wseg, Nat.zero_add]
  generalize (wd U k).toNat = x at *
  generalize wseg U 0 k = y at *
  have e : 18446744073709551616 ^ (k + 1) * (S * d + r) + (y + 18446744073709551616 ^ k * x) = 18446744073709551616 ^ k * (18446744073709551616 * S * d + (r * 18446744073709551616 + x)) + y := by
    rw [Nat.pow_succ]; grind
  rw [e, ← h]
  grind
/-- What is left of a digit's product: the digit is right, or one too great. -/
theorem kn_right (P X Xl u2 D q r qh br Ll : Nat) (hX : X = Xl + P * u2) (hq : X = D * q + r) (hr : r < D) (hD : D < P) (hL : Ll < P) (hXl : Xl < P) (hs : Ll + D * qh = Xl + P * br) (hh : qh = q) : br = u2 ∧ Ll = r := by
  subst hh
  have hb : br = u2 := by
    rcases Nat.lt_trichotomy br u2 with h | h | h
    · exfalso
      have : P * (br + 1) ≤ P * u2 := Nat.mul_le_mul_left _ h
      rw [Nat.mul_add, Nat.mul_one] at this
      omega
    · exact h
    · exfalso
      have : P * (u2 + 1) ≤ P * br := Nat.mul_le_mul_left _ h
      rw [Nat.mul_add, Nat.mul_one] at this
      omega
  subst hb
  exact ⟨rfl, by omega⟩
theorem kn_over (P X Xl u2 D q r qh br Ll : Nat) (hX : X = Xl + P * u2) (hq : X = D * q + r) (hr : r < D) (hD : D < P) (hL : Ll < P) (hXl : Xl < P) (hs : Ll + D * qh = Xl + P * br) (hh : qh = q + 1) : br = u2 + 1 ∧ Ll + D = r + P := by
  subst hh
  rw [Nat.mul_add, Nat.mul_one] at hs
  have hb : br = u2 + 1 := by
    rcases Nat.lt_trichotomy br (u2 + 1) with h | h | h
    · exfalso
      have : P * (br + 1) ≤ P * (u2 + 1) := Nat.mul_le_mul_left _ h
      rw [Nat.mul_add, Nat.mul_one, Nat.mul_add, Nat.mul_one] at this
      omega
    · exact h
    · exfalso
      have : P * (u2 + 1 + 1) ≤ P * br := Nat.mul_le_mul_left _ h
      rw [Nat.mul_add, Nat.mul_one, Nat.mul_add, Nat.mul_one] at this
      omega
  subst hb
  rw [Nat.mul_add, Nat.mul_one] at hs
  exact ⟨rfl, by omega⟩
theorem kn_back (P r D Ll Lx c : Nat) (h : Ll + D = r + P) (hs : Lx + P * c = Ll + D) (hc : c ≤ 1) (hr : r < P) (hl : Lx < P) : c = 1 ∧ Lx = r := by
  rcases (by omega : c = 0 ∨ c = 1) with h0 | h0
  · subst h0; omega
  · subst h0; omega
/-- The row's equation after a digit. -/
theorem kn_step (U0 U1 U2 Q1 Q2 : List W64) (p m n D q r : Nat) (hp : p < m) (hE : wseg U0 0 (m + n) = 18446744073709551616 ^ (p + 1) * wseg Q1 (p + 1) (m - (p + 1)) * D + wseg U1 0 (p + 1 + n))
    (hX : wseg U1 p (n + 1) = D * q + r) (h2 : wseg U2 p n = r) (hlow : ∀ i, i < p → wd U2 i = wd U1 i) (hq : (wd Q2 p).toNat = q) (hhi : ∀ i, p < i → wd Q2 i = wd Q1 i) :
    wseg U0 0 (m + n) = 18446744073709551616 ^ p * wseg Q2 p (m - p) * D + wseg U2 0 (p + n) := by
  have s1 := wseg_split U1 0 p (n + 1)
  have s2 := wseg_split U2 0 p n
  rw [Nat.zero_add] at s1 s2
  have c1 : wseg U2 0 p = wseg U1 0 p := wseg_congr (fun i hi => by rw [Nat.zero_add]; exact hlow i hi)
  have e1 : m - p = (m - (p + 1)) + 1 := by omega
  have h1 := wseg_head Q2 p (m - (p + 1))
  have c2 : wseg Q2 (p + 1) (m - (p + 1)) = wseg Q1 (p + 1) (m - (p + 1)) := wseg_congr (fun i hi => hhi _ (by omega))
  rw [c2, hq] at h1
  rw [hE, e1, h1, s2, c1, h2, show p + 1 + n = p + (n + 1) by omega, s1, hX, Nat.pow_succ]
  grind
/-- The digit that the code guesses. -/
theorem kn_digit (U D : List W64) (p n : Nat) (hn : 2 ≤ n) (hh : 9223372036854775808 ≤ (wd D (n - 1)).toNat) (hU : wseg U p (n + 1) < wseg D 0 n * 18446744073709551616) :
    (¬ (wd U (p + n)).toNat < (wd D (n - 1)).toNat → wseg U p (n + 1) / wseg D 0 n ≤ 18446744073709551615 ∧ 18446744073709551615 ≤ wseg U p (n + 1) / wseg D 0 n + 1) ∧
    ((wd U (p + n)).toNat < (wd D (n - 1)).toNat → ∀ qe re : Nat, qe = ((wd U (p + n)).toNat * 18446744073709551616 + (wd U (p + n - 1)).toNat) / (wd D (n - 1)).toNat → re = ((wd U (p + n)).toNat * 18446744073709551616 + (wd U (p + n - 1)).toNat) % (wd D (n - 1)).toNat →
      (re * 18446744073709551616 + (wd U (p + n - 2)).toNat < qe * (wd D (n - 2)).toNat → wseg U p (n + 1) / wseg D 0 n ≤ qe - 1 ∧ qe - 1 ≤ wseg U p (n + 1) / wseg D 0 n + 1 ∧ 1 ≤ qe) ∧
      (¬ re * 18446744073709551616 + (wd U (p + n - 2)).toNat < qe * (wd D (n - 2)).toNat → wseg U p (n + 1) / wseg D 0 n ≤ qe ∧ qe ≤ wseg U p (n + 1) / wseg D 0 n + 1)) := by
  obtain ⟨s, rfl⟩ : ∃ s, n = s + 2 := ⟨n - 2, by omega⟩
  rw [show s + 2 - 1 = s + 1 by omega, show s + 2 - 2 = s by omega, show p + (s + 2) - 1 = p + (s + 1) by omega, show p + (s + 2) - 2 = p + s by omega] at *
  have eD : wseg D 0 (s + 2) = ((wd D (s + 1)).toNat * 18446744073709551616 + (wd D s).toNat) * 18446744073709551616 ^ s + wseg D 0 s := by
    rw [wseg, wseg, Nat.zero_add, Nat.zero_add, Nat.pow_succ]; grind
  have eU : wseg U p (s + 2 + 1) = (((wd U (p + (s + 2))).toNat * 18446744073709551616 + (wd U (p + (s + 1))).toNat) * 18446744073709551616 + (wd U (p + s)).toNat) * 18446744073709551616 ^ s + wseg U p s := by
    rw [wseg, wseg, wseg, Nat.pow_succ, Nat.pow_succ]; grind
  have dr := wseg_lt D 0 s
  have ur := wseg_lt U p s
  have b1 := (wd D (s + 1)).isLt
  have b2 := (wd D s).isLt
  have b3 := (wd U (p + (s + 1))).isLt
  have b4 := (wd U (p + s)).isLt
  have hP : 0 < 18446744073709551616 ^ s := Nat.pow_pos (by decide)
  rw [eU, eD] at hU
  rw [eU, eD]
  generalize 18446744073709551616 ^ s = P at *
  generalize wseg D 0 s = d0 at *
  generalize wseg U p s = u0 at *
  generalize (wd D (s + 1)).toNat = dh at *
  generalize (wd D s).toNat = dl at *
  generalize (wd U (p + (s + 2))).toNat = w2 at *
  generalize (wd U (p + (s + 1))).toNat = w1 at *
  generalize (wd U (p + s)).toNat = w0 at *
  refine ⟨fun h => ?_, fun h qe re hqe hre => ?_⟩
  · exact knuth_top P dh dl d0 w2 w1 w0 u0 _ hP dr (by omega) b1 b2 hU (Nat.le_of_not_lt h) rfl
  · exact knuth_digit P dh dl d0 w2 w1 w0 u0 qe re _ hP dr ur (by omega) b1 b2 b3 b4 hU h hqe hre rfl
end Go.Proofs.YtfaocjcpnjmfiaaDoor

namespace Go.Proofs.YtfaocjcpnjmfiaaDoor
set_option linter.unusedVariables false
theorem wseg_set_above {l : List W64} {j k i : Nat} {v : W64} (h : j + k ≤ i) : wseg (l.set i v) j k = wseg l j k := by
  refine wseg_congr (fun t ht => ?_)
  by_cases hi : i < l.length
  · rw [wd_set _ _ _ _ hi, if_neg (by omega)]
  · rw [List.set_eq_of_length_le (by omega)]
/-- A word of a row that is shifted up by s. -/
def nrmW (l : List W64) (s : W64) (i : Nat) : W64 := if i = 0 then shlW (wd l 0) s else shlW (wd l i) s ||| shrW (wd l (i - 1)) (restW s)
theorem nrm_carry (x s : W64) (hs : s.toNat < 64) : (shrW x (restW s)).toNat = x.toNat * 2 ^ s.toNat / 2 ^ 64 := by
  have e := pow64 s.toNat (by omega)
  rw [shrW_toNat, restW_toNat s (by omega), e, Nat.mul_div_mul_right _ _ (Nat.two_pow_pos _)]
/-- The row shifted up: its words, and what leaves it above. -/
theorem nrm_seg (l m : List W64) (s : W64) (hs : s.toNat < 64) (n : Nat) (hm : ∀ i, i < n → wd m i = nrmW l s i) (hn : 0 < n) :
    wseg m 0 n + 18446744073709551616 ^ n * ((wd l (n - 1)).toNat * 2 ^ s.toNat / 2 ^ 64) = wseg l 0 n * 2 ^ s.toNat := by
  induction n with
  | zero => omega
  | succ n ih =>
    rw [wseg, wseg, Nat.zero_add, Nat.add_sub_cancel, hm n (Nat.lt_succ_self _)]
    by_cases h0 : n = 0
    · subst h0
      unfold nrmW
      rw [if_pos rfl, shlW_toNat]
      simp only [wseg, Nat.pow_zero, Nat.one_mul, Nat.zero_add, Nat.pow_one]
      have := Nat.mod_add_div ((wd l 0).toNat * 2 ^ s.toNat) (2 ^ 64)
      exact this
    · have h1 := ih (fun i hi => hm i (by omega)) (by omega)
      unfold nrmW
      rw [if_neg h0, shl_or _ _ _ hs]
      have h2 := Nat.mod_add_div ((wd l n).toNat * 2 ^ s.toNat) (2 ^ 64)
      have e3 : (18446744073709551616 : Nat) ^ (n + 1) = 18446744073709551616 ^ n * 18446744073709551616 := Nat.pow_succ _ _
      have e4 : (wseg l 0 n + 18446744073709551616 ^ n * (wd l n).toNat) * 2 ^ s.toNat = wseg l 0 n * 2 ^ s.toNat + 18446744073709551616 ^ n * ((wd l n).toNat * 2 ^ s.toNat) := by rw [Nat.add_mul, Nat.mul_assoc]
      have e5 : (wd l (n - 1)).toNat * 2 ^ s.toNat / 2 ^ 64 = (wd l (n - 1)).toNat * 2 ^ s.toNat / 2 ^ 64 := rfl
      rw [e3, e4, ← h1]
      generalize (wd l (n - 1)).toNat * 2 ^ s.toNat / 2 ^ 64 = c at *
      generalize (wd l n).toNat * 2 ^ s.toNat = X at *
      obtain ⟨a, ha⟩ : ∃ a, a = X % 2 ^ 64 := ⟨_, rfl⟩
      obtain ⟨b, hb⟩ : ∃ b, b = X / 2 ^ 64 := ⟨_, rfl⟩
      rw [← ha, ← hb] at h2 ⊢
      have e6 : X = a + 18446744073709551616 * b := h2.symm
      clear h2 ha hb e4
      subst e6
      generalize 18446744073709551616 ^ n = P at *
      have e1 : P * (a + c) = P * a + P * c := Nat.mul_add _ _ _
      have e2 : P * (a + 18446744073709551616 * b) = P * a + P * 18446744073709551616 * b := by rw [Nat.mul_add, Nat.mul_assoc]
      rw [e1, e2]
      omega
/-- A word of a row of n words that is shifted down by s. -/
def unnW (l : List W64) (s : W64) (n i : Nat) : W64 := if i + 1 = n then shrW (wd l i) s else shrW (wd l i) s ||| shlW (wd l (i + 1)) (restW s)
theorem unn_seg (l m : List W64) (s : W64) (hs : s.toNat < 64) (n : Nat) (hm : ∀ i, i < n → wd m i = unnW l s n i) : ∀ k i, i + k + 1 = n → wseg m i (k + 1) * 2 ^ s.toNat + (wd l i).toNat % 2 ^ s.toNat = wseg l i (k + 1) := by
  intro k
  induction k with
  | zero =>
    intro i hi
    simp only [wseg, Nat.pow_zero, Nat.one_mul, Nat.zero_add, Nat.add_zero]
    rw [hm i (by omega)]
    unfold unnW
    rw [if_pos (by omega), shrW_toNat]
    have := Nat.div_add_mod (wd l i).toNat (2 ^ s.toNat)
    rw [Nat.mul_comm] at this
    exact this
  | succ k ih =>
    intro i hi
    have h1 := ih (i + 1) (by omega)
    rw [wseg_head m, wseg_head l, hm i (by omega), ← h1]
    unfold unnW
    rw [if_neg (by omega), shr_or _ _ _ hs]
    have h2 := Nat.div_add_mod (wd l i).toNat (2 ^ s.toNat)
    have e := pow64 s.toNat (by omega)
    have e' : (18446744073709551616 : Nat) = 2 ^ (64 - s.toNat) * 2 ^ s.toNat := e
    generalize (wd l i).toNat / 2 ^ s.toNat = a at *
    generalize (wd l i).toNat % 2 ^ s.toNat = b at *
    generalize (wd l (i + 1)).toNat % 2 ^ s.toNat = c at *
    generalize wseg m (i + 1) (k + 1) = M at *
    rw [← h2, e']
    generalize 2 ^ (64 - s.toNat) = R at *
    generalize 2 ^ s.toNat = T at *
    grind
theorem unn_all (l m : List W64) (s : W64) (hs : s.toNat < 64) (n : Nat) (hn : 0 < n) (hm : ∀ i, i < n → wd m i = unnW l s n i) : wseg m 0 n = wseg l 0 n / 2 ^ s.toNat := by
  obtain ⟨k, rfl⟩ : ∃ k, n = k + 1 := ⟨n - 1, by omega⟩
  have h := unn_seg l m s hs (k + 1) hm k 0 (by omega)
  have hb := Nat.mod_lt (wd l 0).toNat (Nat.two_pow_pos s.toNat)
  rw [← h, Nat.mul_comm, Nat.mul_add_div (Nat.two_pow_pos _), Nat.div_eq_of_lt hb]
  exact (Nat.add_zero _).symm
/-- The divisor's shift. -/
def shD (x : W64) : W64 := BitVec.ofNat 64 (64 - Lib.bitLen x.toNat)
theorem shD_toNat (x : W64) : (shD x).toNat = 64 - Lib.bitLen x.toNat := by
  unfold shD; rw [BitVec.toNat_ofNat]; omega
theorem shD_lt (x : W64) (h : x ≠ 0#64) : (shD x).toNat < 64 := by
  have h0 : x.toNat ≠ 0 := fun e => h (BitVec.eq_of_toNat_eq e)
  have := (bl_shift x.toNat x.isLt h0).1
  rw [shD_toNat]; omega
/-- A divisor of n words, shifted up. -/
theorem div_nrm (l m : List W64) (n : Nat) (hn : 0 < n) (ht : wd l (n - 1) ≠ 0#64) (hm : ∀ i, i < n → wd m i = nrmW l (shD (wd l (n - 1))) i) :
    wseg m 0 n = wseg l 0 n * 2 ^ (shD (wd l (n - 1))).toNat ∧ 9223372036854775808 ≤ (wd m (n - 1)).toNat := by
  have h0 : (wd l (n - 1)).toNat ≠ 0 := fun e => ht (BitVec.eq_of_toNat_eq e)
  obtain ⟨b1, b2, b3⟩ := bl_shift (wd l (n - 1)).toNat (wd l (n - 1)).isLt h0
  have hs := shD_lt _ ht
  have h := nrm_seg l m _ hs n hm hn
  rw [shD_toNat] at *
  rw [Nat.div_eq_of_lt b3, Nat.mul_zero, Nat.add_zero] at h
  refine ⟨h, ?_⟩
  rw [hm (n - 1) (by omega)]
  unfold nrmW
  by_cases hz : n - 1 = 0
  · rw [if_pos hz, shlW_toNat, shD_toNat, ← hz, Nat.mod_eq_of_lt b3]
    exact b2
  · rw [if_neg hz, shl_or _ _ _ (by rw [shD_toNat]; omega), shD_toNat, Nat.mod_eq_of_lt b3]
    omega
/-- A dividend of k words, shifted up: k + 1 words. -/
theorem num_nrm (l m : List W64) (s : W64) (hs : s.toNat < 64) (k : Nat) (hk : 0 < k) (hm : ∀ i, i < k → wd m i = nrmW l s i) (ht : wd m k = shrW (wd l (k - 1)) (restW s)) :
    wseg m 0 (k + 1) = wseg l 0 k * 2 ^ s.toNat ∧ (wd m k).toNat < 2 ^ s.toNat := by
  have h := nrm_seg l m s hs k hm hk
  rw [wseg, Nat.zero_add, ht, nrm_carry _ _ hs]
  refine ⟨h, ?_⟩
  refine Nat.div_lt_of_lt_mul ?_
  exact Nat.mul_lt_mul_of_pos_right (wd l (k - 1)).isLt (Nat.two_pow_pos _)
/-- What a division of the shifted numbers tells of the numbers. -/
theorem div_back (T U D Q R : Nat) (hT : 0 < T) (h : U * T = Q * (D * T) + R) (hR : R < D * T) : Q = U / D ∧ R = U % D * T := by
  have hD : 0 < D := by
    rcases Nat.eq_zero_or_pos D with h0 | h0
    · subst h0; omega
    · exact h0
  have h1 : R = (U - Q * D) * T := by
    rw [Nat.sub_mul, h]
    have : Q * D * T = Q * (D * T) := Nat.mul_assoc _ _ _
    omega
  have h2 : Q * D ≤ U := by
    have : Q * D * T ≤ U * T := by rw [h, Nat.mul_assoc]; omega
    exact Nat.le_of_mul_le_mul_right this hT
  have h3 : U - Q * D < D := by
    rw [h1] at hR
    exact Nat.lt_of_mul_lt_mul_right hR
  obtain ⟨r, hr⟩ : ∃ r, r = U - Q * D := ⟨_, rfl⟩
  have h4 : U = D * Q + r := by rw [hr, Nat.mul_comm D]; omega
  rw [← hr] at h1 h3
  subst h1
  clear hr h2 h hR
  subst h4
  refine ⟨?_, ?_⟩
  · rw [Nat.mul_add_div hD, Nat.div_eq_of_lt h3]; exact (Nat.add_zero _).symm
  · rw [Nat.mul_add_mod, Nat.mod_eq_of_lt h3]
theorem wseg_len {l : List W64} {n m : Nat} (hn : n ≤ m) (h : ∀ i, n ≤ i → wd l i = 0#64) : wseg l 0 m = wseg l 0 n := by
  obtain ⟨k, rfl⟩ : ∃ k, m = n + k := ⟨m - n, by omega⟩
  have h1 : wseg l (0 + n) k = 0 := wseg_zero (fun t ht => h _ (by omega))
  rw [wseg_split, h1, Nat.mul_zero]
  rfl
theorem wseg_ge {l : List W64} {n : Nat} (h : wd l n ≠ 0#64) : 18446744073709551616 ^ n ≤ wseg l 0 (n + 1) := by
  have h0 : 1 ≤ (wd l n).toNat := by
    rcases Nat.eq_zero_or_pos (wd l n).toNat with h1 | h1
    · exact absurd (BitVec.eq_of_toNat_eq h1) h
    · exact h1
  rw [wseg, Nat.zero_add]
  have := Nat.mul_le_mul_left (18446744073709551616 ^ n) h0
  omega
/-- A dividend of fewer words than the divisor. -/
theorem few_words {X D : List W64} {e k a b : Nat} (he : ∀ i, e < i → wd X i = 0#64) (ha : e + 1 ≤ a) (hk : wd D k ≠ 0#64) (hb : k + 1 ≤ b) (hkz : ∀ i, k < i → wd D i = 0#64) (hek : e < k) : wseg X 0 a < wseg D 0 b := by
  rw [wseg_len (l := X) ha (fun i hi => he i (by omega)), wseg_len (l := D) hb (fun i hi => hkz i (by omega))]
  have h1 := wseg_lt X 0 (e + 1)
  have h2 := wseg_ge hk
  have h3 : 18446744073709551616 ^ (e + 1) ≤ 18446744073709551616 ^ k := Nat.pow_le_pow_right (by decide) hek
  omega
/-- The highest words of the shifted dividend are below the shifted divisor. -/
theorem kn_pre (X N M D : List W64) (T e k m n : Nat) (hm : m + n = e + 2) (hn : n = k + 1) (hN : wseg N 0 (e + 2) = wseg X 0 (e + 1) * T) (hM : wseg M 0 n = wseg D 0 n * T) (hT : 0 < T) (hk : wd D k ≠ 0#64) : wseg N m n < wseg M 0 n := by
  rcases Nat.lt_or_ge (wseg N m n) (wseg M 0 n) with h | h
  · exact h
  · exfalso
    have h1 := wseg_split N 0 m n
    rw [hm, Nat.zero_add, hN] at h1
    have h2 := wseg_ge hk
    rw [← hn] at h2
    have h3 := wseg_lt X 0 (e + 1)
    have h4 : 18446744073709551616 ^ m * (18446744073709551616 ^ k * T) ≤ 18446744073709551616 ^ m * wseg N m n := Nat.mul_le_mul_left _ (Nat.le_trans (Nat.mul_le_mul_right T h2) (by rw [← hM]; exact h))
    have h5 : 18446744073709551616 ^ m * (18446744073709551616 ^ k * T) = 18446744073709551616 ^ (e + 1) * T := by
      rw [← Nat.mul_assoc, ← Nat.pow_add, show m + k = e + 1 by omega]
    have h6 : wseg X 0 (e + 1) * T < 18446744073709551616 ^ (e + 1) * T := Nat.mul_lt_mul_of_pos_right h3 hT
    omega
end Go.Proofs.YtfaocjcpnjmfiaaDoor

namespace Go.Proofs.YtfaocjcpnjmfiaaDoor
open Go.RowKit
set_option linter.unusedVariables false
set_option linter.unusedSimpArgs false
/-- Words' quotients, halves; the walk does not look inside. -/
def quoW (x y : W64) : W64 := x / y
def remW (x y : W64) : W64 := x % y
def hiW (x : W64) : W64 := x >>> (32 : Nat)
def loW (x : W64) : W64 := x &&& 4294967295#64
theorem quoW_toNat (x y : W64) : (quoW x y).toNat = x.toNat / y.toNat := BitVec.toNat_udiv
theorem remW_toNat (x y : W64) : (remW x y).toNat = x.toNat % y.toNat := BitVec.toNat_umod
theorem hiW_toNat (x : W64) : (hiW x).toNat = x.toNat / 4294967296 := by unfold hiW; rw [BitVec.toNat_ushiftRight, Nat.shiftRight_eq_div_pow]
theorem loW_toNat (x : W64) : (loW x).toNat = x.toNat % 4294967296 := by unfold loW; rw [BitVec.toNat_and]; exact Nat.and_two_pow_sub_one_eq_mod x.toNat 32
theorem u64_quo (x y : W64) : (U x).tdiv (U y) = U (quoW x y) := by
  unfold U; rw [quoW_toNat, Int.tdiv_eq_ediv_of_nonneg (by omega)]; simp
theorem u64_quo' (x y : W64) : U x / U y = U (quoW x y) := by unfold U; rw [quoW_toNat]; simp
theorem u64_rem (x y : W64) : (U x).tmod (U y) = U (remW x y) := by
  unfold U; rw [remW_toNat, Int.tmod_eq_emod_of_nonneg (by omega)]; simp
theorem u64_rem' (x y : W64) : U x % U y = U (remW x y) := by unfold U; rw [remW_toNat]; simp
theorem u64_hi (x : W64) : U x / (4294967296 : Int) = U (hiW x) := by unfold U; rw [hiW_toNat]; simp
theorem u64_lo (x : W64) : bits BinOp.and IntKind.u64 (U x) (4294967295 : Int) = U (loW x) := u64_and x 4294967295#64
theorem u64_mulc (x : W64) : IntKind.u64.wrap (U x * 4294967296) = U (x * 4294967296#64) := u64_mul x 4294967296#64
theorem u64_mulc' (x : W64) : IntKind.u64.wrap (4294967296 * U x) = U (4294967296#64 * x) := u64_mul 4294967296#64 x
theorem u64_sub1 (x : W64) : IntKind.u64.wrap (U x - 1) = U (x - 1#64) := u64_sub x 1#64
theorem u64_add1 (x : W64) : IntKind.u64.wrap (U x + 1) = U (x + 1#64) := u64_add x 1#64
theorem u64_ge32b (x : W64) : (4294967296 ≤ U x) ↔ 4294967296#64 ≤ x := u64_le 4294967296#64 x
theorem u64_wrapUd (x : W64) : IntKind.u64.wrap (U x) = U x := by
  have h := u64_add x 0#64
  have e : U (0#64) = 0 := rfl
  rw [e, Int.add_zero, BitVec.add_zero] at h
  exact h
attribute [go_sem] u64_quo u64_quo' u64_rem u64_rem' u64_hi u64_lo u64_mulc u64_mulc' u64_sub1 u64_add1 u64_ge32b u64_wrapUd
/-- The digit of 32 bits at a place in the loop. -/
def HalfRel (u n y1 y0 : Nat) (q rh : W64) : Prop := u = q.toNat * y1 + rh.toNat ∧ (u * 4294967296 + n) / (y1 * 4294967296 + y0) ≤ q.toNat ∧ rh.toNat < 4294967296 ∧ q.toNat ≤ 4294967297
theorem half_begin (uW y1 y0 : W64) (n : Nat) (h1 : 2147483648 ≤ y1.toNat) (h1' : y1.toNat < 4294967296) (h0 : y0.toNat < 4294967296) (hn : n < 4294967296) (hu : uW.toNat < y1.toNat * 4294967296 + y0.toNat) :
    HalfRel uW.toNat n y1.toNat y0.toNat (quoW uW y1) (uW - quoW uW y1 * y1) := by
  have hq := quoW_toNat uW y1
  have hd := Nat.div_add_mod uW.toNat y1.toNat
  have hm := Nat.mod_lt uW.toNat (show 0 < y1.toNat by omega)
  have hqb : uW.toNat / y1.toNat ≤ 4294967297 := by
    apply Nat.le_of_lt_succ
    refine (Nat.div_lt_iff_lt_mul (by omega)).2 ?_
    show _ < 4294967298 * y1.toNat
    omega
  have hmul : (quoW uW y1 * y1).toNat = y1.toNat * (uW.toNat / y1.toNat) := by
    rw [BitVec.toNat_mul, hq, Nat.mul_comm]
    have := uW.isLt
    apply Nat.mod_eq_of_lt
    have : y1.toNat * (uW.toNat / y1.toNat) ≤ uW.toNat := Nat.mul_div_le _ _
    omega
  have hr : (uW - quoW uW y1 * y1).toNat = uW.toNat % y1.toNat := by
    rw [BitVec.toNat_sub_of_le (by rw [BitVec.le_def, hmul]; omega), hmul]
    omega
  refine ⟨?_, ?_, by rw [hr]; omega, by rw [hq]; exact hqb⟩
  · rw [hr, hq, Nat.mul_comm]; omega
  · rw [hq]; exact half_start _ _ _ _ (by omega) hn h0
/-- The loop's test, on words. -/
theorem half_more (u n : Nat) (nW y1 y0 q rh : W64) (hnW : nW.toNat = n) (h1 : 2147483648 ≤ y1.toNat) (h1' : y1.toNat < 4294967296) (h0 : y0.toNat < 4294967296) (hn : n < 4294967296) (hu : u < y1.toNat * 4294967296 + y0.toNat) (H : HalfRel u n y1.toNat y0.toNat q rh) :
    (4294967296#64 ≤ q ∨ 4294967296#64 * rh + nW < q * y0 → (u * 4294967296 + n) / (y1.toNat * 4294967296 + y0.toNat) < q.toNat) ∧ (¬ 4294967296#64 ≤ q → ¬ 4294967296#64 * rh + nW < q * y0 → q.toNat = (u * 4294967296 + n) / (y1.toNat * 4294967296 + y0.toNat)) := by
  obtain ⟨e, hge, hrh, hqb⟩ := H
  have hlt : (u * 4294967296 + n) / (y1.toNat * 4294967296 + y0.toNat) < 4294967296 := by
    refine (Nat.div_lt_iff_lt_mul (by omega)).2 ?_
    omega
  have hl : (4294967296#64 * rh + nW).toNat = 4294967296 * rh.toNat + n := by
    rw [BitVec.toNat_add, BitVec.toNat_mul, hnW]
    simp only [BitVec.toNat_ofNat]
    omega
  have hqy : q.toNat * y0.toNat < 18446744073709551616 := by
    have : q.toNat * y0.toNat ≤ 4294967297 * 4294967295 := Nat.mul_le_mul hqb (by omega)
    omega
  have hr : (q * y0).toNat = q.toNat * y0.toNat := by rw [BitVec.toNat_mul]; exact Nat.mod_eq_of_lt hqy
  rw [BitVec.lt_def, hl, hr, BitVec.le_def]
  simp only [BitVec.toNat_ofNat]
  refine ⟨fun h => ?_, fun h2 h => ?_⟩
  · rcases h with h | h
    · omega
    · exact half_less _ _ _ _ _ _ (by omega) e h
  · exact half_digit _ _ _ _ _ _ (by omega) e hge h
/-- One round: the digit less 1; the loop goes on, or the digit is right. -/
theorem half_round (u n : Nat) (y1 y0 q rh : W64) (h1 : 2147483648 ≤ y1.toNat) (h1' : y1.toNat < 4294967296) (h0 : y0.toNat < 4294967296) (hn : n < 4294967296) (H : HalfRel u n y1.toNat y0.toNat q rh)
    (hlt : (u * 4294967296 + n) / (y1.toNat * 4294967296 + y0.toNat) < q.toNat) :
    (¬ 4294967296#64 ≤ rh + y1 → HalfRel u n y1.toNat y0.toNat (q - 1#64) (rh + y1)) ∧ (4294967296#64 ≤ rh + y1 → (q - 1#64).toNat = (u * 4294967296 + n) / (y1.toNat * 4294967296 + y0.toNat)) ∧ (q - 1#64).toNat + 1 = q.toNat := by
  obtain ⟨e, hge, hrh, hqb⟩ := H
  have hpos : 0 < q.toNat := Nat.lt_of_le_of_lt (Nat.zero_le _) hlt
  have hle1 : (u * 4294967296 + n) / (y1.toNat * 4294967296 + y0.toNat) ≤ q.toNat - 1 := Nat.le_sub_one_of_lt hlt
  have hq1 : (q - 1#64).toNat = q.toNat - 1 := by
    rw [BitVec.toNat_sub_of_le (by rw [BitVec.le_def]; simp only [BitVec.toNat_ofNat]; omega)]
    rfl
  have hr1 : (rh + y1).toNat = rh.toNat + y1.toNat := by
    rw [BitVec.toNat_add]; apply Nat.mod_eq_of_lt; omega
  have e' : u = (q.toNat - 1) * y1.toNat + (rh.toNat + y1.toNat) := by
    obtain ⟨m, hm⟩ : ∃ m, q.toNat = m + 1 := ⟨q.toNat - 1, by omega⟩
    rw [hm, Nat.add_sub_cancel]
    rw [hm, Nat.add_mul, Nat.one_mul] at e
    omega
  rw [BitVec.le_def, hr1]
  simp only [BitVec.toNat_ofNat]
  refine ⟨fun h => ⟨by rw [hq1, hr1]; exact e', by rw [hq1]; exact hle1, by rw [hr1]; omega, by rw [hq1]; clear hle1 hge hlt; omega⟩, fun h => ?_, by rw [hq1]; clear hle1 hge hlt; omega⟩
  rw [hq1]
  refine half_digit _ _ _ _ _ _ (by omega) e' hle1 ?_
  clear hle1 hge hlt
  have : (q.toNat - 1) * y0.toNat ≤ 4294967296 * 4294967295 := Nat.mul_le_mul (by omega) (by omega)
  omega
end Go.Proofs.YtfaocjcpnjmfiaaDoor

namespace Go.Proofs.YtfaocjcpnjmfiaaDoor
open Go.RowKit
set_option linter.unusedVariables false
set_option linter.unusedSimpArgs false
/-- The reciprocal of a word whose highest bit is set. -/
def recW (d : W64) : W64 := BitVec.ofNat 64 ((340282366920938463463374607431768211455 - 18446744073709551616 * d.toNat) / d.toNat)
theorem recW_toNat (d : W64) (hd : 9223372036854775808 ≤ d.toNat) : (recW d).toNat = (340282366920938463463374607431768211455 - 18446744073709551616 * d.toNat) / d.toNat := by
  unfold recW
  rw [BitVec.toNat_ofNat]
  exact Nat.mod_eq_of_lt (recip_bounds d.toNat _ (by omega) d.isLt rfl).1
end Go.Proofs.YtfaocjcpnjmfiaaDoor

namespace Go.Proofs.YtfaocjcpnjmfiaaDoor
open Go.RowKit
set_option linter.unusedVariables false
set_option linter.unusedSimpArgs false
set_option maxRecDepth 20000
theorem sm_step (S S0 Y P x t y m br br' : Nat) (E : S + Y * m = S0 + P * br) (W : x + br' * 18446744073709551616 = t + y * m + br) : S + P * t + (Y + P * y) * m = S0 + P * x + P * 18446744073709551616 * br' := by
  have h : P * (x + br' * 18446744073709551616) = P * (t + y * m + br) := by rw [W]
  have e1 : P * (x + br' * 18446744073709551616) = P * x + P * 18446744073709551616 * br' := by grind
  have e2 : P * (t + y * m + br) = P * t + P * (y * m) + P * br := by grind
  have e3 : (Y + P * y) * m = Y * m + P * (y * m) := by grind
  rw [e1, e2] at h
  rw [e3]
  omega
theorem sm_round (L L' Y : List W64) (j k : Nat) (m br br' t : W64) (hk : j + k < L'.length) (hsame : ∀ i, j + k ≤ i → wd L' i = wd L i) (E : wseg L' j k + wseg Y 0 k * m.toNat = wseg L j k + 18446744073709551616 ^ k * br.toNat)
    (W : (wd L' (j + k)).toNat + br'.toNat * 18446744073709551616 = t.toNat + (wd Y k).toNat * m.toNat + br.toNat) :
    wseg (L'.set (j + k) t) j (k + 1) + wseg Y 0 (k + 1) * m.toNat = wseg L j (k + 1) + 18446744073709551616 ^ (k + 1) * br'.toNat := by
  have h1 : wseg (L'.set (j + k) t) j k = wseg L' j k := wseg_congr (fun i hi => by rw [wd_set _ _ _ _ hk, if_neg (by omega)])
  rw [wseg, wseg, wseg, h1, wd_set _ _ _ _ hk, if_pos rfl, Nat.zero_add, Nat.pow_succ, ← hsame (j + k) (Nat.le_refl _)]
  exact sm_step _ _ _ _ _ _ _ _ _ _ E W
theorem ad_round (L L' Y : List W64) (j k : Nat) (c c' : Bool) (t : W64) (hk : j + k < L'.length) (hsame : ∀ i, j + k ≤ i → wd L' i = wd L i) (E : wseg L' j k + 18446744073709551616 ^ k * c.toNat = wseg L j k + wseg Y 0 k)
    (W : (wd L' (j + k)).toNat + (wd Y k).toNat + c.toNat = t.toNat + 18446744073709551616 * c'.toNat) :
    wseg (L'.set (j + k) t) j (k + 1) + 18446744073709551616 ^ (k + 1) * c'.toNat = wseg L j (k + 1) + wseg Y 0 (k + 1) := by
  have h1 : wseg (L'.set (j + k) t) j k = wseg L' j k := wseg_congr (fun i hi => by rw [wd_set _ _ _ _ hk, if_neg (by omega)])
  rw [wseg, wseg, wseg, h1, wd_set _ _ _ _ hk, if_pos rfl, Nat.zero_add, Nat.pow_succ, ← hsame (j + k) (Nat.le_refl _)]
  generalize 18446744073709551616 ^ k = P at *
  have h : P * ((wd L' (j + k)).toNat + (wd Y k).toNat + c.toNat) = P * (t.toNat + 18446744073709551616 * c'.toNat) := by rw [W]
  have e1 : P * ((wd L' (j + k)).toNat + (wd Y k).toNat + c.toNat) = P * (wd L' (j + k)).toNat + P * (wd Y k).toNat + P * c.toNat := by grind
  have e2 : P * (t.toNat + 18446744073709551616 * c'.toNat) = P * t.toNat + P * 18446744073709551616 * c'.toNat := by grind
  rw [e1, e2] at h
  omega
/-- A row of which n words from j on have turned. -/
def Turned (L L' : List W64) (j n : Nat) : Prop := L'.length = L.length ∧ ∀ i, i < j ∨ j + n ≤ i → wd L' i = wd L i
theorem Turned.refl (L : List W64) (j n : Nat) : Turned L L j n := ⟨rfl, fun _ _ => rfl⟩
theorem Turned.set {L L' : List W64} {j k : Nat} (h : Turned L L' j k) (t : W64) (hk : j + k < L.length) : Turned L (L'.set (j + k) t) j (k + 1) :=
  ⟨by rw [List.length_set, h.1], fun i hi => by rw [wd_set _ _ _ _ (by rw [h.1]; exact hk), if_neg (by omega)]; exact h.2 i (by omega)⟩
end Go.Proofs.YtfaocjcpnjmfiaaDoor

namespace Go.Proofs.YtfaocjcpnjmfiaaDoor
open Go.RowKit
set_option linter.unusedVariables false
set_option linter.unusedSimpArgs false
set_option maxRecDepth 20000
end Go.Proofs.YtfaocjcpnjmfiaaDoor

namespace Go.Proofs.YtfaocjcpnjmfiaaDoor
open Go.RowKit
set_option linter.unusedVariables false
set_option linter.unusedSimpArgs false
set_option maxRecDepth 20000
theorem But.put4 {S : List Nat} {w w' : World} (h : But S w w') {b : Nat} (hb : b ∈ S ∨ w.heap.size ≤ b) (o : Nat) (z : N4) : But S w (put4 w' b o z) :=
  (((h.set hb _ _).set hb _ _).set hb _ _).set hb _ _
theorem But.step {S T : List Nat} {a b c : World} (h : But S a b) (k : But T b c) (ht : ∀ t ∈ T, t ∈ S ∨ a.heap.size ≤ t) : But S a c :=
  ⟨k.os.trans h.os, k.tape.trans h.tape, k.output.trans h.output, Nat.le_trans h.size k.size, fun i hi hs => (k.block i (Nat.lt_of_lt_of_le hi h.size) (fun e => by
    rcases ht i e with h1 | h1
    · exact hs h1
    · omega)).trans (h.block i hi hs)⟩
end Go.Proofs.YtfaocjcpnjmfiaaDoor

namespace Go.Proofs.YtfaocjcpnjmfiaaDoor
open Go.RowKit
set_option linter.unusedVariables false
set_option linter.unusedSimpArgs false
set_option maxRecDepth 20000
theorem isU_toNat {x : N4} (h : x.isU = true) : x.toNat = x.a.toNat := by
  unfold N4.isU at h
  rw [beq_iff_eq] at h
  have h1 : x.b = 0#64 ∧ x.c = 0#64 ∧ x.d = 0#64 := by
    have hb : ∀ i, (x.b ||| x.c ||| x.d).getLsbD i = false := fun i => by rw [h]; simp
    refine ⟨?_, ?_, ?_⟩ <;> apply BitVec.eq_of_getLsbD_eq <;> intro i hi <;> have := hb i <;> simp only [BitVec.getLsbD_or, Bool.or_eq_false_iff] at this <;> simp [this]
  obtain ⟨h1, h2, h3⟩ := h1
  unfold N4.toNat
  rw [h1, h2, h3]
  simp
theorem small_toNat {x : N4} (h : x.toNat < 2 ^ 64) : x.toNat = x.a.toNat := by
  unfold N4.toNat at *
  omega
theorem ofN_small (n : Nat) (x : W64) (h : n = x.toNat) : ofN n = ⟨x, 0#64, 0#64, 0#64⟩ := by
  symm
  apply eq_ofN
  unfold N4.toNat
  have := x.isLt
  simp only [BitVec.toNat_ofNat]
  omega
theorem ofN_zero : ofN 0 = ⟨0#64, 0#64, 0#64, 0#64⟩ := ofN_small 0 0#64 rfl
theorem ofN_one : ofN 1 = ⟨1#64, 0#64, 0#64, 0#64⟩ := ofN_small 1 1#64 rfl
theorem ofN_self (x : N4) : ofN x.toNat = x := (eq_ofN (Nat.mod_eq_of_lt (toNat_lt x)).symm).symm
theorem n4_ofN {l : List W64} {n : Nat} (h : wseg l 0 4 = n) : n4 l = ofN n := by
  apply eq_ofN
  rw [n4_toNat, h]
  have := wseg_lt l 0 4
  rw [h] at this
  exact (Nat.mod_eq_of_lt this).symm
theorem Free4.alloc {a : World} {c o : Nat} (h : Free4 a c o) (hc : c < a.heap.size) (ob : Obj) : Free4 (a.alloc ob) c o := h.bel hc (bel_alloc (bel_refl a) ob)
theorem Left.of_drew (W : World) (m b o n : Nat) (z : N4) : Left W b o z ((put4 (W.drewN m) b o z).drewN n) := ⟨⟨rfl, rfl, rfl, Nat.le_refl _, fun _ _ => rfl⟩⟩
/-- A step from a world that has only new blocks. -/
theorem But.trans' {S : List Nat} {a b c : World} (h : But S a b) (k : But S b c) : But S a c := h.trans k
end Go.Proofs.YtfaocjcpnjmfiaaDoor
