/-
  Plain laws on natural numbers for the division of long numbers: the reciprocal of a word, a quotient of two words by one, Knuth's digit. No program in sight.
  Plain laws on rows of words for Knuth's division: a digit's round. No program in sight but the words' definitions.
  Plain laws on rows of words: a row shifted up, so that a divisor's highest bit is set, and a rest shifted down again. No program in sight but the words' definitions.
  Contracts of uint256's zzDiv64 (at a divisor whose highest bit is set), reciprocal2by1 and udivrem2by1.
  The walk of uint256's zzDiv64 at a divisor whose highest bit is set.
  Contracts of uint256's subMulTo and addTo over rows of words.
  Contracts of uint256's udivremBy1 and udivremKnuth over rows of words.
  The contract of uint256's udivrem: a number of some words divided by one of four.
  Contracts of uint256's Div and Mod, whatever places receiver and operands are.
-/
import Derived.Test.YtfaocjcpnjmfiaaGreatDoorBase
import Derived.Test.YtfaocjcpnjmfiaaGreatDoorRow
import Derived.Test.YtfaocjcpnjmfiaaGreatDoorLen
import Derived.Test.YtfaocjcpnjmfiaaGreatDoorShiftLaw
import Derived.Deep.DeepCutAuto
import Derived.Deep.CutBlock
import Derived.BigRegion

namespace Go.Proofs.YtfaocjcpnjmfiaaGreatDoor
set_option linter.unusedVariables false
/-! ### two words by one, by the reciprocal (Moeller and Granlund) -/
/-- The true remainder's place: t is u less (q1 + 1) times d. -/
theorem mg_core (d v u1 u0 q1 q0 : Int) (t k : Int) (hd : 18446744073709551616 ≤ 2 * d) (hd2 : d < 18446744073709551616) (hk : k = 340282366920938463463374607431768211456 - (18446744073709551616 + v) * d) (hk1 : 1 ≤ k) (hk2 : k ≤ d)
    (h1 : 0 ≤ u1) (h1' : u1 < d) (h0 : 0 ≤ u0) (h0' : u0 < 18446744073709551616) (hq : q1 * 18446744073709551616 + q0 = (18446744073709551616 + v) * u1 + u0) (hq0 : 0 ≤ q0) (hq0' : q0 < 18446744073709551616)
    (ht : t = u1 * 18446744073709551616 + u0 - (q1 + 1) * d) : (t < 18446744073709551616 - d ∨ t < q0) ∧ q0 < t + 18446744073709551616 ∧ -d ≤ t ∧ t < 18446744073709551616 := by
  have e : 18446744073709551616 * t = u1 * k + u0 * (18446744073709551616 - d) + q0 * d - 18446744073709551616 * d := by
    have e1 : q0 = (18446744073709551616 + v) * u1 + u0 - q1 * 18446744073709551616 := by omega
    rw [ht, hk, e1]; grind
  have a1 : u1 * k ≤ (d - 1) * d := Int.mul_le_mul (by omega) hk2 (by omega) (by omega)
  have a0 : 0 ≤ u1 * k := Int.mul_nonneg h1 (by omega)
  have b1 : u0 * (18446744073709551616 - d) ≤ 18446744073709551615 * (18446744073709551616 - d) := Int.mul_le_mul_of_nonneg_right (by omega) (by omega)
  have b0 : 0 ≤ u0 * (18446744073709551616 - d) := Int.mul_nonneg h0 (by omega)
  have c1 : q0 * d ≤ 18446744073709551615 * d := Int.mul_le_mul_of_nonneg_right (by omega) (by omega)
  have c0 : 0 ≤ q0 * d := Int.mul_nonneg hq0 (by omega)
  have e2 : (d - 1) * d = d * d - d := by grind
  have dd0 : d * d ≤ 18446744073709551615 * d := Int.mul_le_mul_of_nonneg_right (by omega) (by omega)
  refine ⟨?_, ?_, ?_, ?_⟩
  · by_cases hA : t < 18446744073709551616 - d
    · exact .inl hA
    · by_cases hB : t < q0
      · exact .inr hB
      · exfalso
        have x1 : 0 ≤ (t - (18446744073709551616 - d)) * (18446744073709551616 - d) := Int.mul_nonneg (by omega) (by omega)
        have x2 : 0 ≤ (t - q0) * d := Int.mul_nonneg (by omega) (by omega)
        have y1 : (t - (18446744073709551616 - d)) * (18446744073709551616 - d) = 18446744073709551616 * t - t * d - 340282366920938463463374607431768211456 + 36893488147419103232 * d - d * d := by grind
        have y2 : (t - q0) * d = t * d - q0 * d := by grind
        rw [y1] at x1
        rw [y2] at x2
        rw [e2] at a1
        generalize t * d = td at *
        generalize d * d = dd at *
        generalize q0 * d = qd at *
        generalize u1 * k = uk at *
        generalize u0 * (18446744073709551616 - d) = ud at *
        omega
  · have x1 : 0 ≤ (18446744073709551616 - q0 - 1) * (18446744073709551616 - d) := Int.mul_nonneg (by omega) (by omega)
    have y1 : (18446744073709551616 - q0 - 1) * (18446744073709551616 - d) = 340282366920938463463374607431768211456 - 18446744073709551616 * d - 18446744073709551616 * q0 + q0 * d - 18446744073709551616 + d := by grind
    rw [y1] at x1
    generalize q0 * d = qd at *
    generalize u1 * k = uk at *
    generalize u0 * (18446744073709551616 - d) = ud at *
    omega
  · generalize q0 * d = qd at *
    generalize u1 * k = uk at *
    generalize u0 * (18446744073709551616 - d) = ud at *
    omega
  · rw [e2] at a1
    generalize d * d = dd at *
    generalize q0 * d = qd at *
    generalize u1 * k = uk at *
    generalize u0 * (18446744073709551616 - d) = ud at *
    omega
/-- The reciprocal's bounds. -/
theorem recip_bounds (d v : Nat) (hd : 18446744073709551616 ≤ 2 * d) (hd2 : d < 18446744073709551616) (hv : v = (340282366920938463463374607431768211455 - 18446744073709551616 * d) / d) :
    v < 18446744073709551616 ∧ (18446744073709551616 + v) * d < 340282366920938463463374607431768211456 ∧ 340282366920938463463374607431768211456 ≤ (18446744073709551616 + v) * d + d := by
  have hpos : 0 < d := by omega
  have h1 := Nat.div_add_mod (340282366920938463463374607431768211455 - 18446744073709551616 * d) d
  have h2 := Nat.mod_lt (340282366920938463463374607431768211455 - 18446744073709551616 * d) hpos
  rw [← hv] at h1
  have e : (18446744073709551616 + v) * d = 18446744073709551616 * d + d * v := by grind
  rw [e]
  have hlt : v < 18446744073709551616 := by
    rcases Nat.lt_or_ge v 18446744073709551616 with h | h
    · exact h
    · have := Nat.mul_le_mul_left d h
      generalize d * v = p at *
      omega
  generalize (340282366920938463463374607431768211455 - 18446744073709551616 * d) % d = r at *
  generalize d * v = p at *
  omega
/-- What the code of udivrem2by1 computes, on natural numbers: q and r after each of its ways. -/
theorem mg_nat (d v u1 u0 q1 q0 r Q R : Nat) (hd : 18446744073709551616 ≤ 2 * d) (hd2 : d < 18446744073709551616) (hv : v = (340282366920938463463374607431768211455 - 18446744073709551616 * d) / d)
    (h1 : u1 < d) (h0 : u0 < 18446744073709551616) (hq : q1 * 18446744073709551616 + q0 = (18446744073709551616 + v) * u1 + u0) (hq0 : q0 < 18446744073709551616)
    (hr : r < 18446744073709551616) (hrm : ((r : Int) - ((u0 : Int) - ((q1 : Int) + 1) * (d : Int))) % 18446744073709551616 = 0)
    (hQ : Q = (u1 * 18446744073709551616 + u0) / d) (hR : R = (u1 * 18446744073709551616 + u0) % d) :
    Q < 18446744073709551616 ∧
    (q0 < r → d ≤ (r + d) % 18446744073709551616 → Q = q1 + 1 ∧ R = (r + d) % 18446744073709551616 - d) ∧
    (q0 < r → ¬ d ≤ (r + d) % 18446744073709551616 → Q = q1 ∧ R = (r + d) % 18446744073709551616) ∧
    (¬ q0 < r → d ≤ r → Q = q1 + 2 ∧ R = r - d) ∧
    (¬ q0 < r → ¬ d ≤ r → Q = q1 + 1 ∧ R = r) := by
  obtain ⟨b1, b2, b3⟩ := recip_bounds d v hd hd2 hv
  have hpos : 0 < d := by omega
  obtain ⟨t, ht⟩ : ∃ t : Int, t = (u1 : Int) * 18446744073709551616 + (u0 : Int) - ((q1 : Int) + 1) * (d : Int) := ⟨_, rfl⟩
  have hvd : (((18446744073709551616 + v) * d : Nat) : Int) = (18446744073709551616 + (v : Int)) * (d : Int) := by simp
  have core := mg_core d v u1 u0 q1 q0 t (340282366920938463463374607431768211456 - (18446744073709551616 + (v : Int)) * (d : Int)) (by omega) (by omega) rfl (by rw [← hvd]; omega) (by rw [← hvd]; omega) (by omega) (by omega) (by omega) (by omega)
    (by have : ((q1 * 18446744073709551616 + q0 : Nat) : Int) = (((18446744073709551616 + v) * u1 + u0 : Nat) : Int) := by rw [hq]
        simpa using this) (by omega) (by omega) ht
  obtain ⟨c1, c2, c3, c4⟩ := core
  have hrt : (r : Int) = if 0 ≤ t then t else t + 18446744073709551616 := by
    have e : ((r : Int) - t) % 18446744073709551616 = 0 := by
      have : (r : Int) - t = (r : Int) - ((u0 : Int) - ((q1 : Int) + 1) * (d : Int)) - (u1 : Int) * 18446744073709551616 := by rw [ht]; omega
      rw [this]; omega
    split <;> omega
  have hN : ((u1 * 18446744073709551616 + u0 : Nat) : Int) = ((q1 : Int) + 1) * (d : Int) + t := by rw [ht]; simp; omega
  have key : ∀ (q' r' : Nat), r' < d → ((u1 * 18446744073709551616 + u0 : Nat) : Int) = (q' : Int) * (d : Int) + (r' : Int) → Q = q' ∧ R = r' := by
    intro q' r' hr' he
    have he' : u1 * 18446744073709551616 + u0 = d * q' + r' := by
      have h1 : (((u1 * 18446744073709551616 + u0 : Nat)) : Int) = ((d * q' + r' : Nat) : Int) := by rw [he]; simp [Int.mul_comm]
      exact Int.ofNat.inj h1
    rw [hQ, hR, he']
    exact ⟨by rw [Nat.mul_add_div hpos, Nat.div_eq_of_lt hr', Nat.add_zero], by rw [Nat.mul_add_mod, Nat.mod_eq_of_lt hr']⟩
  have e1 : ((q1 : Int) + 1) * (d : Int) = (q1 : Int) * (d : Int) + (d : Int) := by grind
  have e2 : ((q1 + 2 : Nat) : Int) * (d : Int) = (q1 : Int) * (d : Int) + 2 * (d : Int) := by
    have : ((q1 + 2 : Nat) : Int) = (q1 : Int) + 2 := by simp
    rw [this]; grind
  have e3 : ((q1 + 1 : Nat) : Int) * (d : Int) = (q1 : Int) * (d : Int) + (d : Int) := by
    have : ((q1 + 1 : Nat) : Int) = (q1 : Int) + 1 := by simp
    rw [this]; grind
  rw [e1] at hN
  refine ⟨?_, ?_, ?_, ?_, ?_⟩
  · rw [hQ]
    apply Nat.div_lt_of_lt_mul
    have : u1 * 18446744073709551616 + u0 < (u1 + 1) * 18446744073709551616 := by omega
    have h3 : (u1 + 1) * 18446744073709551616 ≤ d * 18446744073709551616 := Nat.mul_le_mul_right _ h1
    exact Nat.lt_of_lt_of_le this h3
  · intro hA hB
    refine key _ _ (by split at hrt <;> omega) ?_
    rw [e3]
    split at hrt <;> omega
  · intro hA hB
    refine key _ _ (by omega) ?_
    split at hrt <;> omega
  · intro hA hB
    refine key _ _ (by split at hrt <;> omega) ?_
    rw [e2]
    split at hrt <;> omega
  · intro hA hB
    refine key _ _ (by omega) ?_
    rw [e3]
    split at hrt <;> omega
/-! ### a word's quotient by halves (math/bits.Div64 at a divisor whose highest bit is set) -/
/-- One digit of 32 bits: where q is no less than the true one, u = q * y1 + rh; the loop's test tells whether q is too great. -/
theorem half_test (y1 y0 u n q rh : Nat) (hu : u = q * y1 + rh) : (4294967296 * rh + n < q * y0 ↔ u * 4294967296 + n < q * (y1 * 4294967296 + y0)) := by
  have e : q * (y1 * 4294967296 + y0) = q * y1 * 4294967296 + q * y0 := by grind
  rw [e, hu]
  generalize q * y1 = a
  generalize q * y0 = b
  omega
theorem half_digit (y1 y0 u n q rh : Nat) (hy : 0 < y1) (hu : u = q * y1 + rh) (hge : (u * 4294967296 + n) / (y1 * 4294967296 + y0) ≤ q) (hle : ¬ 4294967296 * rh + n < q * y0) : q = (u * 4294967296 + n) / (y1 * 4294967296 + y0) := by
  rw [half_test y1 y0 u n q rh hu] at hle
  have : q ≤ (u * 4294967296 + n) / (y1 * 4294967296 + y0) := (Nat.le_div_iff_mul_le (by omega)).2 (by omega)
  omega
theorem half_less (y1 y0 u n q rh : Nat) (hy : 0 < y1) (hu : u = q * y1 + rh) (hgt : 4294967296 * rh + n < q * y0) : (u * 4294967296 + n) / (y1 * 4294967296 + y0) < q := by
  rw [half_test y1 y0 u n q rh hu] at hgt
  exact (Nat.div_lt_iff_lt_mul (by omega)).2 hgt
theorem half_start (y1 y0 u n : Nat) (hy : 0 < y1) (hn : n < 4294967296) (h0 : y0 < 4294967296) : (u * 4294967296 + n) / (y1 * 4294967296 + y0) ≤ u / y1 := by
  apply Nat.le_of_lt_succ
  refine (Nat.div_lt_iff_lt_mul (by omega)).2 ?_
  have h1 := Nat.div_add_mod u y1
  have h2 := Nat.mod_lt u hy
  have e : (u / y1).succ * (y1 * 4294967296 + y0) = (y1 * (u / y1)) * 4294967296 + (u / y1) * y0 + y1 * 4294967296 + y0 := by rw [Nat.succ_eq_add_one]; grind
  rw [e]
  generalize y1 * (u / y1) = a at *
  generalize u / y1 * y0 = b at *
  omega
/-! ### Knuth's digit -/
/-- D's highest word is dh, then dl; the dividend's highest words are u2, u1, u0. -/
theorem knuth_low (P dh dl dr u2 u1 u0 ur q : Nat) (hdr : dr < P) (hur : ur < P) (hq : q * ((dh * 18446744073709551616 + dl) * P + dr) ≤ ((u2 * 18446744073709551616 + u1) * 18446744073709551616 + u0) * P + ur) :
    q * (dh * 18446744073709551616 + dl) ≤ (u2 * 18446744073709551616 + u1) * 18446744073709551616 + u0 := by
  have h1 : q * (dh * 18446744073709551616 + dl) * P ≤ q * ((dh * 18446744073709551616 + dl) * P + dr) := by rw [Nat.mul_assoc]; exact Nat.mul_le_mul_left _ (Nat.le_add_right _ _)
  have h2 : q * (dh * 18446744073709551616 + dl) * P < ((u2 * 18446744073709551616 + u1) * 18446744073709551616 + u0 + 1) * P := by
    have : ((u2 * 18446744073709551616 + u1) * 18446744073709551616 + u0 + 1) * P = ((u2 * 18446744073709551616 + u1) * 18446744073709551616 + u0) * P + P := by rw [Nat.add_mul, Nat.one_mul]
    omega
  have := Nat.lt_of_mul_lt_mul_right h2
  omega
theorem knuth_low1 (dh dl u2 u1 u0 q : Nat) (hu0 : u0 < 18446744073709551616) (hq : q * (dh * 18446744073709551616 + dl) ≤ (u2 * 18446744073709551616 + u1) * 18446744073709551616 + u0) : q * dh ≤ u2 * 18446744073709551616 + u1 := by
  have e : q * (dh * 18446744073709551616 + dl) = q * dh * 18446744073709551616 + q * dl := by grind
  rw [e] at hq
  generalize q * dh = a at *
  generalize q * dl = b at *
  omega
/-- The corrected digit is the true one, or one more. -/
theorem knuth_digit (P dh dl dr u2 u1 u0 ur qe re q : Nat) (hP : 0 < P) (hdr : dr < P) (hur : ur < P) (hh : 18446744073709551616 ≤ 2 * dh) (hdh : dh < 18446744073709551616) (hdl : dl < 18446744073709551616) (hu1 : u1 < 18446744073709551616) (hu0 : u0 < 18446744073709551616)
    (hU : ((u2 * 18446744073709551616 + u1) * 18446744073709551616 + u0) * P + ur < ((dh * 18446744073709551616 + dl) * P + dr) * 18446744073709551616)
    (hlt : u2 < dh) (hqe : qe = (u2 * 18446744073709551616 + u1) / dh) (hre : re = (u2 * 18446744073709551616 + u1) % dh)
    (hq : q = (((u2 * 18446744073709551616 + u1) * 18446744073709551616 + u0) * P + ur) / ((dh * 18446744073709551616 + dl) * P + dr)) :
    (re * 18446744073709551616 + u0 < qe * dl → q ≤ qe - 1 ∧ qe - 1 ≤ q + 1 ∧ 1 ≤ qe) ∧ (¬ re * 18446744073709551616 + u0 < qe * dl → q ≤ qe ∧ qe ≤ q + 1) := by
  obtain ⟨D, hD⟩ : ∃ D, D = (dh * 18446744073709551616 + dl) * P + dr := ⟨_, rfl⟩
  obtain ⟨U, hUU⟩ : ∃ U, U = ((u2 * 18446744073709551616 + u1) * 18446744073709551616 + u0) * P + ur := ⟨_, rfl⟩
  rw [← hD, ← hUU] at hq hU
  have hdpos : 0 < dh := by omega
  have hDpos : 0 < D := by
    have : 0 < (dh * 18446744073709551616 + dl) * P := Nat.mul_pos (by omega) hP
    omega
  have hqD : q * D ≤ U := by rw [hq]; exact Nat.div_mul_le_self _ _
  have l0 := knuth_low P dh dl dr u2 u1 u0 ur q hdr hur (by rw [← hD, ← hUU]; exact hqD)
  have l1 := knuth_low1 dh dl u2 u1 u0 q hu0 l0
  have hdm := Nat.div_add_mod (u2 * 18446744073709551616 + u1) dh
  rw [← hqe, ← hre] at hdm
  have hml : re < dh := by rw [hre]; exact Nat.mod_lt _ hdpos
  have hqeB : qe < 18446744073709551616 := by
    rw [hqe]
    refine (Nat.div_lt_iff_lt_mul hdpos).2 ?_
    have : (u2 + 1) * 18446744073709551616 ≤ dh * 18446744073709551616 := Nat.mul_le_mul_right _ hlt
    omega
  -- what is below the dividend is below the quotient
  have up : ∀ k, k * D ≤ U → k ≤ q := fun k hk => by rw [hq]; exact (Nat.le_div_iff_mul_le hDpos).2 hk
  have hD1 : D ≤ (dh + 1) * 18446744073709551616 * P := by
    have h1 : (dh * 18446744073709551616 + dl + 1) * P ≤ ((dh + 1) * 18446744073709551616) * P := Nat.mul_le_mul_right _ (by omega)
    have h2 : (dh * 18446744073709551616 + dl + 1) * P = (dh * 18446744073709551616 + dl) * P + P := by rw [Nat.add_mul, Nat.one_mul]
    omega
  have hD2 : D ≤ (dh * 18446744073709551616 + dl + 1) * P := by
    have h2 : (dh * 18446744073709551616 + dl + 1) * P = (dh * 18446744073709551616 + dl) * P + P := by rw [Nat.add_mul, Nat.one_mul]
    omega
  refine ⟨fun ht => ?_, fun ht => ?_⟩
  · have hqlt : q < qe := by
      rcases Nat.lt_or_ge q qe with h | h
      · exact h
      · exfalso
        have h1 : qe * (dh * 18446744073709551616 + dl) ≤ q * (dh * 18446744073709551616 + dl) := Nat.mul_le_mul_right _ h
        have h2 : qe * (dh * 18446744073709551616 + dl) = dh * qe * 18446744073709551616 + qe * dl := by grind
        rw [h2] at h1
        generalize dh * qe = a at *
        generalize qe * dl = b at *
        generalize q * (dh * 18446744073709551616 + dl) = c at *
        omega
    refine ⟨by omega, ?_, by omega⟩
    by_cases h2 : qe ≤ 2
    · omega
    · have := up (qe - 2) ?_
      · omega
      · obtain ⟨m, rfl⟩ : ∃ m, qe = m + 2 := ⟨qe - 2, by omega⟩
        rw [Nat.add_sub_cancel]
        have h3 : m * D ≤ m * ((dh + 1) * 18446744073709551616 * P) := Nat.mul_le_mul_left _ hD1
        have h4 : m * ((dh + 1) * 18446744073709551616 * P) = (m * (dh + 1)) * 18446744073709551616 * P := by grind
        have h5 : m * (dh + 1) ≤ u2 * 18446744073709551616 + u1 := by
          have e1 : m * (dh + 1) = m * dh + m := by grind
          have e2 : dh * (m + 2) = m * dh + 2 * dh := by grind
          rw [e2] at hdm
          rw [e1]
          generalize m * dh = a at *
          omega
        have h6 : (m * (dh + 1)) * 18446744073709551616 * P ≤ (u2 * 18446744073709551616 + u1) * 18446744073709551616 * P := Nat.mul_le_mul_right _ (Nat.mul_le_mul_right _ h5)
        have h7 : (u2 * 18446744073709551616 + u1) * 18446744073709551616 * P ≤ ((u2 * 18446744073709551616 + u1) * 18446744073709551616 + u0) * P := Nat.mul_le_mul_right _ (Nat.le_add_right _ _)
        omega
  · refine ⟨?_, ?_⟩
    · rw [hqe]; exact (Nat.le_div_iff_mul_le hdpos).2 l1
    · by_cases h2 : qe = 0
      · omega
      · have := up (qe - 1) ?_
        · omega
        · obtain ⟨m, rfl⟩ : ∃ m, qe = m + 1 := ⟨qe - 1, by omega⟩
          rw [Nat.add_sub_cancel]
          have h3 : m * D ≤ m * ((dh * 18446744073709551616 + dl + 1) * P) := Nat.mul_le_mul_left _ hD2
          have h4 : m * ((dh * 18446744073709551616 + dl + 1) * P) = (m * (dh * 18446744073709551616 + dl + 1)) * P := by grind
          have h5 : m * (dh * 18446744073709551616 + dl + 1) ≤ (u2 * 18446744073709551616 + u1) * 18446744073709551616 + u0 := by
            have e1 : m * (dh * 18446744073709551616 + dl + 1) = m * dh * 18446744073709551616 + m * dl + m := by grind
            have e2 : dh * (m + 1) = m * dh + dh := by grind
            have e3 : (m + 1) * dl = m * dl + dl := by grind
            rw [e2] at hdm
            rw [e3] at ht
            rw [e1]
            generalize m * dh = a at *
            generalize m * dl = b at *
            omega
          have h6 := Nat.mul_le_mul_right P h5
          omega
/-- Where the highest word is the divisor's, the greatest word is the true digit, or one more. -/
theorem knuth_top (P dh dl dr u2 u1 u0 ur q : Nat) (hP : 0 < P) (hdr : dr < P) (hh : 18446744073709551616 ≤ 2 * dh) (hdh : dh < 18446744073709551616) (hdl : dl < 18446744073709551616)
    (hU : ((u2 * 18446744073709551616 + u1) * 18446744073709551616 + u0) * P + ur < ((dh * 18446744073709551616 + dl) * P + dr) * 18446744073709551616)
    (hge : dh ≤ u2)
    (hq : q = (((u2 * 18446744073709551616 + u1) * 18446744073709551616 + u0) * P + ur) / ((dh * 18446744073709551616 + dl) * P + dr)) :
    q ≤ 18446744073709551615 ∧ 18446744073709551615 ≤ q + 1 := by
  obtain ⟨D, hD⟩ : ∃ D, D = (dh * 18446744073709551616 + dl) * P + dr := ⟨_, rfl⟩
  obtain ⟨U, hUU⟩ : ∃ U, U = ((u2 * 18446744073709551616 + u1) * 18446744073709551616 + u0) * P + ur := ⟨_, rfl⟩
  rw [← hD, ← hUU] at hq hU
  have hDpos : 0 < D := by
    have : 0 < (dh * 18446744073709551616 + dl) * P := Nat.mul_pos (by omega) hP
    omega
  have hD1 : D ≤ (dh + 1) * 18446744073709551616 * P := by
    have h1 : (dh * 18446744073709551616 + dl + 1) * P ≤ ((dh + 1) * 18446744073709551616) * P := Nat.mul_le_mul_right _ (by omega)
    have h2 : (dh * 18446744073709551616 + dl + 1) * P = (dh * 18446744073709551616 + dl) * P + P := by rw [Nat.add_mul, Nat.one_mul]
    omega
  refine ⟨?_, ?_⟩
  · have : q < 18446744073709551616 := by rw [hq]; exact (Nat.div_lt_iff_lt_mul hDpos).2 (by rw [Nat.mul_comm]; exact hU)
    omega
  · have : 18446744073709551614 ≤ q := by
      rw [hq]
      refine (Nat.le_div_iff_mul_le hDpos).2 ?_
      have h3 : 18446744073709551614 * D ≤ 18446744073709551614 * ((dh + 1) * 18446744073709551616 * P) := Nat.mul_le_mul_left _ hD1
      have h4 : 18446744073709551614 * ((dh + 1) * 18446744073709551616 * P) = (18446744073709551614 * (dh + 1)) * 18446744073709551616 * P := by grind
      have h5 : 18446744073709551614 * (dh + 1) ≤ u2 * 18446744073709551616 + u1 := by clear hU hq hD1 hD hUU h3 h4 hDpos; omega
      have h6 : (18446744073709551614 * (dh + 1)) * 18446744073709551616 * P ≤ (u2 * 18446744073709551616 + u1) * 18446744073709551616 * P := Nat.mul_le_mul_right _ (Nat.mul_le_mul_right _ h5)
      have h7 : (u2 * 18446744073709551616 + u1) * 18446744073709551616 * P ≤ ((u2 * 18446744073709551616 + u1) * 18446744073709551616 + u0) * P := Nat.mul_le_mul_right _ (Nat.le_add_right _ _)
      rw [h4] at h3
      rw [hUU]
      exact Nat.le_trans h3 (Nat.le_trans h6 (Nat.le_trans h7 (Nat.le_add_right _ _)))
    omega
end Go.Proofs.YtfaocjcpnjmfiaaGreatDoor

namespace Go.Proofs.YtfaocjcpnjmfiaaGreatDoor
set_option linter.unusedVariables false
/-- One word of a quotient by one word. -/
theorem by1_round (U Q : List W64) (k c d r q r' S : Nat) (T : Nat) (hT : T = 18446744073709551616 ^ (k + 1) * (S * d + r) + wseg U 0 (k + 1)) (hq : q = (r * 18446744073709551616 + (wd U k).toNat) / d) (hr : r' = (r * 18446744073709551616 + (wd U k).toNat) % d) :
    T = 18446744073709551616 ^ k * ((q + 18446744073709551616 * S) * d + r') + wseg U 0 k := by
  have h := Nat.div_add_mod (r * 18446744073709551616 + (wd U k).toNat) d
  rw [← hq, ← hr] at h
  rw [hT, wseg, Nat.zero_add]
  generalize (wd U k).toNat = x at *
  generalize wseg U 0 k = y at *
  have e : 18446744073709551616 ^ (k + 1) * (S * d + r) + (y + 18446744073709551616 ^ k * x) = 18446744073709551616 ^ k * (18446744073709551616 * S * d + (r * 18446744073709551616 + x)) + y := by
    rw [Nat.pow_succ]; grind
  rw [e, ← h]
  grind
/-- What is left of a digit's product: the digit is right, or one too great. -/
theorem kn_right (P X Xl u2 D q r qh br Ll : Nat) (hX : X = Xl + P * u2) (hq : X = D * q + r) (hr : r < D) (hD : D < P) (hL : Ll < P) (hXl : Xl < P) (hs : Ll + D * qh = Xl + P * br) (hh : qh = q) : br = u2 ∧ Ll = r := by
  subst hh
  have hb : br = u2 := by
    rcases Nat.lt_trichotomy br u2 with h | h | h
    · exfalso
      have : P * (br + 1) ≤ P * u2 := Nat.mul_le_mul_left _ h
      rw [Nat.mul_add, Nat.mul_one] at this
      omega
    · exact h
    · exfalso
      have : P * (u2 + 1) ≤ P * br := Nat.mul_le_mul_left _ h
      rw [Nat.mul_add, Nat.mul_one] at this
      omega
  subst hb
  exact ⟨rfl, by omega⟩
theorem kn_over (P X Xl u2 D q r qh br Ll : Nat) (hX : X = Xl + P * u2) (hq : X = D * q + r) (hr : r < D) (hD : D < P) (hL : Ll < P) (hXl : Xl < P) (hs : Ll + D * qh = Xl + P * br) (hh : qh = q + 1) : br = u2 + 1 ∧ Ll + D = r + P := by
  subst hh
  rw [Nat.mul_add, Nat.mul_one] at hs
  have hb : br = u2 + 1 := by
    rcases Nat.lt_trichotomy br (u2 + 1) with h | h | h
    · exfalso
      have : P * (br + 1) ≤ P * (u2 + 1) := Nat.mul_le_mul_left _ h
      rw [Nat.mul_add, Nat.mul_one, Nat.mul_add, Nat.mul_one] at this
      omega
    · exact h
    · exfalso
      have : P * (u2 + 1 + 1) ≤ P * br := Nat.mul_le_mul_left _ h
      rw [Nat.mul_add, Nat.mul_one, Nat.mul_add, Nat.mul_one] at this
      omega
  subst hb
  rw [Nat.mul_add, Nat.mul_one] at hs
  exact ⟨rfl, by omega⟩
theorem kn_back (P r D Ll Lx c : Nat) (h : Ll + D = r + P) (hs : Lx + P * c = Ll + D) (hc : c ≤ 1) (hr : r < P) (hl : Lx < P) : c = 1 ∧ Lx = r := by
  rcases (by omega : c = 0 ∨ c = 1) with h0 | h0
  · subst h0; omega
  · subst h0; omega
/-- The row's equation after a digit. -/
theorem kn_step (U0 U1 U2 Q1 Q2 : List W64) (p m n D q r : Nat) (hp : p < m) (hE : wseg U0 0 (m + n) = 18446744073709551616 ^ (p + 1) * wseg Q1 (p + 1) (m - (p + 1)) * D + wseg U1 0 (p + 1 + n))
    (hX : wseg U1 p (n + 1) = D * q + r) (h2 : wseg U2 p n = r) (hlow : ∀ i, i < p → wd U2 i = wd U1 i) (hq : (wd Q2 p).toNat = q) (hhi : ∀ i, p < i → wd Q2 i = wd Q1 i) :
    wseg U0 0 (m + n) = 18446744073709551616 ^ p * wseg Q2 p (m - p) * D + wseg U2 0 (p + n) := by
  have s1 := wseg_split U1 0 p (n + 1)
  have s2 := wseg_split U2 0 p n
  rw [Nat.zero_add] at s1 s2
  have c1 : wseg U2 0 p = wseg U1 0 p := wseg_congr (fun i hi => by rw [Nat.zero_add]; exact hlow i hi)
  have e1 : m - p = (m - (p + 1)) + 1 := by omega
  have h1 := wseg_head Q2 p (m - (p + 1))
  have c2 : wseg Q2 (p + 1) (m - (p + 1)) = wseg Q1 (p + 1) (m - (p + 1)) := wseg_congr (fun i hi => hhi _ (by omega))
  rw [c2, hq] at h1
  rw [hE, e1, h1, s2, c1, h2, show p + 1 + n = p + (n + 1) by omega, s1, hX, Nat.pow_succ]
  grind
/-- The digit that the code guesses. -/
theorem kn_digit (U D : List W64) (p n : Nat) (hn : 2 ≤ n) (hh : 9223372036854775808 ≤ (wd D (n - 1)).toNat) (hU : wseg U p (n + 1) < wseg D 0 n * 18446744073709551616) :
    (¬ (wd U (p + n)).toNat < (wd D (n - 1)).toNat → wseg U p (n + 1) / wseg D 0 n ≤ 18446744073709551615 ∧ 18446744073709551615 ≤ wseg U p (n + 1) / wseg D 0 n + 1) ∧
    ((wd U (p + n)).toNat < (wd D (n - 1)).toNat → ∀ qe re : Nat, qe = ((wd U (p + n)).toNat * 18446744073709551616 + (wd U (p + n - 1)).toNat) / (wd D (n - 1)).toNat → re = ((wd U (p + n)).toNat * 18446744073709551616 + (wd U (p + n - 1)).toNat) % (wd D (n - 1)).toNat →
      (re * 18446744073709551616 + (wd U (p + n - 2)).toNat < qe * (wd D (n - 2)).toNat → wseg U p (n + 1) / wseg D 0 n ≤ qe - 1 ∧ qe - 1 ≤ wseg U p (n + 1) / wseg D 0 n + 1 ∧ 1 ≤ qe) ∧
      (¬ re * 18446744073709551616 + (wd U (p + n - 2)).toNat < qe * (wd D (n - 2)).toNat → wseg U p (n + 1) / wseg D 0 n ≤ qe ∧ qe ≤ wseg U p (n + 1) / wseg D 0 n + 1)) := by
  obtain ⟨s, rfl⟩ : ∃ s, n = s + 2 := ⟨n - 2, by omega⟩
  rw [show s + 2 - 1 = s + 1 by omega, show s + 2 - 2 = s by omega, show p + (s + 2) - 1 = p + (s + 1) by omega, show p + (s + 2) - 2 = p + s by omega] at *
  have eD : wseg D 0 (s + 2) = ((wd D (s + 1)).toNat * 18446744073709551616 + (wd D s).toNat) * 18446744073709551616 ^ s + wseg D 0 s := by
    rw [wseg, wseg, Nat.zero_add, Nat.zero_add, Nat.pow_succ]; grind
  have eU : wseg U p (s + 2 + 1) = (((wd U (p + (s + 2))).toNat * 18446744073709551616 + (wd U (p + (s + 1))).toNat) * 18446744073709551616 + (wd U (p + s)).toNat) * 18446744073709551616 ^ s + wseg U p s := by
    rw [wseg, wseg, wseg, Nat.pow_succ, Nat.pow_succ]; grind
  have dr := wseg_lt D 0 s
  have ur := wseg_lt U p s
  have b1 := (wd D (s + 1)).isLt
  have b2 := (wd D s).isLt
  have b3 := (wd U (p + (s + 1))).isLt
  have b4 := (wd U (p + s)).isLt
  have hP : 0 < 18446744073709551616 ^ s := Nat.pow_pos (by decide)
  rw [eU, eD] at hU
  rw [eU, eD]
  generalize 18446744073709551616 ^ s = P at *
  generalize wseg D 0 s = d0 at *
  generalize wseg U p s = u0 at *
  generalize (wd D (s + 1)).toNat = dh at *
  generalize (wd D s).toNat = dl at *
  generalize (wd U (p + (s + 2))).toNat = w2 at *
  generalize (wd U (p + (s + 1))).toNat = w1 at *
  generalize (wd U (p + s)).toNat = w0 at *
  refine ⟨fun h => ?_, fun h qe re hqe hre => ?_⟩
  · exact knuth_top P dh dl d0 w2 w1 w0 u0 _ hP dr (by omega) b1 b2 hU (Nat.le_of_not_lt h) rfl
  · exact knuth_digit P dh dl d0 w2 w1 w0 u0 qe re _ hP dr ur (by omega) b1 b2 b3 b4 hU h hqe hre rfl
end Go.Proofs.YtfaocjcpnjmfiaaGreatDoor

namespace Go.Proofs.YtfaocjcpnjmfiaaGreatDoor
set_option linter.unusedVariables false
theorem wseg_set_above {l : List W64} {j k i : Nat} {v : W64} (h : j + k ≤ i) : wseg (l.set i v) j k = wseg l j k := by
  refine wseg_congr (fun t ht => ?_)
  by_cases hi : i < l.length
  · rw [wd_set _ _ _ _ hi, if_neg (by omega)]
  · rw [List.set_eq_of_length_le (by omega)]
/-- A word of a row that is shifted up by s. -/
def nrmW (l : List W64) (s : W64) (i : Nat) : W64 := if i = 0 then shlW (wd l 0) s else shlW (wd l i) s ||| shrW (wd l (i - 1)) (restW s)
theorem nrm_carry (x s : W64) (hs : s.toNat < 64) : (shrW x (restW s)).toNat = x.toNat * 2 ^ s.toNat / 2 ^ 64 := by
  have e := pow64 s.toNat (by omega)
  rw [shrW_toNat, restW_toNat s (by omega), e, Nat.mul_div_mul_right _ _ (Nat.two_pow_pos _)]
/-- The row shifted up: its words, and what leaves it above. -/
theorem nrm_seg (l m : List W64) (s : W64) (hs : s.toNat < 64) (n : Nat) (hm : ∀ i, i < n → wd m i = nrmW l s i) (hn : 0 < n) :
    wseg m 0 n + 18446744073709551616 ^ n * ((wd l (n - 1)).toNat * 2 ^ s.toNat / 2 ^ 64) = wseg l 0 n * 2 ^ s.toNat := by
  induction n with
  | zero => omega
  | succ n ih =>
    rw [wseg, wseg, Nat.zero_add, Nat.add_sub_cancel, hm n (Nat.lt_succ_self _)]
    by_cases h0 : n = 0
    · subst h0
      unfold nrmW
      rw [if_pos rfl, shlW_toNat]
      simp only [wseg, Nat.pow_zero, Nat.one_mul, Nat.zero_add, Nat.pow_one]
      have := Nat.mod_add_div ((wd l 0).toNat * 2 ^ s.toNat) (2 ^ 64)
      exact this
    · have h1 := ih (fun i hi => hm i (by omega)) (by omega)
      unfold nrmW
      rw [if_neg h0, shl_or _ _ _ hs]
      have h2 := Nat.mod_add_div ((wd l n).toNat * 2 ^ s.toNat) (2 ^ 64)
      have e3 : (18446744073709551616 : Nat) ^ (n + 1) = 18446744073709551616 ^ n * 18446744073709551616 := Nat.pow_succ _ _
      have e4 : (wseg l 0 n + 18446744073709551616 ^ n * (wd l n).toNat) * 2 ^ s.toNat = wseg l 0 n * 2 ^ s.toNat + 18446744073709551616 ^ n * ((wd l n).toNat * 2 ^ s.toNat) := by rw [Nat.add_mul, Nat.mul_assoc]
      have e5 : (wd l (n - 1)).toNat * 2 ^ s.toNat / 2 ^ 64 = (wd l (n - 1)).toNat * 2 ^ s.toNat / 2 ^ 64 := rfl
      rw [e3, e4, ← h1]
      generalize (wd l (n - 1)).toNat * 2 ^ s.toNat / 2 ^ 64 = c at *
      generalize (wd l n).toNat * 2 ^ s.toNat = X at *
      obtain ⟨a, ha⟩ : ∃ a, a = X % 2 ^ 64 := ⟨_, rfl⟩
      obtain ⟨b, hb⟩ : ∃ b, b = X / 2 ^ 64 := ⟨_, rfl⟩
      rw [← ha, ← hb] at h2 ⊢
      have e6 : X = a + 18446744073709551616 * b := h2.symm
      clear h2 ha hb e4
      subst e6
      generalize 18446744073709551616 ^ n = P at *
      have e1 : P * (a + c) = P * a + P * c := Nat.mul_add _ _ _
      have e2 : P * (a + 18446744073709551616 * b) = P * a + P * 18446744073709551616 * b := by rw [Nat.mul_add, Nat.mul_assoc]
      rw [e1, e2]
      omega
/-- A word of a row of n words that is shifted down by s. -/
def unnW (l : List W64) (s : W64) (n i : Nat) : W64 := if i + 1 = n then shrW (wd l i) s else shrW (wd l i) s ||| shlW (wd l (i + 1)) (restW s)
theorem unn_seg (l m : List W64) (s : W64) (hs : s.toNat < 64) (n : Nat) (hm : ∀ i, i < n → wd m i = unnW l s n i) : ∀ k i, i + k + 1 = n → wseg m i (k + 1) * 2 ^ s.toNat + (wd l i).toNat % 2 ^ s.toNat = wseg l i (k + 1) := by
  intro k
  induction k with
  | zero =>
    intro i hi
    simp only [wseg, Nat.pow_zero, Nat.one_mul, Nat.zero_add, Nat.add_zero]
    rw [hm i (by omega)]
    unfold unnW
    rw [if_pos (by omega), shrW_toNat]
    have := Nat.div_add_mod (wd l i).toNat (2 ^ s.toNat)
    rw [Nat.mul_comm] at this
    exact this
  | succ k ih =>
    intro i hi
    have h1 := ih (i + 1) (by omega)
    rw [wseg_head m, wseg_head l, hm i (by omega), ← h1]
    unfold unnW
    rw [if_neg (by omega), shr_or _ _ _ hs]
    have h2 := Nat.div_add_mod (wd l i).toNat (2 ^ s.toNat)
    have e := pow64 s.toNat (by omega)
    have e' : (18446744073709551616 : Nat) = 2 ^ (64 - s.toNat) * 2 ^ s.toNat := e
    generalize (wd l i).toNat / 2 ^ s.toNat = a at *
    generalize (wd l i).toNat % 2 ^ s.toNat = b at *
    generalize (wd l (i + 1)).toNat % 2 ^ s.toNat = c at *
    generalize wseg m (i + 1) (k + 1) = M at *
    rw [← h2, e']
    generalize 2 ^ (64 - s.toNat) = R at *
    generalize 2 ^ s.toNat = T at *
    grind
theorem unn_all (l m : List W64) (s : W64) (hs : s.toNat < 64) (n : Nat) (hn : 0 < n) (hm : ∀ i, i < n → wd m i = unnW l s n i) : wseg m 0 n = wseg l 0 n / 2 ^ s.toNat := by
  obtain ⟨k, rfl⟩ : ∃ k, n = k + 1 := ⟨n - 1, by omega⟩
  have h := unn_seg l m s hs (k + 1) hm k 0 (by omega)
  have hb := Nat.mod_lt (wd l 0).toNat (Nat.two_pow_pos s.toNat)
  rw [← h, Nat.mul_comm, Nat.mul_add_div (Nat.two_pow_pos _), Nat.div_eq_of_lt hb]
  exact (Nat.add_zero _).symm
/-- The divisor's shift. -/
def shD (x : W64) : W64 := BitVec.ofNat 64 (64 - Lib.bitLen x.toNat)
theorem shD_toNat (x : W64) : (shD x).toNat = 64 - Lib.bitLen x.toNat := by
  unfold shD; rw [BitVec.toNat_ofNat]; omega
theorem shD_lt (x : W64) (h : x ≠ 0#64) : (shD x).toNat < 64 := by
  have h0 : x.toNat ≠ 0 := fun e => h (BitVec.eq_of_toNat_eq e)
  have := (bl_shift x.toNat x.isLt h0).1
  rw [shD_toNat]; omega
/-- A divisor of n words, shifted up. -/
theorem div_nrm (l m : List W64) (n : Nat) (hn : 0 < n) (ht : wd l (n - 1) ≠ 0#64) (hm : ∀ i, i < n → wd m i = nrmW l (shD (wd l (n - 1))) i) :
    wseg m 0 n = wseg l 0 n * 2 ^ (shD (wd l (n - 1))).toNat ∧ 9223372036854775808 ≤ (wd m (n - 1)).toNat := by
  have h0 : (wd l (n - 1)).toNat ≠ 0 := fun e => ht (BitVec.eq_of_toNat_eq e)
  obtain ⟨b1, b2, b3⟩ := bl_shift (wd l (n - 1)).toNat (wd l (n - 1)).isLt h0
  have hs := shD_lt _ ht
  have h := nrm_seg l m _ hs n hm hn
  rw [shD_toNat] at *
  rw [Nat.div_eq_of_lt b3, Nat.mul_zero, Nat.add_zero] at h
  refine ⟨h, ?_⟩
  rw [hm (n - 1) (by omega)]
  unfold nrmW
  by_cases hz : n - 1 = 0
  · rw [if_pos hz, shlW_toNat, shD_toNat, ← hz, Nat.mod_eq_of_lt b3]
    exact b2
  · rw [if_neg hz, shl_or _ _ _ (by rw [shD_toNat]; omega), shD_toNat, Nat.mod_eq_of_lt b3]
    omega
/-- A dividend of k words, shifted up: k + 1 words. -/
theorem num_nrm (l m : List W64) (s : W64) (hs : s.toNat < 64) (k : Nat) (hk : 0 < k) (hm : ∀ i, i < k → wd m i = nrmW l s i) (ht : wd m k = shrW (wd l (k - 1)) (restW s)) :
    wseg m 0 (k + 1) = wseg l 0 k * 2 ^ s.toNat ∧ (wd m k).toNat < 2 ^ s.toNat := by
  have h := nrm_seg l m s hs k hm hk
  rw [wseg, Nat.zero_add, ht, nrm_carry _ _ hs]
  refine ⟨h, ?_⟩
  refine Nat.div_lt_of_lt_mul ?_
  exact Nat.mul_lt_mul_of_pos_right (wd l (k - 1)).isLt (Nat.two_pow_pos _)
/-- What a division of the shifted numbers tells of the numbers. -/
theorem div_back (T U D Q R : Nat) (hT : 0 < T) (h : U * T = Q * (D * T) + R) (hR : R < D * T) : Q = U / D ∧ R = U % D * T := by
  have hD : 0 < D := by
    rcases Nat.eq_zero_or_pos D with h0 | h0
    · subst h0; omega
    · exact h0
  have h1 : R = (U - Q * D) * T := by
    rw [Nat.sub_mul, h]
    have : Q * D * T = Q * (D * T) := Nat.mul_assoc _ _ _
    omega
  have h2 : Q * D ≤ U := by
    have : Q * D * T ≤ U * T := by rw [h, Nat.mul_assoc]; omega
    exact Nat.le_of_mul_le_mul_right this hT
  have h3 : U - Q * D < D := by
    rw [h1] at hR
    exact Nat.lt_of_mul_lt_mul_right hR
  obtain ⟨r, hr⟩ : ∃ r, r = U - Q * D := ⟨_, rfl⟩
  have h4 : U = D * Q + r := by rw [hr, Nat.mul_comm D]; omega
  rw [← hr] at h1 h3
  subst h1
  clear hr h2 h hR
  subst h4
  refine ⟨?_, ?_⟩
  · rw [Nat.mul_add_div hD, Nat.div_eq_of_lt h3]; exact (Nat.add_zero _).symm
  · rw [Nat.mul_add_mod, Nat.mod_eq_of_lt h3]
theorem wseg_len {l : List W64} {n m : Nat} (hn : n ≤ m) (h : ∀ i, n ≤ i → wd l i = 0#64) : wseg l 0 m = wseg l 0 n := by
  obtain ⟨k, rfl⟩ : ∃ k, m = n + k := ⟨m - n, by omega⟩
  have h1 : wseg l (0 + n) k = 0 := wseg_zero (fun t ht => h _ (by omega))
  rw [wseg_split, h1, Nat.mul_zero]
  rfl
theorem wseg_ge {l : List W64} {n : Nat} (h : wd l n ≠ 0#64) : 18446744073709551616 ^ n ≤ wseg l 0 (n + 1) := by
  have h0 : 1 ≤ (wd l n).toNat := by
    rcases Nat.eq_zero_or_pos (wd l n).toNat with h1 | h1
    · exact absurd (BitVec.eq_of_toNat_eq h1) h
    · exact h1
  rw [wseg, Nat.zero_add]
  have := Nat.mul_le_mul_left (18446744073709551616 ^ n) h0
  omega
/-- A dividend of fewer words than the divisor. -/
theorem few_words {X D : List W64} {e k a b : Nat} (he : ∀ i, e < i → wd X i = 0#64) (ha : e + 1 ≤ a) (hk : wd D k ≠ 0#64) (hb : k + 1 ≤ b) (hkz : ∀ i, k < i → wd D i = 0#64) (hek : e < k) : wseg X 0 a < wseg D 0 b := by
  rw [wseg_len (l := X) ha (fun i hi => he i (by omega)), wseg_len (l := D) hb (fun i hi => hkz i (by omega))]
  have h1 := wseg_lt X 0 (e + 1)
  have h2 := wseg_ge hk
  have h3 : 18446744073709551616 ^ (e + 1) ≤ 18446744073709551616 ^ k := Nat.pow_le_pow_right (by decide) hek
  omega
/-- The highest words of the shifted dividend are below the shifted divisor. -/
theorem kn_pre (X N M D : List W64) (T e k m n : Nat) (hm : m + n = e + 2) (hn : n = k + 1) (hN : wseg N 0 (e + 2) = wseg X 0 (e + 1) * T) (hM : wseg M 0 n = wseg D 0 n * T) (hT : 0 < T) (hk : wd D k ≠ 0#64) : wseg N m n < wseg M 0 n := by
  rcases Nat.lt_or_ge (wseg N m n) (wseg M 0 n) with h | h
  · exact h
  · exfalso
    have h1 := wseg_split N 0 m n
    rw [hm, Nat.zero_add, hN] at h1
    have h2 := wseg_ge hk
    rw [← hn] at h2
    have h3 := wseg_lt X 0 (e + 1)
    have h4 : 18446744073709551616 ^ m * (18446744073709551616 ^ k * T) ≤ 18446744073709551616 ^ m * wseg N m n := Nat.mul_le_mul_left _ (Nat.le_trans (Nat.mul_le_mul_right T h2) (by rw [← hM]; exact h))
    have h5 : 18446744073709551616 ^ m * (18446744073709551616 ^ k * T) = 18446744073709551616 ^ (e + 1) * T := by
      rw [← Nat.mul_assoc, ← Nat.pow_add, show m + k = e + 1 by omega]
    have h6 : wseg X 0 (e + 1) * T < 18446744073709551616 ^ (e + 1) * T := Nat.mul_lt_mul_of_pos_right h3 hT
    omega
end Go.Proofs.YtfaocjcpnjmfiaaGreatDoor

namespace Go.Proofs.YtfaocjcpnjmfiaaGreatDoor
open Go.RowKit
set_option linter.unusedVariables false
set_option linter.unusedSimpArgs false
/-- Words' quotients, halves; the walk does not look inside. -/
def quoW (x y : W64) : W64 := x / y
def remW (x y : W64) : W64 := x % y
def hiW (x : W64) : W64 := x >>> (32 : Nat)
def loW (x : W64) : W64 := x &&& 4294967295#64
theorem quoW_toNat (x y : W64) : (quoW x y).toNat = x.toNat / y.toNat := BitVec.toNat_udiv
theorem remW_toNat (x y : W64) : (remW x y).toNat = x.toNat % y.toNat := BitVec.toNat_umod
theorem hiW_toNat (x : W64) : (hiW x).toNat = x.toNat / 4294967296 := by unfold hiW; rw [BitVec.toNat_ushiftRight, Nat.shiftRight_eq_div_pow]
theorem loW_toNat (x : W64) : (loW x).toNat = x.toNat % 4294967296 := by unfold loW; rw [BitVec.toNat_and]; exact Nat.and_two_pow_sub_one_eq_mod x.toNat 32
theorem u64_quo (x y : W64) : (U x).tdiv (U y) = U (quoW x y) := by
  unfold U; rw [quoW_toNat, Int.tdiv_eq_ediv_of_nonneg (by omega)]; simp
theorem u64_quo' (x y : W64) : U x / U y = U (quoW x y) := by unfold U; rw [quoW_toNat]; simp
theorem u64_rem (x y : W64) : (U x).tmod (U y) = U (remW x y) := by
  unfold U; rw [remW_toNat, Int.tmod_eq_emod_of_nonneg (by omega)]; simp
theorem u64_rem' (x y : W64) : U x % U y = U (remW x y) := by unfold U; rw [remW_toNat]; simp
theorem u64_hi (x : W64) : U x / (4294967296 : Int) = U (hiW x) := by unfold U; rw [hiW_toNat]; simp
theorem u64_lo (x : W64) : bits BinOp.and IntKind.u64 (U x) (4294967295 : Int) = U (loW x) := u64_and x 4294967295#64
theorem u64_mulc (x : W64) : IntKind.u64.wrap (U x * 4294967296) = U (x * 4294967296#64) := u64_mul x 4294967296#64
theorem u64_mulc' (x : W64) : IntKind.u64.wrap (4294967296 * U x) = U (4294967296#64 * x) := u64_mul 4294967296#64 x
theorem u64_sub1 (x : W64) : IntKind.u64.wrap (U x - 1) = U (x - 1#64) := u64_sub x 1#64
theorem u64_add1 (x : W64) : IntKind.u64.wrap (U x + 1) = U (x + 1#64) := u64_add x 1#64
theorem u64_ge32b (x : W64) : (4294967296 ≤ U x) ↔ 4294967296#64 ≤ x := u64_le 4294967296#64 x
theorem u64_wrapUd (x : W64) : IntKind.u64.wrap (U x) = U x := by
  have h := u64_add x 0#64
  have e : U (0#64) = 0 := rfl
  rw [e, Int.add_zero, BitVec.add_zero] at h
  exact h
attribute [go_sem] u64_quo u64_quo' u64_rem u64_rem' u64_hi u64_lo u64_mulc u64_mulc' u64_sub1 u64_add1 u64_ge32b u64_wrapUd
/-- The digit of 32 bits at a place in the loop. -/
def HalfRel (u n y1 y0 : Nat) (q rh : W64) : Prop := u = q.toNat * y1 + rh.toNat ∧ (u * 4294967296 + n) / (y1 * 4294967296 + y0) ≤ q.toNat ∧ rh.toNat < 4294967296 ∧ q.toNat ≤ 4294967297
theorem half_begin (uW y1 y0 : W64) (n : Nat) (h1 : 2147483648 ≤ y1.toNat) (h1' : y1.toNat < 4294967296) (h0 : y0.toNat < 4294967296) (hn : n < 4294967296) (hu : uW.toNat < y1.toNat * 4294967296 + y0.toNat) :
    HalfRel uW.toNat n y1.toNat y0.toNat (quoW uW y1) (uW - quoW uW y1 * y1) := by
  have hq := quoW_toNat uW y1
  have hd := Nat.div_add_mod uW.toNat y1.toNat
  have hm := Nat.mod_lt uW.toNat (show 0 < y1.toNat by omega)
  have hqb : uW.toNat / y1.toNat ≤ 4294967297 := by
    apply Nat.le_of_lt_succ
    refine (Nat.div_lt_iff_lt_mul (by omega)).2 ?_
    show _ < 4294967298 * y1.toNat
    omega
  have hmul : (quoW uW y1 * y1).toNat = y1.toNat * (uW.toNat / y1.toNat) := by
    rw [BitVec.toNat_mul, hq, Nat.mul_comm]
    have := uW.isLt
    apply Nat.mod_eq_of_lt
    have : y1.toNat * (uW.toNat / y1.toNat) ≤ uW.toNat := Nat.mul_div_le _ _
    omega
  have hr : (uW - quoW uW y1 * y1).toNat = uW.toNat % y1.toNat := by
    rw [BitVec.toNat_sub_of_le (by rw [BitVec.le_def, hmul]; omega), hmul]
    omega
  refine ⟨?_, ?_, by rw [hr]; omega, by rw [hq]; exact hqb⟩
  · rw [hr, hq, Nat.mul_comm]; omega
  · rw [hq]; exact half_start _ _ _ _ (by omega) hn h0
/-- The loop's test, on words. -/
theorem half_more (u n : Nat) (nW y1 y0 q rh : W64) (hnW : nW.toNat = n) (h1 : 2147483648 ≤ y1.toNat) (h1' : y1.toNat < 4294967296) (h0 : y0.toNat < 4294967296) (hn : n < 4294967296) (hu : u < y1.toNat * 4294967296 + y0.toNat) (H : HalfRel u n y1.toNat y0.toNat q rh) :
    (4294967296#64 ≤ q ∨ 4294967296#64 * rh + nW < q * y0 → (u * 4294967296 + n) / (y1.toNat * 4294967296 + y0.toNat) < q.toNat) ∧ (¬ 4294967296#64 ≤ q → ¬ 4294967296#64 * rh + nW < q * y0 → q.toNat = (u * 4294967296 + n) / (y1.toNat * 4294967296 + y0.toNat)) := by
  obtain ⟨e, hge, hrh, hqb⟩ := H
  have hlt : (u * 4294967296 + n) / (y1.toNat * 4294967296 + y0.toNat) < 4294967296 := by
    refine (Nat.div_lt_iff_lt_mul (by omega)).2 ?_
    omega
  have hl : (4294967296#64 * rh + nW).toNat = 4294967296 * rh.toNat + n := by
    rw [BitVec.toNat_add, BitVec.toNat_mul, hnW]
    simp only [BitVec.toNat_ofNat]
    omega
  have hqy : q.toNat * y0.toNat < 18446744073709551616 := by
    have : q.toNat * y0.toNat ≤ 4294967297 * 4294967295 := Nat.mul_le_mul hqb (by omega)
    omega
  have hr : (q * y0).toNat = q.toNat * y0.toNat := by rw [BitVec.toNat_mul]; exact Nat.mod_eq_of_lt hqy
  rw [BitVec.lt_def, hl, hr, BitVec.le_def]
  simp only [BitVec.toNat_ofNat]
  refine ⟨fun h => ?_, fun h2 h => ?_⟩
  · rcases h with h | h
    · omega
    · exact half_less _ _ _ _ _ _ (by omega) e h
  · exact half_digit _ _ _ _ _ _ (by omega) e hge h
/-- One round: the digit less 1; the loop goes on, or the digit is right. -/
theorem half_round (u n : Nat) (y1 y0 q rh : W64) (h1 : 2147483648 ≤ y1.toNat) (h1' : y1.toNat < 4294967296) (h0 : y0.toNat < 4294967296) (hn : n < 4294967296) (H : HalfRel u n y1.toNat y0.toNat q rh)
    (hlt : (u * 4294967296 + n) / (y1.toNat * 4294967296 + y0.toNat) < q.toNat) :
    (¬ 4294967296#64 ≤ rh + y1 → HalfRel u n y1.toNat y0.toNat (q - 1#64) (rh + y1)) ∧ (4294967296#64 ≤ rh + y1 → (q - 1#64).toNat = (u * 4294967296 + n) / (y1.toNat * 4294967296 + y0.toNat)) ∧ (q - 1#64).toNat + 1 = q.toNat := by
  obtain ⟨e, hge, hrh, hqb⟩ := H
  have hpos : 0 < q.toNat := Nat.lt_of_le_of_lt (Nat.zero_le _) hlt
  have hle1 : (u * 4294967296 + n) / (y1.toNat * 4294967296 + y0.toNat) ≤ q.toNat - 1 := Nat.le_sub_one_of_lt hlt
  have hq1 : (q - 1#64).toNat = q.toNat - 1 := by
    rw [BitVec.toNat_sub_of_le (by rw [BitVec.le_def]; simp only [BitVec.toNat_ofNat]; omega)]
    rfl
  have hr1 : (rh + y1).toNat = rh.toNat + y1.toNat := by
    rw [BitVec.toNat_add]; apply Nat.mod_eq_of_lt; omega
  have e' : u = (q.toNat - 1) * y1.toNat + (rh.toNat + y1.toNat) := by
    obtain ⟨m, hm⟩ : ∃ m, q.toNat = m + 1 := ⟨q.toNat - 1, by omega⟩
    rw [hm, Nat.add_sub_cancel]
    rw [hm, Nat.add_mul, Nat.one_mul] at e
    omega
  rw [BitVec.le_def, hr1]
  simp only [BitVec.toNat_ofNat]
  refine ⟨fun h => ⟨by rw [hq1, hr1]; exact e', by rw [hq1]; exact hle1, by rw [hr1]; omega, by rw [hq1]; clear hle1 hge hlt; omega⟩, fun h => ?_, by rw [hq1]; clear hle1 hge hlt; omega⟩
  rw [hq1]
  refine half_digit _ _ _ _ _ _ (by omega) e' hle1 ?_
  clear hle1 hge hlt
  have : (q.toNat - 1) * y0.toNat ≤ 4294967296 * 4294967295 := Nat.mul_le_mul (by omega) (by omega)
  omega
end Go.Proofs.YtfaocjcpnjmfiaaGreatDoor

namespace Go.Proofs.YtfaocjcpnjmfiaaGreatDoor
open Go.RowKit
set_option linter.unusedVariables false
set_option linter.unusedSimpArgs false
theorem u64_shl0d (x : W64) (k : IntKind) : Op.shift .shl .u64 (U x) k 0 = pure (.int .u64 (U x)) := by
  have h := u64_shlU x 0#64 k
  have e : U (0#64) = 0 := rfl
  have e2 : shlW x 0#64 = x := by unfold shlW; simp
  rw [e, e2] at h
  exact h
theorem u64_shr0d (x : W64) (k : IntKind) : Op.shift .shr .u64 (U x) k 0 = pure (.int .u64 (U x)) := by
  have h := u64_shrU x 0#64 k
  have e : U (0#64) = 0 := rfl
  have e2 : shrW x 0#64 = x := by unfold shrW; simp
  rw [e, e2] at h
  exact h
theorem u64_div64d (x : W64) : U x / (18446744073709551616 : Int) = 0 := by have := U_lt x; have := U_nonneg x; omega
theorem u64_or0d (x : W64) : bits BinOp.or IntKind.u64 (U x) 0 = U x := by
  have h := u64_or x 0#64
  have e : U (0#64) = 0 := rfl
  rw [e, BitVec.or_zero] at h
  exact h
attribute [local go_sem ↓] u64_shl0d u64_shr0d
attribute [local go_sem] u64_div64d u64_or0d
theorem half_rest_nat (u n p r y : Nat) (h1 : p + r = u * 4294967296 + n) (h2 : r < y) (hy : y < 18446744073709551616) : (18446744073709551616 - p % 18446744073709551616 + (u * 4294967296 % 18446744073709551616 + n) % 18446744073709551616) % 18446744073709551616 = r := by omega
theorem half_rest (uW nW y q : W64) (hn : nW.toNat < 4294967296) (h : uW.toNat < y.toNat) (hq : q.toNat = (uW.toNat * 4294967296 + nW.toNat) / y.toNat) :
    (uW * 4294967296#64 + nW - q * y).toNat = (uW.toNat * 4294967296 + nW.toNat) % y.toNat := by
  have h1 := Nat.div_add_mod (uW.toNat * 4294967296 + nW.toNat) y.toNat
  have h2 := Nat.mod_lt (uW.toNat * 4294967296 + nW.toNat) (show 0 < y.toNat by omega)
  rw [← hq] at h1
  have h3 := half_rest_nat uW.toNat nW.toNat (y.toNat * q.toNat) _ y.toNat h1 h2 y.isLt
  rw [BitVec.toNat_sub, BitVec.toNat_add, BitVec.toNat_mul, BitVec.toNat_mul, Nat.mul_comm q.toNat]
  exact h3
theorem half_join (hi lo y q1 q0 u1 : Nat) (hq1 : q1 = (hi * 4294967296 + lo / 4294967296) / y) (hu : u1 = (hi * 4294967296 + lo / 4294967296) % y) (hq0 : q0 = (u1 * 4294967296 + lo % 4294967296) / y) (hy : 0 < y) (hlt : hi < y) (hlo : lo < 18446744073709551616) :
    q1 * 4294967296 + q0 = (hi * 18446744073709551616 + lo) / y ∧ q1 < 4294967296 ∧ q0 < 4294967296 := by
  have h1 := Nat.div_add_mod (hi * 4294967296 + lo / 4294967296) y
  rw [← hq1, ← hu] at h1
  have hul : u1 < y := by rw [hu]; exact Nat.mod_lt _ hy
  refine ⟨?_, ?_, ?_⟩
  · have e : hi * 18446744073709551616 + lo = y * (q1 * 4294967296) + (u1 * 4294967296 + lo % 4294967296) := by
      have : y * (q1 * 4294967296) = y * q1 * 4294967296 := by rw [Nat.mul_assoc]
      rw [this]
      generalize y * q1 = p at *
      omega
    rw [e, Nat.mul_add_div hy, ← hq0]
  · rw [hq1]; exact (Nat.div_lt_iff_lt_mul hy).2 (by omega)
  · rw [hq0]; exact (Nat.div_lt_iff_lt_mul hy).2 (by omega)
set_option maxHeartbeats 4000000 in
theorem zzDiv64_any (hi lo y : W64) (w : World) (hy : 9223372036854775808 ≤ y.toNat) (hlt : hi.toNat < y.toNat) :
    Calls Tryz.prog 69 #[V hi, V lo, V y] w fun e w' => ∃ q r : W64, e = .returned (.tuple #[V q, V r]) ∧ q.toNat = (hi.toNat * 18446744073709551616 + lo.toNat) / y.toNat ∧ ∃ n, w' = w.drewN n := by
  have hlz : 64 - Lib.bitLen y.toNat = 0 := by rw [bl_top y.toNat y.isLt hy]
  have LZ0 := leadingZeros64_any y
  rw [hlz] at LZ0
  have LZ := Lib.hid LZ0
  have hle : ¬ y ≤ hi := by rw [BitVec.le_def]; omega
  have hz : (y == 0#64) = false := by
    rw [Bool.eq_false_iff]; intro h; rw [beq_iff_eq] at h; subst h; simp at hy
  have hyz : ¬ U (hiW y) = 0 := by unfold U; intro h; have := hiW_toNat y; omega
  have Hy := Lib.hid hy
  have Hlt := Lib.hid hlt
  have B0 : 2147483648 ≤ (hiW y).toNat ∧ (hiW y).toNat < 4294967296 ∧ (loW y).toNat < 4294967296 ∧ (hiW lo).toNat < 4294967296 ∧ (loW lo).toNat < 4294967296 ∧ hi.toNat < (hiW y).toNat * 4294967296 + (loW y).toNat := by
    have := y.isLt; have := lo.isLt
    rw [hiW_toNat, loW_toNat, hiW_toNat, loW_toNat]
    omega
  have B := Lib.hid B0
  have ye : Hid ((hiW y).toNat * 4294967296 + (loW y).toNat = y.toNat) := by
    show _ = _
    rw [hiW_toNat, loW_toNat]; omega
  clear hlz LZ0 hy hlt B0
  cases h0 : (hi == 0#64)
  · go_enter Tryz.func69, Tryz.ntmps69
    go_upto_block 0 with (go_at_call 39; refine (LZ.out _).mono ?_; rintro e w' ⟨rfl, rfl⟩)
    go_cut [15] (fun s wx => ∃ q : W64, s = V q ∧ Hid (q.toNat = (hi.toNat * 4294967296 + (hiW lo).toNat) / ((hiW y).toNat * 4294967296 + (loW y).toNat)) ∧ wx = w)
    case first =>
      go_wp2_with fail
      go_loop [15, 16] (fun a b => ∃ q rh : W64, a = V q ∧ b = V rh ∧ HalfRel hi.toNat (hiW lo).toNat (hiW y).toNat (loW y).toNat q rh) (fun a _ => (intOf a).toNat)
      case atStart => exact ⟨_, _, rfl, rfl, half_begin hi (hiW y) (loW y) _ B.out.1 B.out.2.1 B.out.2.2.1 B.out.2.2.2.1 B.out.2.2.2.2.2⟩
      case round =>
        obtain ⟨q, rh, rfl, rfl, H⟩ := hrel
        have M := Lib.hid (half_more hi.toNat (hiW lo).toNat (hiW lo) (hiW y) (loW y) q rh rfl B.out.1 B.out.2.1 B.out.2.2.1 B.out.2.2.2.1 B.out.2.2.2.2.2 H)
        by_cases hm : 4294967296#64 ≤ q ∨ 4294967296#64 * rh + hiW lo < q * loW y
        · have R := Lib.hid (half_round hi.toNat (hiW lo).toNat (hiW y) (loW y) q rh B.out.1 B.out.2.1 B.out.2.2.1 B.out.2.2.2.1 H (M.out.1 hm))
          have hm2 : 4294967296#64 ≤ q ∨ (¬ 4294967296#64 ≤ q ∧ 4294967296#64 * rh + hiW lo < q * loW y) := by
            by_cases h : 4294967296#64 ≤ q
            · exact .inl h
            · exact .inr ⟨h, hm.resolve_left h⟩
          clear hm
          by_cases hb : 4294967296#64 ≤ rh + hiW y
          · have E := Lib.hid (R.out.2.1 hb)
            rcases hm2 with hm | ⟨hm1, hm⟩
            all_goals
              go_wp2
              go_meet
              exact ⟨_, rfl, E.out, rfl⟩
          · have E := Lib.hid (R.out.1 hb)
            rcases hm2 with hm | ⟨hm1, hm⟩
            all_goals
              go_wp2
              go_round
              case rel => exact ⟨_, _, rfl, rfl, E.out⟩
              case measure => have := R.out.2.2; simp only [intOf]; unfold U; omega
        · have hm1 : ¬ 4294967296#64 ≤ q := fun h => hm (.inl h)
          have hm2 : ¬ 4294967296#64 * rh + hiW lo < q * loW y := fun h => hm (.inr h)
          have E := Lib.hid (M.out.2 hm1 hm2)
          clear hm
          go_wp2
          go_meet
          exact ⟨_, rfl, E.out, rfl⟩
    case rest =>
      obtain ⟨q, rfl, E, rfl⟩ := hcut
      have R1 := Lib.hid (half_rest hi (hiW lo) y q B.out.2.2.2.1 Hlt.out (by rw [E.out, ye.out]))
      obtain ⟨uW, huW⟩ : ∃ uW, uW = hi * 4294967296#64 + hiW lo - q * y := ⟨_, rfl⟩
      have B2 : Hid (2147483648 ≤ (hiW y).toNat ∧ (hiW y).toNat < 4294967296 ∧ (loW y).toNat < 4294967296 ∧ (loW lo).toNat < 4294967296 ∧ True ∧ uW.toNat < (hiW y).toNat * 4294967296 + (loW y).toNat) := by
        refine ⟨B.out.1, B.out.2.1, B.out.2.2.1, B.out.2.2.2.2.1, trivial, ?_⟩
        rw [ye.out, huW, R1.out]
        exact Nat.mod_lt _ (by have := Hy.out; omega)
      have HU := Lib.hid huW
      have HU2 := huW.symm
      clear huW
      go_upto_block 2 with fail
      clear HU2
      go_cut [18] (fun s wx => ∃ q : W64, s = V q ∧ Hid (q.toNat = (uW.toNat * 4294967296 + (loW lo).toNat) / ((hiW y).toNat * 4294967296 + (loW y).toNat)) ∧ wx = wc)
      case first =>
        go_wp2_with fail
        go_loop [18, 16] (fun a b => ∃ q rh : W64, a = V q ∧ b = V rh ∧ HalfRel uW.toNat (loW lo).toNat (hiW y).toNat (loW y).toNat q rh) (fun a _ => (intOf a).toNat)
        case atStart => exact ⟨_, _, rfl, rfl, half_begin uW (hiW y) (loW y) _ B2.out.1 B2.out.2.1 B2.out.2.2.1 B2.out.2.2.2.1 B2.out.2.2.2.2.2⟩
        case round =>
          obtain ⟨q, rh, rfl, rfl, H⟩ := hrel
          have M := Lib.hid (half_more uW.toNat (loW lo).toNat (loW lo) (hiW y) (loW y) q rh rfl B2.out.1 B2.out.2.1 B2.out.2.2.1 B2.out.2.2.2.1 B2.out.2.2.2.2.2 H)
          by_cases hm : 4294967296#64 ≤ q ∨ 4294967296#64 * rh + loW lo < q * loW y
          · have R := Lib.hid (half_round uW.toNat (loW lo).toNat (hiW y) (loW y) q rh B2.out.1 B2.out.2.1 B2.out.2.2.1 B2.out.2.2.2.1 H (M.out.1 hm))
            have hm2 : 4294967296#64 ≤ q ∨ (¬ 4294967296#64 ≤ q ∧ 4294967296#64 * rh + loW lo < q * loW y) := by
              by_cases h : 4294967296#64 ≤ q
              · exact .inl h
              · exact .inr ⟨h, hm.resolve_left h⟩
            clear hm
            by_cases hb : 4294967296#64 ≤ rh + hiW y
            · have E := Lib.hid (R.out.2.1 hb)
              rcases hm2 with hm | ⟨hm1, hm⟩
              all_goals
                go_wp2
                go_meet
                exact ⟨_, rfl, E.out, rfl⟩
            · have E := Lib.hid (R.out.1 hb)
              rcases hm2 with hm | ⟨hm1, hm⟩
              all_goals
                go_wp2
                go_round
                case rel => exact ⟨_, _, rfl, rfl, E.out⟩
                case measure => have := R.out.2.2; simp only [intOf]; unfold U; omega
          · have hm1 : ¬ 4294967296#64 ≤ q := fun h => hm (.inl h)
            have hm2 : ¬ 4294967296#64 * rh + loW lo < q * loW y := fun h => hm (.inr h)
            have E := Lib.hid (M.out.2 hm1 hm2)
            clear hm
            go_wp2
            go_meet
            exact ⟨_, rfl, E.out, rfl⟩
      case rest =>
        obtain ⟨q0, rfl, E0, rfl⟩ := hcut
        go_wp2
        go_ret2
        refine ⟨_, _, rfl, ?_, 0, rfl⟩
        have hy0 : 0 < y.toNat := by have := Hy.out; omega
        have J := half_join hi.toNat lo.toNat y.toNat q.toNat q0.toNat uW.toNat (by rw [E.out, ye.out, hiW_toNat]) (by rw [HU.out, R1.out, hiW_toNat]) (by rw [E0.out, ye.out, loW_toNat]) hy0 Hlt.out lo.isLt
        rw [BitVec.toNat_add, BitVec.toNat_mul]
        simp only [BitVec.toNat_ofNat]
        rw [← J.1]
        omega
  · have e0 : hi.toNat = 0 := by rw [beq_iff_eq] at h0; subst h0; rfl
    have E0 := Lib.hid e0
    have hyU : ¬ U y = 0 := by unfold U; intro h; have := Hy.out; omega
    clear e0
    go_enter Tryz.func69, Tryz.ntmps69
    go_wp2
    go_quiet (fail)
    go_wp2
    go_ret2
    refine ⟨_, _, rfl, ?_, nq, rfl⟩
    rw [quoW_toNat, E0.out, Nat.zero_mul, Nat.zero_add]
/-- The reciprocal of a word whose highest bit is set. -/
def recW (d : W64) : W64 := BitVec.ofNat 64 ((340282366920938463463374607431768211455 - 18446744073709551616 * d.toNat) / d.toNat)
theorem recW_toNat (d : W64) (hd : 9223372036854775808 ≤ d.toNat) : (recW d).toNat = (340282366920938463463374607431768211455 - 18446744073709551616 * d.toNat) / d.toNat := by
  unfold recW
  rw [BitVec.toNat_ofNat]
  exact Nat.mod_eq_of_lt (recip_bounds d.toNat _ (by omega) d.isLt rfl).1
theorem recip_any (d : W64) (w : World) (hd : 9223372036854775808 ≤ d.toNat) : Calls Tryz.prog 55 #[V d] w fun e w' => e = .returned (V (recW d)) ∧ ∃ n, w' = w.drewN n := by
  have hz := zzDiv64_any (~~~d) 18446744073709551615#64 d w hd (by rw [BitVec.toNat_not]; omega)
  have hq : ∀ q : W64, q.toNat = ((~~~d).toNat * 18446744073709551616 + (18446744073709551615#64 : W64).toNat) / d.toNat → q = recW d := by
    intro q h
    apply BitVec.eq_of_toNat_eq
    rw [h, recW_toNat d hd, BitVec.toNat_not]
    congr 1
    have := d.isLt
    simp only [BitVec.toNat_ofNat]
    omega
  have HZ := Lib.hid hz
  have HQ := Lib.hid hq
  clear hz hq
  go_enter Tryz.func55, Tryz.ntmps55
  go_wp2_with fail
  refine HZ.out.mono ?_
  rintro e w1 ⟨q, r, rfl, hq, n, rfl⟩
  have hq' := Lib.hid (HQ.out q hq)
  clear hq
  go_wp2
  go_ret
  rw [hq'.out]
  exact ⟨rfl, n, rfl⟩
/-- What the code of udivrem2by1 has ahead of its tests: the candidate, its rest, the lower word. -/
def c21q (uh ul v : W64) : W64 := addS (mulH v uh) uh (addC (mulL v uh) ul false) + 1#64
def c21l (uh ul v : W64) : W64 := addS (mulL v uh) ul false
def c21r (uh ul d v : W64) : W64 := ul - c21q uh ul v * d
theorem c21_spec (uh ul d : W64) (hd : 9223372036854775808 ≤ d.toNat) (hu : uh.toNat < d.toNat) (Q R : W64) (hQ : Q.toNat = (uh.toNat * 18446744073709551616 + ul.toNat) / d.toNat) (hR : R.toNat = (uh.toNat * 18446744073709551616 + ul.toNat) % d.toNat) :
    let q := c21q uh ul (recW d); let l := c21l uh ul (recW d); let r := c21r uh ul d (recW d);
    (l < r → d ≤ r + d → q - 1#64 + 1#64 = Q ∧ r + d - d = R) ∧ (l < r → ¬ d ≤ r + d → q - 1#64 = Q ∧ r + d = R) ∧ (¬ l < r → d ≤ r → q + 1#64 = Q ∧ r - d = R) ∧ (¬ l < r → ¬ d ≤ r → q = Q ∧ r = R) := by
  intro q l r
  have hv := recW_toNat d hd
  obtain ⟨vb, vb2, vb3⟩ := recip_bounds d.toNat _ (by omega) d.isLt hv
  have hm := mul_spec (recW d) uh
  have h1 := add_spec' (mulL (recW d) uh) ul false
  have h2 := add_spec' (mulH (recW d) uh) uh (addC (mulL (recW d) uh) ul false)
  -- no carry leaves the upper word
  have hub : uh.toNat + 1 ≤ d.toNat := hu
  have htot : (18446744073709551616 + (recW d).toNat) * uh.toNat + ul.toNat < 340282366920938463463374607431768211456 := by
    have a1 : (18446744073709551616 + (recW d).toNat) * (uh.toNat + 1) ≤ (18446744073709551616 + (recW d).toNat) * d.toNat := Nat.mul_le_mul_left _ hub
    rw [Nat.mul_add, Nat.mul_one] at a1
    have := ul.isLt
    omega
  have hexp : (18446744073709551616 + (recW d).toNat) * uh.toNat = 18446744073709551616 * uh.toNat + (recW d).toNat * uh.toNat := Nat.add_mul _ _ _
  rw [hexp] at htot
  have ll : l.toNat < 18446744073709551616 := l.isLt
  have b1 := (addS (mulH (recW d) uh) uh (addC (mulL (recW d) uh) ul false)).isLt
  have c1 : (addC (mulH (recW d) uh) uh (addC (mulL (recW d) uh) ul false)).toNat ≤ 1 := by cases addC (mulH (recW d) uh) uh (addC (mulL (recW d) uh) ul false) <;> decide
  obtain ⟨q1, hq1⟩ : ∃ q1, q1 = (addS (mulH (recW d) uh) uh (addC (mulL (recW d) uh) ul false)).toNat := ⟨_, rfl⟩
  have hl : l.toNat = (addS (mulL (recW d) uh) ul false).toNat := rfl
  rw [← hq1] at h2 b1
  rw [← hl] at h1
  simp only [Bool.toNat_false] at h1
  have hsum : q1 * 18446744073709551616 + l.toNat = (18446744073709551616 + (recW d).toNat) * uh.toNat + ul.toNat := by
    rw [hexp]
    generalize (recW d).toNat * uh.toNat = p at *
    omega
  have hqe : q = BitVec.ofNat 64 (q1 + 1) := by
    apply BitVec.eq_of_toNat_eq
    show (addS (mulH (recW d) uh) uh (addC (mulL (recW d) uh) ul false) + 1#64).toNat = _
    rw [BitVec.toNat_add, ← hq1, BitVec.toNat_ofNat, BitVec.toNat_ofNat]
  have hrt : r.toNat = (18446744073709551616 - ((q1 + 1) % 18446744073709551616 * d.toNat) % 18446744073709551616 + ul.toNat) % 18446744073709551616 := by
    show (ul - q * d).toNat = _
    rw [hqe, BitVec.toNat_sub, BitVec.toNat_mul, BitVec.toNat_ofNat]
  have hrm : ((r.toNat : Int) - ((ul.toNat : Int) - ((q1 : Int) + 1) * (d.toNat : Int))) % 18446744073709551616 = 0 := by
    have e1 : ((q1 + 1) % 18446744073709551616 * d.toNat) % 18446744073709551616 = ((q1 + 1) * d.toNat) % 18446744073709551616 := by
      rw [Nat.mul_mod, Nat.mod_mod, ← Nat.mul_mod]
    rw [e1] at hrt
    have e2 : ((q1 : Int) + 1) * (d.toNat : Int) = (((q1 + 1) * d.toNat : Nat) : Int) := by simp
    rw [e2]
    generalize (q1 + 1) * d.toNat = p at *
    omega
  have M := mg_nat d.toNat (recW d).toNat uh.toNat ul.toNat q1 l.toNat r.toNat Q.toNat R.toNat (by omega) d.isLt hv hu ul.isLt hsum ll r.isLt hrm hQ hR
  obtain ⟨M0, M1, M2, M3, M4⟩ := M
  have erd : (r + d).toNat = (r.toNat + d.toNat) % 18446744073709551616 := BitVec.toNat_add _ _
  have dl := d.isLt
  have rl := r.isLt
  have Rl : R.toNat < d.toNat := by rw [hR]; exact Nat.mod_lt _ (by omega)
  refine ⟨fun a b => ?_, fun a b => ?_, fun a b => ?_, fun a b => ?_⟩
  · rw [BitVec.lt_def] at a
    rw [BitVec.le_def, erd] at b
    obtain ⟨k1, k2⟩ := M1 a b
    refine ⟨BitVec.eq_of_toNat_eq ?_, BitVec.eq_of_toNat_eq ?_⟩
    · rw [hqe, BitVec.sub_add_cancel, BitVec.toNat_ofNat, k1]; omega
    · rw [BitVec.toNat_sub_of_le (by rw [BitVec.le_def, erd]; exact b), erd, k2]
  · rw [BitVec.lt_def] at a
    rw [BitVec.le_def, erd] at b
    obtain ⟨k1, k2⟩ := M2 a b
    refine ⟨BitVec.eq_of_toNat_eq ?_, BitVec.eq_of_toNat_eq ?_⟩
    · rw [hqe, BitVec.toNat_sub, BitVec.toNat_ofNat, BitVec.toNat_ofNat, k1]; omega
    · rw [erd, k2]
  · rw [BitVec.lt_def] at a
    rw [BitVec.le_def] at b
    obtain ⟨k1, k2⟩ := M3 a b
    refine ⟨BitVec.eq_of_toNat_eq ?_, BitVec.eq_of_toNat_eq ?_⟩
    · rw [hqe, BitVec.toNat_add, BitVec.toNat_ofNat, BitVec.toNat_ofNat, k1]; omega
    · rw [BitVec.toNat_sub_of_le (by rw [BitVec.le_def]; exact b), k2]
  · rw [BitVec.lt_def] at a
    rw [BitVec.le_def] at b
    obtain ⟨k1, k2⟩ := M4 a b
    refine ⟨BitVec.eq_of_toNat_eq ?_, BitVec.eq_of_toNat_eq ?_⟩
    · rw [hqe, BitVec.toNat_ofNat, k1]; omega
    · rw [k2]
/-- The quotient and the rest of two words by one. -/
def q21 (uh ul d : W64) : W64 := BitVec.ofNat 64 ((uh.toNat * 18446744073709551616 + ul.toNat) / d.toNat)
def r21 (uh ul d : W64) : W64 := BitVec.ofNat 64 ((uh.toNat * 18446744073709551616 + ul.toNat) % d.toNat)
theorem q21_toNat (uh ul d : W64) (hu : uh.toNat < d.toNat) : (q21 uh ul d).toNat = (uh.toNat * 18446744073709551616 + ul.toNat) / d.toNat := by
  unfold q21
  rw [BitVec.toNat_ofNat]
  apply Nat.mod_eq_of_lt
  refine (Nat.div_lt_iff_lt_mul (by omega)).2 ?_
  have := ul.isLt
  show _ < 18446744073709551616 * d.toNat
  omega
theorem r21_toNat (uh ul d : W64) (hu : uh.toNat < d.toNat) : (r21 uh ul d).toNat = (uh.toNat * 18446744073709551616 + ul.toNat) % d.toNat := by
  unfold r21
  rw [BitVec.toNat_ofNat]
  apply Nat.mod_eq_of_lt
  exact Nat.lt_trans (Nat.mod_lt _ (by omega)) d.isLt
set_option maxHeartbeats 1000000 in
theorem udivrem2by1_any (uh ul d : W64) (w : World) (hd : 9223372036854775808 ≤ d.toNat) (hu : uh.toNat < d.toNat) :
    Calls Tryz.prog 56 #[V uh, V ul, V d, V (recW d)] w fun e w' => e = .returned (.tuple #[V (q21 uh ul d), V (r21 uh ul d)]) ∧ w = w' := by
  have S := c21_spec uh ul d hd hu (q21 uh ul d) (r21 uh ul d) (q21_toNat uh ul d hu) (r21_toNat uh ul d hu)
  simp only at S
  have HS := Lib.hid S
  clear S hd hu
  generalize recW d = v at *
  generalize q21 uh ul d = Q at *
  generalize r21 uh ul d = R at *
  by_cases h1 : c21l uh ul v < c21r uh ul d v
  · by_cases h2 : d ≤ c21r uh ul d v + d
    · have E := Lib.hid (HS.out.1 h1 h2)
      unfold c21r c21l c21q at h1
      unfold c21r c21q at h2
      go_enter Tryz.func56, Tryz.ntmps56
      go_wp2_with (go_at_call 57; refine (mul64_any _ _ _).mono ?_; rintro e w' ⟨rfl, rfl⟩)
      go_ret2
      rw [← E.out.1, ← E.out.2]
      exact ⟨rfl, rfl⟩
    · have E := Lib.hid (HS.out.2.1 h1 h2)
      unfold c21r c21l c21q at h1
      unfold c21r c21q at h2
      go_enter Tryz.func56, Tryz.ntmps56
      go_wp2_with (go_at_call 57; refine (mul64_any _ _ _).mono ?_; rintro e w' ⟨rfl, rfl⟩)
      go_ret2
      rw [← E.out.1, ← E.out.2]
      exact ⟨rfl, rfl⟩
  · by_cases h2 : d ≤ c21r uh ul d v
    · have E := Lib.hid (HS.out.2.2.1 h1 h2)
      unfold c21r c21l c21q at h1
      unfold c21r c21q at h2
      go_enter Tryz.func56, Tryz.ntmps56
      go_wp2_with (go_at_call 57; refine (mul64_any _ _ _).mono ?_; rintro e w' ⟨rfl, rfl⟩)
      go_ret2
      rw [← E.out.1, ← E.out.2]
      exact ⟨rfl, rfl⟩
    · have E := Lib.hid (HS.out.2.2.2 h1 h2)
      unfold c21r c21l c21q at h1
      unfold c21r c21q at h2
      go_enter Tryz.func56, Tryz.ntmps56
      go_wp2_with (go_at_call 57; refine (mul64_any _ _ _).mono ?_; rintro e w' ⟨rfl, rfl⟩)
      go_ret2
      rw [← E.out.1, ← E.out.2]
      exact ⟨rfl, rfl⟩
end Go.Proofs.YtfaocjcpnjmfiaaGreatDoor

namespace Go.Proofs.YtfaocjcpnjmfiaaGreatDoor
set_option maxRecDepth 20000
open Go.RowKit
set_option linter.unusedVariables false
set_option linter.unusedSimpArgs false
set_option maxRecDepth 20000
theorem sm_step (S S0 Y P x t y m br br' : Nat) (E : S + Y * m = S0 + P * br) (W : x + br' * 18446744073709551616 = t + y * m + br) : S + P * t + (Y + P * y) * m = S0 + P * x + P * 18446744073709551616 * br' := by
  have h : P * (x + br' * 18446744073709551616) = P * (t + y * m + br) := by rw [W]
  have e1 : P * (x + br' * 18446744073709551616) = P * x + P * 18446744073709551616 * br' := by grind
  have e2 : P * (t + y * m + br) = P * t + P * (y * m) + P * br := by grind
  have e3 : (Y + P * y) * m = Y * m + P * (y * m) := by grind
  rw [e1, e2] at h
  rw [e3]
  omega
theorem sm_round (L L' Y : List W64) (j k : Nat) (m br br' t : W64) (hk : j + k < L'.length) (hsame : ∀ i, j + k ≤ i → wd L' i = wd L i) (E : wseg L' j k + wseg Y 0 k * m.toNat = wseg L j k + 18446744073709551616 ^ k * br.toNat)
    (W : (wd L' (j + k)).toNat + br'.toNat * 18446744073709551616 = t.toNat + (wd Y k).toNat * m.toNat + br.toNat) :
    wseg (L'.set (j + k) t) j (k + 1) + wseg Y 0 (k + 1) * m.toNat = wseg L j (k + 1) + 18446744073709551616 ^ (k + 1) * br'.toNat := by
  have h1 : wseg (L'.set (j + k) t) j k = wseg L' j k := wseg_congr (fun i hi => by rw [wd_set _ _ _ _ hk, if_neg (by omega)])
  rw [wseg, wseg, wseg, h1, wd_set _ _ _ _ hk, if_pos rfl, Nat.zero_add, Nat.pow_succ, ← hsame (j + k) (Nat.le_refl _)]
  exact sm_step _ _ _ _ _ _ _ _ _ _ E W
theorem ad_round (L L' Y : List W64) (j k : Nat) (c c' : Bool) (t : W64) (hk : j + k < L'.length) (hsame : ∀ i, j + k ≤ i → wd L' i = wd L i) (E : wseg L' j k + 18446744073709551616 ^ k * c.toNat = wseg L j k + wseg Y 0 k)
    (W : (wd L' (j + k)).toNat + (wd Y k).toNat + c.toNat = t.toNat + 18446744073709551616 * c'.toNat) :
    wseg (L'.set (j + k) t) j (k + 1) + 18446744073709551616 ^ (k + 1) * c'.toNat = wseg L j (k + 1) + wseg Y 0 (k + 1) := by
  have h1 : wseg (L'.set (j + k) t) j k = wseg L' j k := wseg_congr (fun i hi => by rw [wd_set _ _ _ _ hk, if_neg (by omega)])
  rw [wseg, wseg, wseg, h1, wd_set _ _ _ _ hk, if_pos rfl, Nat.zero_add, Nat.pow_succ, ← hsame (j + k) (Nat.le_refl _)]
  generalize 18446744073709551616 ^ k = P at *
  have h : P * ((wd L' (j + k)).toNat + (wd Y k).toNat + c.toNat) = P * (t.toNat + 18446744073709551616 * c'.toNat) := by rw [W]
  have e1 : P * ((wd L' (j + k)).toNat + (wd Y k).toNat + c.toNat) = P * (wd L' (j + k)).toNat + P * (wd Y k).toNat + P * c.toNat := by grind
  have e2 : P * (t.toNat + 18446744073709551616 * c'.toNat) = P * t.toNat + P * 18446744073709551616 * c'.toNat := by grind
  rw [e1, e2] at h
  omega
/-- A row of which n words from j on have turned. -/
def Turned (L L' : List W64) (j n : Nat) : Prop := L'.length = L.length ∧ ∀ i, i < j ∨ j + n ≤ i → wd L' i = wd L i
theorem Turned.refl (L : List W64) (j n : Nat) : Turned L L j n := ⟨rfl, fun _ _ => rfl⟩
theorem Turned.set {L L' : List W64} {j k : Nat} (h : Turned L L' j k) (t : W64) (hk : j + k < L.length) : Turned L (L'.set (j + k) t) j (k + 1) :=
  ⟨by rw [List.length_set, h.1], fun i hi => by rw [wd_set _ _ _ _ (by rw [h.1]; exact hk), if_neg (by omega)]; exact h.2 i (by omega)⟩
def RetSubMul (L Y : List W64) (b o j : Nat) (m : W64) (w : World) (e : Ending) (w' : World) : Prop :=
  ∃ (L' : List W64) (br : W64), e = .returned (V br) ∧ Turned L L' j Y.length ∧ wseg L' j Y.length + wseg Y 0 Y.length * m.toNat = wseg L j Y.length + 18446744073709551616 ^ Y.length * br.toNat ∧ RowW w' b o L' ∧ But [b] w w'
set_option maxHeartbeats 2000000 in
theorem subMulTo_any (b o c p j lx cx cy : Nat) (L Y : List W64) (m : W64) (w : World) (hL : RowW w b o L) (hY : RowW w c p Y) (hne : c ≠ b) (hj : j + Y.length ≤ L.length) (hlx : Y.length ≤ lx) (hy : 0 < Y.length) (hbig : lx ≤ 1000000) :
    Calls Tryz.prog 58 #[.slice (some ⟨b, o + j, none⟩) lx cx, .slice (some ⟨c, p, none⟩) Y.length cy, V m] w (RetSubMul L Y b o j m w) := by
  have HL := Lib.hid hL
  have HY := Lib.hid hY
  obtain ⟨n, hn⟩ : ∃ n, n = Y.length := ⟨_, rfl⟩
  have hc0 := hL.cell (j + (n - 1)) (by omega)
  rw [← Nat.add_assoc] at hc0
  rw [← hn] at hj hlx hy
  have K : ∀ e w', (∃ (L' : List W64) (br : W64), e = Ending.returned (V br) ∧ Turned L L' j n ∧ wseg L' j n + wseg Y 0 n * m.toNat = wseg L j n + 18446744073709551616 ^ n * br.toNat ∧ RowW w' b o L' ∧ But [b] w w') → RetSubMul L Y b o j m w e w' := by
    intro e w' h
    rw [hn] at h
    exact h
  have HK := Lib.hid K
  rw [← hn]
  have Hn := Lib.hid hn
  clear hL hY hn K
  have g1 : (0 : Int) ≤ (n : Int) - 1 := by omega
  have g2 : ((n : Int) - 1).toNat = n - 1 := by omega
  have g3 : IntKind.i64.wrap ((n : Int) - 1) = (n : Int) - 1 := IntWalk.i64_in _ (by omega)
  go_enter Tryz.func58, Tryz.ntmps58
  go_wp2
  go_loopw [7, 8] (fun u t wr => ∃ (L' : List W64) (br : W64) (k : Nat), u = V br ∧ t = .int .i64 (k : Int) ∧ k ≤ n ∧ Hid (Turned L L' j k) ∧ Hid (wseg L' j k + wseg Y 0 k * m.toNat = wseg L j k + 18446744073709551616 ^ k * br.toNat) ∧ RowW wr b o L' ∧ Hid (RowW wr c p Y) ∧ But [b] w wr) (fun _ t _ => 1000002 - (intOf t).toNat)
  case atStart => exact ⟨L, 0#64, 0, rfl, rfl, by omega, Turned.refl _ _ _, (by show _ = _; simp [wseg]), HL.out, HY, But.refl _ _⟩
  case round =>
    obtain ⟨L', br, k, rfl, rfl, hk, HT, HE, hR, HY2, hB⟩ := hrel
    obtain ⟨wo, rfl⟩ : ∃ wo : World, wo = wr := ⟨_, rfl⟩
    by_cases hlt : k < n
    · have hll : j + k < L'.length := by rw [HT.out.1]; omega
      have hcx := hR.cell (j + k) hll
      have hfx := hR.free (j + k) hll
      rw [← Nat.add_assoc] at hcx hfx
      have hcy := HY2.out.cell k (by rw [← Hn.out]; exact hlt)
      have T2 := Lib.hid (HT.out.set (subD (subD (wd L' (j + k)) br false) (mulL (wd Y k) m) false) (by omega))
      have E2 := Lib.hid (sm_round L L' Y j k m br _ _ hll (fun i hi => HT.out.2 i (by omega)) HE.out (submul_word (wd L' (j + k)) (wd Y k) m br))
      have R2 := hR.set (j + k) (subD (subD (wd L' (j + k)) br false) (mulL (wd Y k) m) false) hll
      rw [← Nat.add_assoc] at R2
      have HR2 := Lib.hid R2
      have hd1 : decide (k < n) = true := decide_eq_true hlt
      have hd2 : decide (k < lx) = true := decide_eq_true (by omega)
      clear R2 hR
      go_wp2_with (go_at_call 57; refine (mul64_any _ _ _).mono ?_; rintro e w' ⟨rfl, rfl⟩)
      go_roundw
      case rel => exact ⟨_, _, k + 1, rfl, by go_num, by omega, T2, E2, HR2.out, HY2.out.far _ hne, hB.set (.inl (by simp)) _ _⟩
      case measure => simp [intOf] <;> omega
    · obtain rfl : k = n := by omega
      go_wp2
      go_ret
      exact HK.out _ _ ⟨L', br, rfl, HT.out, HE.out, hR, hB⟩
def RetAddTo (L Y : List W64) (b o j : Nat) (w : World) (e : Ending) (w' : World) : Prop :=
  ∃ (L' : List W64) (cr : Bool), e = .returned (V (bw cr)) ∧ Turned L L' j Y.length ∧ wseg L' j Y.length + 18446744073709551616 ^ Y.length * cr.toNat = wseg L j Y.length + wseg Y 0 Y.length ∧ RowW w' b o L' ∧ But [b] w w'
set_option maxHeartbeats 2000000 in
theorem addTo_any (b o c p j lx cx cy : Nat) (L Y : List W64) (w : World) (hL : RowW w b o L) (hY : RowW w c p Y) (hne : c ≠ b) (hj : j + Y.length ≤ L.length) (hlx : Y.length ≤ lx) (hy : 0 < Y.length) (hbig : lx ≤ 1000000) :
    Calls Tryz.prog 59 #[.slice (some ⟨b, o + j, none⟩) lx cx, .slice (some ⟨c, p, none⟩) Y.length cy] w (RetAddTo L Y b o j w) := by
  have HL := Lib.hid hL
  have HY := Lib.hid hY
  obtain ⟨n, hn⟩ : ∃ n, n = Y.length := ⟨_, rfl⟩
  have hc0 := hL.cell (j + (n - 1)) (by omega)
  rw [← Nat.add_assoc] at hc0
  rw [← hn] at hj hlx hy
  have K : ∀ e w', (∃ (L' : List W64) (cr : Bool), e = Ending.returned (V (bw cr)) ∧ Turned L L' j n ∧ wseg L' j n + 18446744073709551616 ^ n * cr.toNat = wseg L j n + wseg Y 0 n ∧ RowW w' b o L' ∧ But [b] w w') → RetAddTo L Y b o j w e w' := by
    intro e w' h
    rw [hn] at h
    exact h
  have HK := Lib.hid K
  rw [← hn]
  have Hn := Lib.hid hn
  clear hL hY hn K
  have g1 : (0 : Int) ≤ (n : Int) - 1 := by omega
  have g2 : ((n : Int) - 1).toNat = n - 1 := by omega
  have g3 : IntKind.i64.wrap ((n : Int) - 1) = (n : Int) - 1 := IntWalk.i64_in _ (by omega)
  go_enter Tryz.func59, Tryz.ntmps59
  go_wp2
  go_loopw [5, 6] (fun u t wr => ∃ (L' : List W64) (cr : Bool) (k : Nat), u = V (bw cr) ∧ t = .int .i64 (k : Int) ∧ k ≤ n ∧ Hid (Turned L L' j k) ∧ Hid (wseg L' j k + 18446744073709551616 ^ k * cr.toNat = wseg L j k + wseg Y 0 k) ∧ RowW wr b o L' ∧ Hid (RowW wr c p Y) ∧ But [b] w wr) (fun _ t _ => 1000002 - (intOf t).toNat)
  case atStart => exact ⟨L, false, 0, rfl, rfl, by omega, Turned.refl _ _ _, (by show _ = _; simp [wseg]), HL.out, HY, But.refl _ _⟩
  case round =>
    obtain ⟨L', cr, k, rfl, rfl, hk, HT, HE, hR, HY2, hB⟩ := hrel
    obtain ⟨wo, rfl⟩ : ∃ wo : World, wo = wr := ⟨_, rfl⟩
    by_cases hlt : k < n
    · have hll : j + k < L'.length := by rw [HT.out.1]; omega
      have hcx := hR.cell (j + k) hll
      have hfx := hR.free (j + k) hll
      rw [← Nat.add_assoc] at hcx hfx
      have hcy := HY2.out.cell k (by rw [← Hn.out]; exact hlt)
      have T2 := Lib.hid (HT.out.set (addS (wd L' (j + k)) (wd Y k) cr) (by omega))
      have E2 := Lib.hid (ad_round L L' Y j k cr _ _ hll (fun i hi => HT.out.2 i (by omega)) HE.out (add_spec' (wd L' (j + k)) (wd Y k) cr))
      have R2 := hR.set (j + k) (addS (wd L' (j + k)) (wd Y k) cr) hll
      rw [← Nat.add_assoc] at R2
      have HR2 := Lib.hid R2
      have hd1 : decide (k < n) = true := decide_eq_true hlt
      have hd2 : decide (k < lx) = true := decide_eq_true (by omega)
      clear R2 hR
      go_wp2
      go_region
      go_wp2
      go_roundw
      case rel => exact ⟨_, _, k + 1, rfl, by go_num, by omega, T2, E2, HR2.out.drew, (HY2.out.far _ hne).drew, (hB.set (.inl (by simp)) _ _).drew⟩
      case measure => simp [intOf] <;> omega
    · obtain rfl : k = n := by omega
      go_wp2
      go_ret
      exact HK.out _ _ ⟨L', cr, rfl, HT.out, HE.out, hR, hB⟩
end Go.Proofs.YtfaocjcpnjmfiaaGreatDoor

namespace Go.Proofs.YtfaocjcpnjmfiaaGreatDoor
set_option maxRecDepth 20000
open Go.RowKit
set_option linter.unusedVariables false
set_option linter.unusedSimpArgs false
set_option maxRecDepth 20000
def RetBy1 (Q U : List W64) (d : W64) (b o : Nat) (w : World) (e : Ending) (w' : World) : Prop :=
  ∃ (Q' : List W64) (r : W64), e = .returned (V r) ∧ Turned Q Q' 0 (U.length - 1) ∧ wseg U 0 U.length = wseg Q' 0 (U.length - 1) * d.toNat + r.toNat ∧ r.toNat < d.toNat ∧ RowW w' b o Q' ∧ But [b] w w'
set_option maxHeartbeats 2000000 in
theorem udivremBy1_any (b o c p lq cq cu : Nat) (Q U : List W64) (d : W64) (w : World) (hQ : RowW w b o Q) (hU : RowW w c p U) (hne : c ≠ b) (hu : 2 ≤ U.length) (hlq : U.length - 1 ≤ lq) (hlq2 : U.length - 1 ≤ Q.length) (hbig : lq ≤ 1000000) (hbig2 : U.length ≤ 1000000)
    (hd : 9223372036854775808 ≤ d.toNat) (ht : (wd U (U.length - 1)).toNat < d.toNat) :
    Calls Tryz.prog 40 #[.slice (some ⟨b, o, none⟩) lq cq, .slice (some ⟨c, p, none⟩) U.length cu, V d] w (RetBy1 Q U d b o w) := by
  have HQ := Lib.hid hQ
  have HU := Lib.hid hU
  obtain ⟨n, hn⟩ : ∃ n, n = U.length := ⟨_, rfl⟩
  have hc0 := hU.cell (n - 1) (by omega)
  have K : ∀ e w', (∃ (Q' : List W64) (r : W64), e = Ending.returned (V r) ∧ Turned Q Q' 0 (n - 1) ∧ wseg U 0 n = wseg Q' 0 (n - 1) * d.toNat + r.toNat ∧ r.toNat < d.toNat ∧ RowW w' b o Q' ∧ But [b] w w') → RetBy1 Q U d b o w e w' := by
    intro e w' h
    rw [hn] at h
    exact h
  have HK := Lib.hid K
  rw [← hn] at hu hlq hlq2 hbig2 ht
  rw [← hn]
  have Hn := Lib.hid hn
  have Hd := Lib.hid hd
  have Ht := Lib.hid ht
  clear hQ hU hn K hd ht
  have g1 : (0 : Int) ≤ (n : Int) - 1 := by omega
  have g2 : ((n : Int) - 1).toNat = n - 1 := by omega
  have g3 : IntKind.i64.wrap ((n : Int) - 1) = (n : Int) - 1 := IntWalk.i64_in _ (by omega)
  have g4 : IntKind.i64.wrap ((n : Int) - 2) = (n : Int) - 2 := IntWalk.i64_in _ (by omega)
  go_enter Tryz.func40, Tryz.ntmps40
  go_wp2_with fail
  refine (recip_any d _ Hd.out).mono ?_
  rintro e w1 ⟨rfl, n1, rfl⟩
  have hc1 : (w.drewN n1).cell? ⟨c, p + (n - 1), none⟩ = some (V (wd U (n - 1))) := hc0
  go_wp2
  go_loopw [6, 8] (fun u t wr => ∃ (Q' : List W64) (r : W64) (z : Int), u = V r ∧ t = .int .i64 z ∧ -1 ≤ z ∧ z < (n : Int) - 1 ∧ Hid (Q'.length = Q.length ∧ ∀ i : Nat, (i : Int) ≤ z ∨ n - 1 ≤ i → wd Q' i = wd Q i) ∧ Hid (wseg U 0 n = 18446744073709551616 ^ (z + 1).toNat * (wseg Q' (z + 1).toNat (n - 1 - (z + 1).toNat) * d.toNat + r.toNat) + wseg U 0 (z + 1).toNat) ∧ Hid (r.toNat < d.toNat) ∧ RowW wr b o Q' ∧ Hid (RowW wr c p U) ∧ But [b] w wr) (fun _ t _ => (intOf t + 1).toNat)
  case atStart =>
    refine ⟨Q, wd U (n - 1), (n : Int) - 2, rfl, rfl, by omega, by omega, ⟨rfl, fun _ _ => rfl⟩, ?_, Ht, HQ.out.drewN _, HU.out.drewN _, (But.refl _ _).drewN _⟩
    show _ = _
    rw [show ((n : Int) - 2 + 1).toNat = n - 1 by omega, Nat.sub_self]
    obtain ⟨m, rfl⟩ : ∃ m, n = m + 1 := ⟨n - 1, by omega⟩
    rw [Nat.add_sub_cancel, wseg, wseg, Nat.zero_add, Nat.zero_mul, Nat.zero_add]
    omega
  case round =>
    obtain ⟨Q', r, z, rfl, rfl, hz0, hz1, HQL, HE, HR, hR, HU2, hB⟩ := hrel
    obtain ⟨wo, rfl⟩ : ∃ wo : World, wo = wr := ⟨_, rfl⟩
    by_cases hz : 0 ≤ z
    · obtain ⟨k, rfl⟩ := Int.eq_ofNat_of_zero_le hz
      have hll : k < Q'.length := by rw [HQL.out.1]; omega
      have hcu := HU2.out.cell k (by rw [← Hn.out]; omega)
      have hcq := hR.cell k hll
      have hfq := hR.free k hll
      have R2 := Lib.hid (hR.set k (q21 r (wd U k) d) hll)
      have E2 : Hid (wseg U 0 n = 18446744073709551616 ^ k * (wseg (Q'.set k (q21 r (wd U k) d)) k (n - 1 - k) * d.toNat + (r21 r (wd U k) d).toNat) + wseg U 0 k) := by
        have h1 := HE.out
        rw [show ((k : Int) + 1).toNat = k + 1 by omega] at h1
        have h2 := by1_round U Q' k 0 d.toNat r.toNat (q21 r (wd U k) d).toNat (r21 r (wd U k) d).toNat _ _ h1 (q21_toNat _ _ _ HR.out) (r21_toNat _ _ _ HR.out)
        show _ = _
        rw [h2, show n - 1 - k = (n - 1 - (k + 1)) + 1 by omega, wseg_head, wd_set _ _ _ _ hll, if_pos rfl, wseg_congr (l := Q'.set k (q21 r (wd U k) d)) (m := Q') (j := k + 1) (i := k + 1) (fun i hi => by rw [wd_set _ _ _ _ hll, if_neg (by omega)])]
      have L2 : Hid ((Q'.set k (q21 r (wd U k) d)).length = Q.length ∧ ∀ i : Nat, (i : Int) ≤ (k : Int) - 1 ∨ n - 1 ≤ i → wd (Q'.set k (q21 r (wd U k) d)) i = wd Q i) := by
        refine ⟨by rw [List.length_set]; exact HQL.out.1, fun i hi => ?_⟩
        rw [wd_set _ _ _ _ hll, if_neg (by omega)]
        exact HQL.out.2 i (by omega)
      have HR2 : Hid ((r21 r (wd U k) d).toNat < d.toNat) := by
        show _ < _
        rw [r21_toNat _ _ _ HR.out]
        exact Nat.mod_lt _ (by have := Hd.out; omega)
      have B2 := Lib.hid (hB.set (.inl (by simp)) (o + k) (V (q21 r (wd U k) d)) (b := b))
      have d1 : decide (k < n) = true := decide_eq_true (by omega)
      have d2 : decide (k < lq) = true := decide_eq_true (by omega)
      clear hR hB HE
      go_wp2_with (go_at_call 56; refine (udivrem2by1_any _ _ _ _ Hd.out HR.out).mono ?_; rintro e w' ⟨rfl, rfl⟩)
      go_roundw
      case rel =>
        have ez : ((k : Int) - 1 + 1).toNat = k := by omega
        refine ⟨_, _, (k : Int) - 1, rfl, rfl, by omega, by omega, L2, ?_, HR2, R2.out, HU2.out.far _ hne, B2.out⟩
        rw [ez]; exact E2
      case measure => simp [intOf] <;> omega
    · obtain rfl : z = -1 := by omega
      go_wp2
      go_ret
      refine HK.out _ _ ⟨Q', r, rfl, ⟨HQL.out.1, fun i hi => HQL.out.2 i (by omega)⟩, ?_, HR.out, hR, hB⟩
      have h1 := HE.out
      rw [show ((-1 : Int) + 1).toNat = 0 by omega] at h1
      rw [h1, Nat.pow_zero, Nat.one_mul, wseg, Nat.add_zero, Nat.sub_zero]
/-- The code's test on words is the test on numbers. -/
theorem kn_test (re ph pl u0 qe dl : W64) (h : qe.toNat * dl.toNat = pl.toNat + 2 ^ 64 * ph.toNat) :
    (re < ph → re.toNat * 18446744073709551616 + u0.toNat < qe.toNat * dl.toNat) ∧ ((ph == re) = true → u0 < pl → re.toNat * 18446744073709551616 + u0.toNat < qe.toNat * dl.toNat) ∧
    ((ph == re) = true → ¬ u0 < pl → ¬ re.toNat * 18446744073709551616 + u0.toNat < qe.toNat * dl.toNat) ∧ (¬ re < ph → (ph == re) = false → ¬ re.toNat * 18446744073709551616 + u0.toNat < qe.toNat * dl.toNat) := by
  have a1 := u0.isLt; have a2 := pl.isLt
  rw [h, BitVec.lt_def, BitVec.lt_def]
  refine ⟨fun k => by omega, fun k1 k2 => ?_, fun k1 k2 => ?_, fun k1 k2 => ?_⟩
  · rw [beq_iff_eq] at k1; subst k1; omega
  · rw [beq_iff_eq] at k1; subst k1; omega
  · have : ph.toNat ≠ re.toNat := fun e => by rw [BitVec.eq_of_toNat_eq e] at k2; simp at k2
    omega
def RetKnuth (Q U D : List W64) (m n : Nat) (bq oq bu ou : Nat) (w : World) (e : Ending) (w' : World) : Prop :=
  ∃ (Q' U' : List W64), e = .returned (.tuple #[]) ∧ Turned Q Q' 0 m ∧ U'.length = U.length ∧ wseg U 0 (m + n) = wseg Q' 0 m * wseg D 0 n + wseg U' 0 n ∧ wseg U' 0 n < wseg D 0 n ∧ RowW w' bq oq Q' ∧ RowW w' bu ou U' ∧ But [bq, bu] w w'
set_option maxHeartbeats 8000000 in
theorem udivremKnuth_any (bq oq bu ou bd od lq cq cu cd lu m n : Nat) (Q U D : List W64) (w : World) (hQ : RowW w bq oq Q) (hU : RowW w bu ou U) (hD : RowW w bd od D) (nqu : bq ≠ bu) (ndq : bd ≠ bq) (ndu : bd ≠ bu)
    (hlu : lu = U.length) (hm : lu = m + n) (hn : n = D.length) (hn2 : 2 ≤ n) (hm1 : 1 ≤ m) (hlq : m ≤ lq) (hlq2 : m ≤ Q.length) (hcu : lu ≤ cu) (hbig : lq ≤ 1000000) (hbig2 : lu ≤ 1000000)
    (hd : 9223372036854775808 ≤ (wd D (n - 1)).toNat) (ht : wseg U m n < wseg D 0 n) :
    Calls Tryz.prog 41 #[.slice (some ⟨bq, oq, none⟩) lq cq, .slice (some ⟨bu, ou, none⟩) lu cu, .slice (some ⟨bd, od, none⟩) n cd] w (RetKnuth Q U D m n bq oq bu ou w) := by
  have HQ := Lib.hid hQ
  have HU := Lib.hid hU
  have HD := Lib.hid hD
  have hc1 := hD.cell (n - 1) (by omega)
  have hc2 := hD.cell (n - 2) (by omega)
  have Hn := Lib.hid hn
  have Hlu := Lib.hid hlu
  have Hm := Lib.hid hm
  have Hd := Lib.hid hd
  have Ht := Lib.hid ht
  have hnlu : n + 1 ≤ lu := by omega
  clear hQ hU hD hn hlu hm hd ht
  go_enter Tryz.func41, Tryz.ntmps41
  go_wp2_with fail
  refine (recip_any (wd D (n - 1)) _ Hd.out).mono ?_
  rintro e w1 ⟨rfl, n1, rfl⟩
  go_wp2
  go_loopw [9] (fun t wr => ∃ (Q' U' : List W64) (z : Int), t = .int .i64 z ∧ -1 ≤ z ∧ z < (lu : Int) - (n : Int) ∧ Hid (Q'.length = Q.length ∧ ∀ i : Nat, (i : Int) ≤ z ∨ m ≤ i → wd Q' i = wd Q i) ∧ Hid (U'.length = U.length) ∧ Hid (wseg U 0 (m + n) = 18446744073709551616 ^ (z + 1).toNat * wseg Q' (z + 1).toNat (m - (z + 1).toNat) * wseg D 0 n + wseg U' 0 ((z + 1).toNat + n)) ∧ Hid (wseg U' (z + 1).toNat n < wseg D 0 n) ∧ RowW wr bq oq Q' ∧ RowW wr bu ou U' ∧ Hid (RowW wr bd od D) ∧ But [bq, bu] w wr) (fun t _ => (intOf t + 1).toNat)
  case atStart =>
    have ez : ((lu : Int) - (n : Int) - 1 + 1).toNat = m := by have := Hm.out; omega
    refine ⟨Q, U, (lu : Int) - (n : Int) - 1, rfl, by omega, by omega, ⟨rfl, fun _ _ => rfl⟩, rfl, ?_, ?_, HQ.out.drewN _, HU.out.drewN _, HD.out.drewN _, (But.refl _ _).drewN _⟩
    · show _ = _
      rw [ez, Nat.sub_self, wseg, Nat.mul_zero, Nat.zero_mul, Nat.zero_add]
    · show _ < _
      rw [ez]; exact Ht.out
  case round =>
    obtain ⟨Q', U', z, rfl, hz0, hz1, HQL, HUL, HE, HR, hRQ, hRU, HRD, hB⟩ := hrel
    obtain ⟨wo, rfl⟩ : ∃ wo : World, wo = wr := ⟨_, rfl⟩
    by_cases hz : 0 ≤ z
    · obtain ⟨p, rfl⟩ := Int.eq_ofNat_of_zero_le hz
      have hpm : p < m := by have := Hm.out; omega
      have hplu : p + n < lu := by have := Hm.out; omega
      have e1 : ((p : Int) + 1).toNat = p + 1 := by omega
      rw [e1] at HE HR
      clear e1
      have hu2 := hRU.cell (p + n) (by rw [HUL.out, ← Hlu.out]; omega)
      have hu1 := hRU.cell (p + n - 1) (by rw [HUL.out, ← Hlu.out]; omega)
      have hu0 := hRU.cell (p + n - 2) (by rw [HUL.out, ← Hlu.out]; omega)
      have XB : Hid (wseg U' p (n + 1) < wseg D 0 n * 18446744073709551616) := by
        show _ < _
        rw [wseg_head]
        have := HR.out
        have := (wd U' p).isLt
        omega
      have DG := Lib.hid (kn_digit U' D p n hn2 Hd.out XB.out)
      obtain ⟨X, hX⟩ : ∃ X, X = wseg U' p (n + 1) := ⟨_, rfl⟩
      obtain ⟨Dv, hDv⟩ : ∃ Dv, Dv = wseg D 0 n := ⟨_, rfl⟩
      rw [← hX, ← hDv] at DG
      have HX := Lib.hid hX
      have HDv := Lib.hid hDv
      clear hX hDv
      go_upto_if 68 with (fail)
      go_cut [13, 14, 15, 16] (fun s s1 s2 s3 wx => ∃ qh : W64, s = V qh ∧ Hid (X / Dv ≤ qh.toNat ∧ qh.toNat ≤ X / Dv + 1) ∧ wx = wo)
      case first =>
        by_cases hov : wd U' (p + n) < wd D (n - 1)
        · have hov' : ¬ wd D (n - 1) ≤ wd U' (p + n) := by rw [BitVec.le_def]; rw [BitVec.lt_def] at hov; omega
          have hovn : (wd U' (p + n)).toNat < (wd D (n - 1)).toNat := BitVec.lt_def.1 hov
          have KT := Lib.hid (kn_test (r21 (wd U' (p + n)) (wd U' (p + n - 1)) (wd D (n - 1))) (mulH (q21 (wd U' (p + n)) (wd U' (p + n - 1)) (wd D (n - 1))) (wd D (n - 2))) (mulL (q21 (wd U' (p + n)) (wd U' (p + n - 1)) (wd D (n - 1))) (wd D (n - 2))) (wd U' (p + n - 2)) _ _ (mul_spec _ _))
          have DG2 := Lib.hid (DG.out.2 hovn _ _ (q21_toNat _ _ _ hovn) (r21_toNat _ _ _ hovn))
          have UD : Hid (∀ w, Calls Tryz.prog 56 #[V (wd U' (p + n)), V (wd U' (p + n - 1)), V (wd D (n - 1)), V (recW (wd D (n - 1)))] w fun e w' => e = .returned (.tuple #[V (q21 (wd U' (p + n)) (wd U' (p + n - 1)) (wd D (n - 1))), V (r21 (wd U' (p + n)) (wd U' (p + n - 1)) (wd D (n - 1)))]) ∧ w = w') := fun w => udivrem2by1_any _ _ _ w Hd.out hovn
          have HOV := Lib.hid hov
          clear hov hovn
          generalize q21 (wd U' (p + n)) (wd U' (p + n - 1)) (wd D (n - 1)) = qe at *
          generalize r21 (wd U' (p + n)) (wd U' (p + n - 1)) (wd D (n - 1)) = re at *
          by_cases t1 : re < mulH qe (wd D (n - 2))
          · have G := Lib.hid (DG2.out.1 (KT.out.1 t1))
            go_wp2_with (first | (go_at_call 56; refine (UD.out _).mono ?_; rintro e w' ⟨rfl, rfl⟩) | (go_at_call 57; refine (mul64_any _ _ _).mono ?_; rintro e w' ⟨rfl, rfl⟩))
            go_meet
            refine ⟨_, rfl, ?_, rfl⟩
            have g := G.out
            show _ ∧ _
            rw [BitVec.toNat_sub_of_le (by rw [BitVec.le_def]; simp only [BitVec.toNat_ofNat]; omega)]
            exact ⟨g.1, g.2.1⟩
          · cases t2 : (mulH qe (wd D (n - 2)) == re)
            · have G := Lib.hid (DG2.out.2 (KT.out.2.2.2 t1 t2))
              go_wp2_with (first | (go_at_call 56; refine (UD.out _).mono ?_; rintro e w' ⟨rfl, rfl⟩) | (go_at_call 57; refine (mul64_any _ _ _).mono ?_; rintro e w' ⟨rfl, rfl⟩))
              go_meet
              exact ⟨_, rfl, G.out, rfl⟩
            · by_cases t3 : wd U' (p + n - 2) < mulL qe (wd D (n - 2))
              · have G := Lib.hid (DG2.out.1 (KT.out.2.1 t2 t3))
                go_wp2_with (first | (go_at_call 56; refine (UD.out _).mono ?_; rintro e w' ⟨rfl, rfl⟩) | (go_at_call 57; refine (mul64_any _ _ _).mono ?_; rintro e w' ⟨rfl, rfl⟩))
                go_meet
                refine ⟨_, rfl, ?_, rfl⟩
                have g := G.out
                show _ ∧ _
                rw [BitVec.toNat_sub_of_le (by rw [BitVec.le_def]; simp only [BitVec.toNat_ofNat]; omega)]
                exact ⟨g.1, g.2.1⟩
              · have G := Lib.hid (DG2.out.2 (KT.out.2.2.1 t2 t3))
                go_wp2_with (first | (go_at_call 56; refine (UD.out _).mono ?_; rintro e w' ⟨rfl, rfl⟩) | (go_at_call 57; refine (mul64_any _ _ _).mono ?_; rintro e w' ⟨rfl, rfl⟩))
                go_meet
                exact ⟨_, rfl, G.out, rfl⟩
        · have hov' : wd D (n - 1) ≤ wd U' (p + n) := by rw [BitVec.le_def]; rw [BitVec.lt_def] at hov; omega
          have G := Lib.hid (DG.out.1 (fun h => hov (BitVec.lt_def.2 h)))
          clear hov
          go_wp2
          go_meet
          exact ⟨18446744073709551615#64, rfl, G.out, rfl⟩
      case rest =>
        obtain ⟨qh, rfl, HG, rfl⟩ := hcut
        have SM : Hid (∀ w, RowW w bu ou U' → RowW w bd od D → Calls Tryz.prog 58 #[.slice (some ⟨bu, ou + p, none⟩) (lu - p) (cu - p), .slice (some ⟨bd, od, none⟩) n cd, V qh] w (RetSubMul U' D bu ou p qh w)) := fun w h1 h2 => by
          have h := subMulTo_any bu ou bd od p (lu - p) (cu - p) cd U' D qh w h1 h2 ndu (by rw [← Hn.out, HUL.out, ← Hlu.out]; omega) (by rw [← Hn.out]; omega) (by rw [← Hn.out]; omega) (by omega)
          rw [← Hn.out] at h
          exact h
        go_wp2_with fail
        refine (SM.out _ hRU HRD.out).mono ?_
        rintro e w2 ⟨L', br, rfl, HT0, HS0, hRL, hB2⟩
        rw [← Hn.out] at HT0 HS0
        have HT := Lib.hid HT0
        have HS := Lib.hid HS0
        have hRQ2 := Lib.hid (hRQ.but hB2 (by simp; exact nqu))
        have hRD2 := Lib.hid (HRD.out.but hB2 (by simp; exact ndu))
        have hBB := Lib.hid (hB.trans (hB2.mono (T := [bq, bu]) (fun k _ hk => by simp at hk; simp [hk])))
        have hLl : p + n < L'.length := by rw [HT.out.1, HUL.out, ← Hlu.out]; omega
        have hl2 := hRL.cell (p + n) hLl
        have fl2 := hRL.free (p + n) hLl
        have hRL2 := Lib.hid (hRL.set (p + n) (wd U' (p + n) - br) hLl)
        have hlx := wseg_lt L' p n
        have hux := wseg_lt U' p n
        have hdx := wseg_lt D 0 n
        have HX1 : X = wseg U' p n + 18446744073709551616 ^ n * (wd U' (p + n)).toNat := by rw [HX.out, wseg]
        have HX2 := (Nat.div_add_mod X Dv).symm
        have HX3 := Nat.mod_lt X (show 0 < Dv by rw [HDv.out]; exact Nat.lt_of_le_of_lt (Nat.zero_le _) HR.out)
        have HG1 := HG.out
        rw [← HDv.out] at HS0 hdx
        obtain ⟨q, hq⟩ : ∃ q, q = X / Dv := ⟨_, rfl⟩
        obtain ⟨r, hr⟩ : ∃ r, r = X % Dv := ⟨_, rfl⟩
        rw [← hq] at HX2 HG1
        rw [← hr] at HX2 HX3
        have hQl : p < Q'.length := by rw [HQL.out.1]; omega
        have hq2 := hRQ2.out.cell p hQl
        have fq2 := hRQ2.out.free p hQl
        have d1 : decide (p < lq) = true := decide_eq_true (by omega)
        have d2 : decide (p + n < lu) = true := decide_eq_true (by omega)
        have hsub : ∀ a : W64, a = a := fun _ => rfl
        clear hsub
        rcases (by omega : qh.toNat = q ∨ qh.toNat = q + 1) with h | h
        · obtain ⟨kb, kr⟩ := kn_right _ X _ _ Dv q r qh.toNat br.toNat _ HX1 HX2 HX3 hdx hlx hux HS0 h
          have hnlt : ¬ wd U' (p + n) < br := by rw [BitVec.lt_def]; omega
          have ez : ((p : Int) - 1 + 1).toNat = p := by omega
          have LQ : Hid ((Q'.set p qh).length = Q.length ∧ ∀ i : Nat, (i : Int) ≤ (p : Int) - 1 ∨ m ≤ i → wd (Q'.set p qh) i = wd Q i) := by
            refine ⟨by rw [List.length_set]; exact HQL.out.1, fun i hi => ?_⟩
            rw [wd_set _ _ _ _ hQl, if_neg (by omega)]
            exact HQL.out.2 i (by omega)
          have UL2 : Hid ((L'.set (p + n) (wd U' (p + n) - br)).length = U.length) := by show _ = _; rw [List.length_set, HT.out.1, HUL.out]
          have hseg : wseg (L'.set (p + n) (wd U' (p + n) - br)) p n = r := by
            rw [wseg_congr (l := (L'.set (p + n) (wd U' (p + n) - br))) (m := L') (j := p) (i := p) (fun i hi => by rw [wd_set _ _ _ _ hLl, if_neg (by omega)])]
            exact kr
          have E2 := Lib.hid (kn_step U U' (L'.set (p + n) (wd U' (p + n) - br)) Q' (Q'.set p qh) p m n Dv q r hpm (by rw [HDv.out]; exact HE.out) (by rw [← HX.out]; exact HX2) hseg (fun i hi => by rw [wd_set _ _ _ _ hLl, if_neg (by omega)]; exact HT.out.2 i (by omega)) (by rw [wd_set _ _ _ _ hQl, if_pos rfl]; exact h) (fun i hi => by rw [wd_set _ _ _ _ hQl, if_neg (by omega)]))
          have R2 : Hid (wseg (L'.set (p + n) (wd U' (p + n) - br)) p n < wseg D 0 n) := by show _ < _; rw [hseg, ← HDv.out]; exact HX3
          have RQ2 := Lib.hid ((hRQ2.out.far (c := bu) (p := ou + (p + n)) (V (wd U' (p + n) - br)) nqu).set p qh hQl)
          have RU2 := Lib.hid (hRL2.out.far (c := bq) (p := oq + p) (V qh) (fun e => nqu e.symm))
          have RD2 := Lib.hid ((hRD2.out.far (c := bu) (p := ou + (p + n)) (V (wd U' (p + n) - br)) ndu).far (c := bq) (p := oq + p) (V qh) ndq)
          have BB2 := Lib.hid ((hBB.out.set (b := bu) (.inl (by simp)) (ou + (p + n)) (V (wd U' (p + n) - br))).set (b := bq) (.inl (by simp)) (oq + p) (V qh))
          have HQ1 := Lib.hid hq
          have HR1 := Lib.hid hr
          clear hq hr HX1 HX2 HX3 HS0 hdx hlx hux HG1 kb kr hseg h ez hB2 HT0 hRQ hRL
          go_wp2
          go_roundw
          case rel =>
            have ez : ((p : Int) - 1 + 1).toNat = p := by omega
            refine ⟨_, _, (p : Int) - 1, rfl, by omega, by omega, LQ, UL2, ?_, ?_, RQ2.out, RU2.out, RD2, BB2.out⟩
            · rw [ez]; rw [HDv.out] at E2; exact E2
            · rw [ez]; exact R2
          case measure => simp [intOf] <;> omega
        · obtain ⟨kb, kl⟩ := kn_over _ X _ _ Dv q r qh.toNat br.toNat _ HX1 HX2 HX3 hdx hlx hux HS0 h
          have hlt2 : wd U' (p + n) < br := by rw [BitVec.lt_def]; omega
          have hq1 : (qh - 1#64).toNat = q := by
            rw [BitVec.toNat_sub_of_le (by rw [BitVec.le_def]; simp only [BitVec.toNat_ofNat]; omega)]
            simp only [BitVec.toNat_ofNat]
            omega
          have hS1 : wseg (L'.set (p + n) (wd U' (p + n) - br)) p n = wseg L' p n := wseg_congr (fun i hi => by rw [wd_set _ _ _ _ hLl, if_neg (by omega)])
          have AD : Hid (∀ w, RowW w bu ou (L'.set (p + n) (wd U' (p + n) - br)) → RowW w bd od D → Calls Tryz.prog 59 #[.slice (some ⟨bu, ou + p, none⟩) (lu - p) (cu - p), .slice (some ⟨bd, od, none⟩) n cd] w (RetAddTo (L'.set (p + n) (wd U' (p + n) - br)) D bu ou p w)) := fun w h1 h2 => by
            have h := addTo_any bu ou bd od p (lu - p) (cu - p) cd _ D w h1 h2 ndu (by rw [← Hn.out, List.length_set, HT.out.1, HUL.out, ← Hlu.out]; omega) (by rw [← Hn.out]; omega) (by rw [← Hn.out]; omega) (by omega)
            rw [← Hn.out] at h
            exact h
          have HQ1 := Lib.hid hq
          have HR1 := Lib.hid hr
          have HKL := Lib.hid kl
          have HX3' := Lib.hid HX3
          have HX2' := Lib.hid HX2
          have hdx' := Lib.hid hdx
          have hq1' := Lib.hid hq1
          have hS1' := Lib.hid hS1
          clear hq hr HX1 HX2 HX3 HS0 hdx hlx hux HG1 kb kl h hB2 HT0 hRQ hRL hq1 hS1 hq2 fq2
          go_wp2_with fail
          refine (AD.out _ hRL2.out (hRD2.out.far _ ndu)).mono ?_
          rintro e w4 ⟨L2, cr, rfl, HT20, HS2, hRL3, hB3⟩
          rw [← Hn.out] at HT20 HS2
          have HT2 := Lib.hid HT20
          have hL2 : p + n < L2.length := by rw [HT2.out.1, List.length_set]; exact hLl
          have hl3 := hRL3.cell (p + n) hL2
          have fl3 := hRL3.free (p + n) hL2
          have HX3 := HX3'.out
          have HX2 := HX2'.out
          have hq1 := hq1'.out
          have kb2 := kn_back (18446744073709551616 ^ n) r Dv (wseg L' p n) (wseg L2 p n) cr.toNat HKL.out (by rw [HS2, hS1'.out, HDv.out]) (by cases cr <;> decide) (Nat.lt_trans HX3 hdx'.out) (wseg_lt _ _ _)
          have RQ3 := Lib.hid ((hRQ2.out.far (c := bu) (p := ou + (p + n)) (V (wd U' (p + n) - br)) nqu).but hB3 (by simp; exact nqu))
          have hq3 := RQ3.out.cell p hQl
          have fq3 := RQ3.out.free p hQl
          have ez : ((p : Int) - 1 + 1).toNat = p := by omega
          have LQ : Hid ((Q'.set p (qh - 1#64)).length = Q.length ∧ ∀ i : Nat, (i : Int) ≤ (p : Int) - 1 ∨ m ≤ i → wd (Q'.set p (qh - 1#64)) i = wd Q i) := by
            refine ⟨by rw [List.length_set]; exact HQL.out.1, fun i hi => ?_⟩
            rw [wd_set _ _ _ _ hQl, if_neg (by omega)]
            exact HQL.out.2 i (by omega)
          have UL2 : Hid ((L2.set (p + n) (wd L2 (p + n) + bw cr)).length = U.length) := by show _ = _; rw [List.length_set, HT2.out.1, List.length_set, HT.out.1, HUL.out]
          have hseg : wseg (L2.set (p + n) (wd L2 (p + n) + bw cr)) p n = r := by
            rw [wseg_congr (l := (L2.set (p + n) (wd L2 (p + n) + bw cr))) (m := L2) (j := p) (i := p) (fun i hi => by rw [wd_set _ _ _ _ hL2, if_neg (by omega)])]
            exact kb2.2
          have E2 := Lib.hid (kn_step U U' (L2.set (p + n) (wd L2 (p + n) + bw cr)) Q' (Q'.set p (qh - 1#64)) p m n Dv q r hpm (by rw [HDv.out]; exact HE.out) (by rw [← HX.out]; exact HX2) hseg (fun i hi => by rw [wd_set _ _ _ _ hL2, if_neg (by omega)]; rw [HT2.out.2 i (by omega), wd_set _ _ _ _ hLl, if_neg (by omega)]; exact HT.out.2 i (by omega)) (by rw [wd_set _ _ _ _ hQl, if_pos rfl]; exact hq1) (fun i hi => by rw [wd_set _ _ _ _ hQl, if_neg (by omega)]))
          have R2 : Hid (wseg (L2.set (p + n) (wd L2 (p + n) + bw cr)) p n < wseg D 0 n) := by show _ < _; rw [hseg, ← HDv.out]; exact HX3
          have RU3 := Lib.hid ((hRL3.set (p + n) (wd L2 (p + n) + bw cr) hL2).far (c := bq) (p := oq + p) (V (qh - 1#64)) (fun e => nqu e.symm))
          have RQ4 := Lib.hid ((RQ3.out.far (c := bu) (p := ou + (p + n)) (V (wd L2 (p + n) + bw cr)) nqu).set p (qh - 1#64) hQl)
          have RD4 := Lib.hid ((((hRD2.out.far (c := bu) (p := ou + (p + n)) (V (wd U' (p + n) - br)) ndu).but hB3 (by simp; exact ndu)).far (c := bu) (p := ou + (p + n)) (V (wd L2 (p + n) + bw cr)) ndu).far (c := bq) (p := oq + p) (V (qh - 1#64)) ndq)
          have BB4 := Lib.hid ((((hBB.out.set (b := bu) (.inl (by simp)) (ou + (p + n)) (V (wd U' (p + n) - br))).trans (hB3.mono (T := [bq, bu]) (fun k _ hk => by simp at hk; simp [hk]))).set (b := bu) (.inl (by simp)) (ou + (p + n)) (V (wd L2 (p + n) + bw cr))).set (b := bq) (.inl (by simp)) (oq + p) (V (qh - 1#64)))
          clear HX2 HX3 hq1 kb2 hseg ez hB3 HT20 HS2 hRL3
          go_wp2
          go_roundw
          case rel =>
            have ez : ((p : Int) - 1 + 1).toNat = p := by omega
            refine ⟨_, _, (p : Int) - 1, rfl, by omega, by omega, LQ, UL2, ?_, ?_, RQ4.out, RU3.out, RD4, BB4.out⟩
            · rw [ez]; rw [HDv.out] at E2; exact E2
            · rw [ez]; exact R2
          case measure => simp [intOf] <;> omega
    · obtain rfl : z = -1 := by omega
      have h1 := HE.out
      have h2 := HR.out
      rw [show ((-1 : Int) + 1).toNat = 0 by omega] at h1 h2
      have H1 := Lib.hid h1
      have H2 := Lib.hid h2
      clear h1 h2 HE HR
      go_wp2
      go_end0
      refine ⟨Q', U', rfl, ⟨HQL.out.1, fun i hi => HQL.out.2 i (by omega)⟩, HUL.out, ?_, H2.out, hRQ, hRU, hB⟩
      rw [H1.out, Nat.pow_zero, Nat.one_mul, Nat.sub_zero, Nat.zero_add]
end Go.Proofs.YtfaocjcpnjmfiaaGreatDoor

namespace Go.Proofs.YtfaocjcpnjmfiaaGreatDoor
set_option maxRecDepth 20000
open Go.RowKit
set_option linter.unusedVariables false
set_option linter.unusedSimpArgs false
set_option maxRecDepth 20000
theorem But.put4 {S : List Nat} {w w' : World} (h : But S w w') {b : Nat} (hb : b ∈ S ∨ w.heap.size ≤ b) (o : Nat) (z : N4) : But S w (put4 w' b o z) :=
  (((h.set hb _ _).set hb _ _).set hb _ _).set hb _ _
theorem But.step {S T : List Nat} {a b c : World} (h : But S a b) (k : But T b c) (ht : ∀ t ∈ T, t ∈ S ∨ a.heap.size ≤ t) : But S a c :=
  ⟨k.os.trans h.os, k.tape.trans h.tape, k.output.trans h.output, Nat.le_trans h.size k.size, fun i hi hs => (k.block i (Nat.lt_of_lt_of_le hi h.size) (fun e => by
    rcases ht i e with h1 | h1
    · exact hs h1
    · omega)).trans (h.block i hi hs)⟩
theorem RowW.put4_far {w : World} {b o : Nat} {l : List W64} (h : RowW w b o l) {c p : Nat} {z : N4} (hne : b ≠ c) : RowW (put4 w c p z) b o l :=
  (((h.far _ hne).far _ hne).far _ hne).far _ hne
/-- The place where the rest goes, as an argument. -/
def remV : Option (Nat × Nat) → Value
  | none => .pointer none
  | some (b, o) => .pointer (some ⟨b, o, none⟩)
theorem remV_none : remV none = .pointer none := rfl
theorem remV_some (b o : Nat) : remV (some (b, o)) = .pointer (some ⟨b, o, none⟩) := rfl
/-- What a division leaves. -/
def RetDiv (bq oq lq : Nat) (ro : Option (Nat × Nat)) (U D : Nat) (w : World) (e : Ending) (w' : World) : Prop :=
  ∃ Q' : List W64, e = .returned (.tuple #[]) ∧ Q'.length = lq ∧ wseg Q' 0 lq = U / D ∧ RowW w' bq oq Q' ∧
    (∀ b o, ro = some (b, o) → ∃ x : N4, At4 w' b o x ∧ Free4 w' b o ∧ x.toNat = U % D) ∧ But (bq :: (ro.map (·.1)).toList) w w'
theorem shD_conv (x : W64) : IntKind.u64.wrap ((64 - Lib.bitLen x.toNat : Nat) : Int) = U (shD x) := by
  unfold U
  rw [shD_toNat, IntKind.wrap_u64]
  omega
/-- The number of words of a number. -/
def lenIs (l : List W64) (n : Nat) : Prop := 0 < n ∧ n ≤ l.length ∧ wd l (n - 1) ≠ 0#64 ∧ ∀ i, n ≤ i → wd l i = 0#64
theorem slice4 (b o k : Nat) (hk : k + 1 ≤ 4) (w : World) : (Instr.sliceAt 41 (.pointer (some ⟨b, o, none⟩)) none (some (.int .i64 ((k : Int) + 1))) none).run Tryz.prog w = .ok (.slice (some ⟨b, o, none⟩) (k + 1) 4) w := by
  have hl : Tryz.prog.arrayLen 41 = 4 := by kernel_rfl
  rw [run_sliceAt_array_h w _ ⟨b, o, none⟩ (by kernel_rfl) .i64 _ (by omega) (by rw [hl]; omega), hl]
  have hs : (sizeOf (Tryz.prog.elem 41)).run Tryz.prog w = .ok 1 w := by kernel_rfl
  rw [hs]
  have e : ((k : Int) + 1).toNat = k + 1 := by omega
  simp [Result.andThen, slicedAt, e, Addr.add]
theorem slice9 (b o k : Nat) (hk : k + 2 ≤ 9) (w : World) : (Instr.sliceAt 61 (.pointer (some ⟨b, o, none⟩)) none (some (.int .i64 ((k : Int) + 1 + 1))) none).run Tryz.prog w = .ok (.slice (some ⟨b, o, none⟩) (k + 2) 9) w := by
  have hl : Tryz.prog.arrayLen 61 = 9 := by kernel_rfl
  rw [run_sliceAt_array_h w _ ⟨b, o, none⟩ (by kernel_rfl) .i64 _ (by omega) (by rw [hl]; omega), hl]
  have hs : (sizeOf (Tryz.prog.elem 61)).run Tryz.prog w = .ok 1 w := by kernel_rfl
  rw [hs]
  have e : ((k : Int) + 1 + 1).toNat = k + 2 := by omega
  simp [Result.andThen, slicedAt, e, Addr.add]
theorem RowW.new4 (w : World) (t : TypeId) : RowW (w.alloc (.cells #[.int .u64 0, .int .u64 0, .int .u64 0, .int .u64 0] t)) w.heap.size 0 (List.replicate 4 0#64) := by
  refine RowW.of4 (x := ⟨0#64, 0#64, 0#64, 0#64⟩) ?_ ?_
  · constructor <;> simp [go_sem] <;> rfl
  · constructor <;> simp [go_sem]
theorem RowW.new9 (w : World) (t : TypeId) : RowW (w.alloc (.cells #[.int .u64 0, .int .u64 0, .int .u64 0, .int .u64 0, .int .u64 0, .int .u64 0, .int .u64 0, .int .u64 0, .int .u64 0] t)) w.heap.size 0 (List.replicate 9 0#64) := by
  constructor
  · intro i hi
    rw [wd_replicate]
    match i, hi with
    | 0, _ | 1, _ | 2, _ | 3, _ | 4, _ | 5, _ | 6, _ | 7, _ | 8, _ => simp [go_sem] <;> rfl
  · intro i hi
    match i, hi with
    | 0, _ | 1, _ | 2, _ | 3, _ | 4, _ | 5, _ | 6, _ | 7, _ | 8, _ => simp [go_sem]
theorem RowW.take {w : World} {b o : Nat} {l : List W64} (h : RowW w b o l) (n : Nat) : RowW w b o (l.take n) := by
  constructor
  · intro i hi
    rw [List.length_take] at hi
    rw [wd_take _ _ _ (by omega)]
    exact h.cell i (by omega)
  · intro i hi
    rw [List.length_take] at hi
    exact h.free i (by omega)
set_option maxHeartbeats 16000000 in
theorem udivrem_wide (bq oq lq cq bu ou lu cu bd od : Nat) (ro : Option (Nat × Nat)) (X : List W64) (D : N4) (w : World) (hQ : RowW w bq oq (List.replicate lq 0#64)) (hU : RowW w bu ou X) (hD : At4 w bd od D)
    (hlu : lu = X.length) (hlu2 : lu ≤ 8) (hlu3 : 4 ≤ lu) (hlq : lu ≤ lq) (hlq2 : lq ≤ 8) (hcu : lu ≤ cu) (nqu : bq ≠ bu) (nqd : bq ≠ bd)
    (hro : ∀ b o, ro = some (b, o) → At4 w b o ⟨0#64, 0#64, 0#64, 0#64⟩ ∧ Free4 w b o ∧ b ≠ bq ∧ b ≠ bu ∧ b ≠ bd ∧ (D.toNat ≤ wseg X 0 lu ∨ D.toNat < 18446744073709551616))
    (hD0 : 0 < D.toNat) (hU0 : 0 < wseg X 0 lu) :
    Calls Tryz.prog 31 #[.slice (some ⟨bq, oq, none⟩) lq cq, .slice (some ⟨bu, ou, none⟩) lu cu, .pointer (some ⟨bd, od, none⟩), remV ro] w (RetDiv bq oq lq ro (wseg X 0 lu) D.toNat w) := by
  have HQ := Lib.hid hQ
  have HU := Lib.hid hU
  have HD := Lib.hid hD
  have HRO := Lib.hid hro
  have Hlu := Lib.hid hlu
  have HD0 := Lib.hid hD0
  have HU0 := Lib.hid hU0
  have HDs : Hid (wseg D.l4 0 4 = D.toNat) := D.wseg4
  clear hQ hU hD hro hlu hD0 hU0
  go_enter Tryz.func31, Tryz.ntmps31
  go_wp2
  go_loop [9] (fun t => ∃ z : Int, t = .int .i64 z ∧ 0 ≤ z ∧ z ≤ 3 ∧ Hid (∀ i : Nat, z < (i : Int) → wd D.l4 i = 0#64)) (fun t => (intOf t + 1).toNat)
  case atStart => exact ⟨3, rfl, by omega, by omega, fun i hi => wd_ge (by show 4 ≤ i; omega)⟩
  case round =>
    obtain ⟨z, rfl, hz0, hz1, HZ⟩ := hrel
    obtain ⟨k, rfl⟩ := Int.eq_ofNat_of_zero_le hz0
    have hcd := HD.out.cellAt k (by omega)
    cases hx : (wd D.l4 k != 0#64)
    · have hk0 : 0 < k := by
        rcases Nat.eq_zero_or_pos k with h | h
        · exfalso
          subst h
          have h1 : wd D.l4 0 = 0#64 := by simpa using hx
          have h2 := HDs.out
          rw [wseg_zero (fun t ht => by
            rw [Nat.zero_add]
            by_cases e : t = 0
            · subst e; exact h1
            · exact HZ.out t (by omega))] at h2
          have := HD0.out
          omega
        · exact h
      have HX : Hid (wd D.l4 k = 0#64) := by show _ = _; simpa using hx
      go_wp2
      go_round
      case rel =>
        refine ⟨(k : Int) - 1, rfl, by omega, by omega, fun i hi => ?_⟩
        by_cases e : i = k
        · subst e; exact HX.out
        · exact HZ.out i (by omega)
      case measure => simp [intOf] <;> omega
    · have HX : Hid (wd D.l4 k ≠ 0#64) := by show _ ≠ _; simpa using hx
      have LZ0 := leadingZeros64_any (wd D.l4 k)
      have hcv0 := shD_conv (wd D.l4 k)
      obtain ⟨s, hs⟩ : ∃ s, s = shD (wd D.l4 k) := ⟨_, rfl⟩
      rw [← hs] at hcv0
      generalize 64 - Lib.bitLen (wd D.l4 k).toNat = lz at LZ0 hcv0
      have hcv : IntKind.u64.wrap (lz : Int) = U s := hcv0
      have LZ := Lib.hid LZ0
      have HS := Lib.hid hs
      have Hs64 : Hid (s.toNat < 64) := by show _ < _; rw [hs]; exact shD_lt _ HX.out
      clear LZ0 hs hcv0
      have hsl4 : ∀ (g : Nat) (w : World), (Instr.sliceAt 41 (.pointer (some ⟨g, 0, none⟩)) none (some (.int .i64 ((k : Int) + 1))) none).run Tryz.prog w = .ok (.slice (some ⟨g, 0, none⟩) (k + 1) 4) w := fun g w => slice4 g 0 k (by omega) w
      go_wp2_with (go_at_call 39; refine (LZ.out _).mono ?_; rintro e w' ⟨rfl, rfl⟩)
      clear hsl4 hcv
      go_loopw [13] (fun t wr => ∃ (z : Int) (L : List W64), t = .int .i64 z ∧ 0 ≤ z ∧ z ≤ (k : Int) ∧ Hid (L.length = 4) ∧ Hid (∀ i : Nat, z < (i : Int) → i ≤ k → wd L i = nrmW D.l4 s i) ∧ RowW wr w.heap.size 0 L ∧ But [] w wr) (fun t _ => (intOf t + 1).toNat)
      case atStart => exact ⟨(k : Int), List.replicate 4 0#64, rfl, by omega, by omega, rfl, fun i h1 h2 => by omega, RowW.new4 _ _, (But.refl _ _).alloc _⟩
      case round =>
        obtain ⟨z, L, rfl, hz0, hz1, HL, HN, hR, hB⟩ := hrel
        obtain ⟨wo, rfl⟩ : ∃ wo : World, wo = wr := ⟨_, rfl⟩
        have HDW := Lib.hid (HD.out.but hB (by simp))
        by_cases hz : 0 < z
        · obtain ⟨p, rfl⟩ : ∃ p : Nat, z = (p : Int) + 1 := ⟨(z - 1).toNat, by omega⟩
          have hd1 := HDW.out.cellAt (p + 1) (by omega)
          have hd2 := HDW.out.cellAt p (by omega)
          have hl : p + 1 < L.length := by rw [HL.out]; omega
          have hc := hR.cell (p + 1) hl
          have hf := hR.free (p + 1) hl
          have R2 := hR.set (p + 1) (shlW (wd D.l4 (p + 1)) s ||| shrW (wd D.l4 p) (restW s)) hl
          rw [Nat.zero_add] at hc hf R2
          have HR2 := Lib.hid R2
          have N2 : Hid (∀ i : Nat, (p : Int) < (i : Int) → i ≤ k → wd (L.set (p + 1) (shlW (wd D.l4 (p + 1)) s ||| shrW (wd D.l4 p) (restW s))) i = nrmW D.l4 s i) := by
            intro i h1 h2
            rw [wd_set _ _ _ _ hl]
            by_cases e : i = p + 1
            · subst e
              rw [if_pos rfl]
              unfold nrmW
              rw [if_neg (by omega)]
              rfl
            · rw [if_neg e]; exact HN.out i (by omega) h2
          have L2 : Hid ((L.set (p + 1) (shlW (wd D.l4 (p + 1)) s ||| shrW (wd D.l4 p) (restW s))).length = 4) := by show _ = _; rw [List.length_set, HL.out]
          have B2 := Lib.hid (hB.set (b := w.heap.size) (.inr (Nat.le_refl _)) (p + 1) (V (shlW (wd D.l4 (p + 1)) s ||| shrW (wd D.l4 p) (restW s))))
          have hdk : decide (p + 1 < k + 1) = true := decide_eq_true (by omega)
          clear R2 hR hB
          go_wp2
          go_region
          go_wp2
          go_roundw
          case rel => exact ⟨(p : Int), _, rfl, by omega, by omega, L2, N2, HR2.out.drew, B2.out.drew⟩
          case measure => simp [intOf] <;> omega
        · obtain rfl : z = 0 := by omega
          have hd0 := HDW.out.cellAt 0 (by omega)
          have hl : 0 < L.length := by rw [HL.out]; omega
          have hc0 := hR.cell 0 hl
          have hf0 := hR.free 0 hl
          rw [Nat.add_zero] at hd0 hc0 hf0
          have hdk : decide (0 < k + 1) = true := decide_eq_true (by omega)
          have hgl := hR.lt hl
          have HR2 := Lib.hid (hR.set 0 (shlW (wd D.l4 0) s) hl)
          obtain ⟨M, hM⟩ : ∃ M, M = L.set 0 (shlW (wd D.l4 0) s) := ⟨_, rfl⟩
          rw [← hM] at HR2
          have NM : Hid (∀ i : Nat, i < k + 1 → wd M i = nrmW D.l4 s i) := by
            intro i h2
            rw [hM, wd_set _ _ _ _ hl]
            by_cases e : i = 0
            · subst e
              rw [if_pos rfl]
              unfold nrmW
              rw [if_pos rfl]
            · rw [if_neg e]; exact HN.out i (by omega) (by omega)
          have LM : Hid (M.length = 4) := by show _ = _; rw [hM, List.length_set, HL.out]
          have B2 := Lib.hid (hB.set (b := w.heap.size) (.inr (Nat.le_refl _)) 0 (V (shlW (wd D.l4 0) s)))
          clear hM hR hB HN HDW
          have hbx := (HU.out.but B2.out (by simp))
          have HUW := Lib.hid hbx
          clear hbx
          go_wp2_with fail
          have hsz : (wo.setCell ⟨w.heap.size, 0, none⟩ (V (shlW (wd D.l4 0) s))).heap.size = wo.heap.size := by simp [World.setCell]
          have HSZ := Lib.hid hsz
          clear hsz hc0 hf0 hd0
          generalize wo.setCell ⟨w.heap.size, 0, none⟩ (V (shlW (wd D.l4 0) s)) = W1 at *
          have hgl1 : w.heap.size < W1.heap.size := by rw [HSZ.out]; exact hgl
          clear HSZ hgl hcd
          go_loop [15] (fun t => ∃ z : Int, t = .int .i64 z ∧ 0 ≤ z ∧ z < (lu : Int) ∧ Hid (∀ i : Nat, z < (i : Int) → wd X i = 0#64)) (fun t => (intOf t + 1).toNat)
          case atStart => exact ⟨(lu : Int) - 1, rfl, by omega, by omega, fun i hi => wd_ge (by rw [← Hlu.out]; omega)⟩
          case round =>
            obtain ⟨z, rfl, hz0, hz1, HZX⟩ := hrel
            obtain ⟨e, rfl⟩ := Int.eq_ofNat_of_zero_le hz0
            have hcx := HUW.out.cell e (by rw [← Hlu.out]; omega)
            have hel : e < lu := by omega
            have hde : decide (e < lu) = true := decide_eq_true hel
            cases hx1 : (wd X e != 0#64)
            · have hk0 : 0 < e := by
                rcases Nat.eq_zero_or_pos e with h | h
                · exfalso
                  subst h
                  have h1 : wd X 0 = 0#64 := by simpa using hx1
                  have h2 := HU0.out
                  rw [wseg_zero (fun t ht => by
                    rw [Nat.zero_add]
                    by_cases e : t = 0
                    · subst e; exact h1
                    · exact HZX.out t (by omega))] at h2
                  omega
                · exact h
              have HXE : Hid (wd X e = 0#64) := by show _ = _; simpa using hx1
              go_wp2
              go_round
              case rel =>
                refine ⟨(e : Int) - 1, rfl, by omega, by omega, fun i hi => ?_⟩
                by_cases e' : i = e
                · subst e'; exact HXE.out
                · exact HZX.out i (by omega)
              case measure => simp [intOf] <;> omega
            · have HXE : Hid (wd X e ≠ 0#64) := by show _ ≠ _; simpa using hx1
              by_cases hke : e < k
              · -- the number has fewer words than the divisor
                have hlt2 : wseg X 0 lu < D.toNat := by
                  rw [← HDs.out]
                  exact few_words (fun i hi => HZX.out i (by omega)) (by omega) HX.out (by omega) (fun i hi => HZ.out i (by omega)) hke
                rcases ro with _ | ⟨br, orr⟩
                · have rn : remV none = .pointer none := rfl
                  have hle : (e : Int) + 1 < (k : Int) + 1 := by omega
                  have HF : Hid (RetDiv bq oq lq none (wseg X 0 lu) D.toNat w (.returned (.tuple #[])) W1) := by
                    refine ⟨List.replicate lq 0#64, rfl, List.length_replicate, ?_, HQ.out.but B2.out (by simp), (fun b o h => by cases h), B2.out.mono (by simp)⟩
                    rw [wseg_zero (fun t ht => wd_replicate _ _), Nat.div_eq_of_lt hlt2]
                  clear hlt2
                  go_wp2
                  go_end0
                  exact HF.out
                · exfalso
                  have h5 := (HRO.out br orr rfl).2.2.2.2.2
                  have h6 := wseg_ge HX.out
                  rw [← wseg_len (l := D.l4) (show k + 1 ≤ 4 by omega) (fun i hi => HZ.out i (by omega)), HDs.out] at h6
                  have h7 : 18446744073709551616 ^ 1 ≤ 18446744073709551616 ^ k := Nat.pow_le_pow_right (by omega) (by omega)
                  rw [Nat.pow_one] at h7
                  omega
              · have hle : ¬ (e : Int) + 1 < (k : Int) + 1 := by omega
                have hsl9 : ∀ (g : Nat) (w : World), (Instr.sliceAt 61 (.pointer (some ⟨g, 0, none⟩)) none (some (.int .i64 ((e : Int) + 1 + 1))) none).run Tryz.prog w = .ok (.slice (some ⟨g, 0, none⟩) (e + 2) 9) w := fun g w => slice9 g 0 e (by omega) w
                go_upto_region 24 with fail
                have R9 := Lib.hid (RowW.new9 W1 61)
                have B3 := Lib.hid ((But.refl [] W1).alloc (Obj.cells #[.int .u64 0, .int .u64 0, .int .u64 0, .int .u64 0, .int .u64 0, .int .u64 0, .int .u64 0, .int .u64 0, .int .u64 0] 61))
                generalize W1.alloc (Obj.cells #[.int .u64 0, .int .u64 0, .int .u64 0, .int .u64 0, .int .u64 0, .int .u64 0, .int .u64 0, .int .u64 0, .int .u64 0] 61) = W2 at *
                have HUW2 := Lib.hid (HUW.out.but B3.out (by simp))
                have hbu : bu < W1.heap.size := HUW.out.lt (by rw [← Hlu.out]; omega)
                have hcx2 := HUW2.out.cell e (by rw [← Hlu.out]; omega)
                have hc9 := R9.out.cell (e + 1) (by rw [List.length_replicate]; omega)
                have hf9 := R9.out.free (e + 1) (by rw [List.length_replicate]; omega)
                have RS := R9.out.set (e + 1) (shrW (wd X e) (restW s)) (by rw [List.length_replicate]; omega)
                rw [Nat.zero_add] at hc9 hf9 RS
                have HRS := Lib.hid RS
                have hde2 : decide (e + 1 < e + 2) = true := decide_eq_true (by omega)
                generalize hgu : W1.heap.size = gu at *
                have HGU := Lib.hid hgu
                clear hgu RS
                go_wp2_with fail
                clear hc9 hf9 hde2 hsl9 hcx2
                go_loopw [18] (fun t wr => ∃ (z : Int) (L : List W64), t = .int .i64 z ∧ 0 ≤ z ∧ z ≤ (e : Int) ∧ Hid (L.length = 9) ∧ Hid (wd L (e + 1) = shrW (wd X e) (restW s)) ∧ Hid (∀ i : Nat, z < (i : Int) → i ≤ e → wd L i = nrmW X s i) ∧ RowW wr gu 0 L ∧ But [gu] W2 wr) (fun t _ => (intOf t + 1).toNat)
                case atStart =>
                  refine ⟨(e : Int), (List.replicate 9 0#64).set (e + 1) (shrW (wd X e) (restW s)), rfl, by omega, by omega, ?_, ?_, fun i h1 h2 => by omega, HRS.out, (But.refl _ _).set (.inl (by simp)) _ _⟩
                  · show _ = _
                    rw [List.length_set, List.length_replicate]
                  · show _ = _
                    rw [wd_set _ _ _ _ (by rw [List.length_replicate]; omega), if_pos rfl]
                case round =>
                  obtain ⟨z, L, rfl, hz0, hz1, HL9, HT9, HN9, hR, hB⟩ := hrel
                  obtain ⟨wn, rfl⟩ : ∃ wn : World, wn = wr := ⟨_, rfl⟩
                  have HUW3 := Lib.hid (HUW2.out.but hB (by simp; omega))
                  by_cases hz : 0 < z
                  · obtain ⟨p, rfl⟩ : ∃ p : Nat, z = (p : Int) + 1 := ⟨(z - 1).toNat, by omega⟩
                    have hd1 := HUW3.out.cell (p + 1) (by rw [← Hlu.out]; omega)
                    have hd2 := HUW3.out.cell p (by rw [← Hlu.out]; omega)
                    have hl : p + 1 < L.length := by rw [HL9.out]; omega
                    have hc := hR.cell (p + 1) hl
                    have hf := hR.free (p + 1) hl
                    have R2 := hR.set (p + 1) (shlW (wd X (p + 1)) s ||| shrW (wd X p) (restW s)) hl
                    rw [Nat.zero_add] at hc hf R2
                    have HR2 := Lib.hid R2
                    have N2 : Hid (∀ i : Nat, (p : Int) < (i : Int) → i ≤ e → wd (L.set (p + 1) (shlW (wd X (p + 1)) s ||| shrW (wd X p) (restW s))) i = nrmW X s i) := by
                      intro i h1 h2
                      rw [wd_set _ _ _ _ hl]
                      by_cases e : i = p + 1
                      · subst e
                        rw [if_pos rfl]
                        unfold nrmW
                        rw [if_neg (by omega)]
                        rfl
                      · rw [if_neg e]; exact HN9.out i (by omega) h2
                    have L2 : Hid ((L.set (p + 1) (shlW (wd X (p + 1)) s ||| shrW (wd X p) (restW s))).length = 9) := by show _ = _; rw [List.length_set, HL9.out]
                    have T2 : Hid (wd (L.set (p + 1) (shlW (wd X (p + 1)) s ||| shrW (wd X p) (restW s))) (e + 1) = shrW (wd X e) (restW s)) := by show _ = _; rw [wd_set _ _ _ _ hl, if_neg (by omega)]; exact HT9.out
                    have B2' := Lib.hid (hB.set (b := gu) (.inl (by simp)) (p + 1) (V (shlW (wd X (p + 1)) s ||| shrW (wd X p) (restW s))))
                    have hdk1 : decide (p + 1 < e + 2) = true := decide_eq_true (by omega)
                    have hdk2 : decide (p + 1 < lu) = true := decide_eq_true (by omega)
                    have hdk3 : decide (p < lu) = true := decide_eq_true (by omega)
                    clear R2 hR hB
                    go_wp2
                    go_region
                    go_wp2
                    go_roundw
                    case rel => exact ⟨(p : Int), _, rfl, by omega, by omega, L2, T2, N2, HR2.out.drew, B2'.out.drew⟩
                    case measure => simp [intOf] <;> omega
                  · obtain rfl : z = 0 := by omega
                    have hd0 := HUW3.out.cell 0 (by rw [← Hlu.out]; omega)
                    have hl : 0 < L.length := by rw [HL9.out]; omega
                    have hc0 := hR.cell 0 hl
                    have hf0 := hR.free 0 hl
                    rw [Nat.add_zero] at hd0 hc0 hf0
                    have hdk1 : decide (0 < e + 2) = true := decide_eq_true (by omega)
                    have hdk2 : decide (0 < lu) = true := decide_eq_true (by omega)
                    have hR2 := Lib.hid (hR.set 0 (shlW (wd X 0) s) hl)
                    obtain ⟨N, hN⟩ : ∃ N, N = L.set 0 (shlW (wd X 0) s) := ⟨_, rfl⟩
                    rw [← hN] at hR2
                    have NN : Hid (∀ i : Nat, i < e + 1 → wd N i = nrmW X s i) := by
                      intro i h2
                      rw [hN, wd_set _ _ _ _ hl]
                      by_cases e : i = 0
                      · subst e
                        rw [if_pos rfl]
                        unfold nrmW
                        rw [if_pos rfl]
                      · rw [if_neg e]; exact HN9.out i (by omega) (by omega)
                    have NT : Hid (wd N (e + 1) = shrW (wd X e) (restW s)) := by show _ = _; rw [hN, wd_set _ _ _ _ hl, if_neg (by omega)]; exact HT9.out
                    have LN : Hid (N.length = 9) := by show _ = _; rw [hN, List.length_set, HL9.out]
                    have B2' := Lib.hid (hB.set (b := gu) (.inl (by simp)) 0 (V (shlW (wd X 0) s)))
                    clear hN hR hB HN9 HUW3
                    go_upto_region 31 with fail
                    clear hd0 hc0 hf0 hdk1 hdk2
                    generalize wn.setCell ⟨gu, 0, none⟩ (V (shlW (wd X 0) s)) = W3 at *
                    have BW1 := B2.out
                    have BW3 := Lib.hid ((B2.out.step B3.out (by simp)).step B2'.out (fun t ht => by simp at ht; omega))
                    have RM := Lib.hid ((HR2.out.but B3.out (by simp)).but B2'.out (by simp; omega))
                    have RQ := Lib.hid (HQ.out.but BW3.out (by simp))
                    have hbq : bq < gu := by
                      have h := HQ.out.lt (by rw [List.length_replicate]; omega)
                      omega
                    have hbq2 : bq ≠ w.heap.size := fun h => by
                      have h' := HQ.out.lt (by rw [List.length_replicate]; omega)
                      omega
                    have DM := Lib.hid (div_nrm D.l4 M (k + 1) (by omega) HX.out (by rw [Nat.add_sub_cancel, ← HS.out]; exact NM.out))
                    have XM := Lib.hid (num_nrm X N s Hs64.out (e + 1) (by omega) NN.out NT.out)
                    have eD : Hid (wseg D.l4 0 (k + 1) = D.toNat) := by
                      show _ = _
                      rw [← HDs.out, wseg_len (l := D.l4) (n := k + 1) (m := 4) (by omega) (fun i hi => HZ.out i (by omega))]
                    have eX : Hid (wseg X 0 (e + 1) = wseg X 0 lu) := by
                      show _ = _
                      rw [wseg_len (l := X) (n := e + 1) (m := lu) (by omega) (fun i hi => HZX.out i (by omega))]
                    have hT : 0 < 2 ^ s.toNat := Nat.two_pow_pos _
                    clear BW1
                    have HQZ : ∀ (Q' : List W64) (m : Nat), m ≤ lq → Turned (List.replicate lq 0#64) Q' 0 m → Q'.length = lq ∧ wseg Q' 0 lq = wseg Q' 0 m := fun Q' m hm hT => by
                      refine ⟨by rw [hT.1, List.length_replicate], wseg_len hm (fun i hi => ?_)⟩
                      rw [hT.2 i (by omega), wd_replicate]
                    have HQZ' := Lib.hid HQZ
                    clear HQZ
                    have HT := Lib.hid hT
                    clear hT
                    have hmc := RM.out.cell 0 (by rw [LM.out]; omega)
                    rw [Nat.add_zero] at hmc
                    have hdk0 : decide (0 < k + 1) = true := decide_eq_true (by omega)
                    cases hk0 : ((k : Int) + 1 == 1)
                    · have k1 : 1 ≤ k := by
                        rcases Nat.eq_zero_or_pos k with h | h
                        · subst h; simp at hk0
                        · exact h
                      have KN : Hid (∀ W, RowW W bq oq (List.replicate lq 0#64) → RowW W gu 0 N → RowW W w.heap.size 0 M → Calls Tryz.prog 41 #[.slice (some ⟨bq, oq, none⟩) lq cq, .slice (some ⟨gu, 0, none⟩) (e + 2) 9, .slice (some ⟨w.heap.size, 0, none⟩) (k + 1) 4] W fun en W' => ∃ (Q' U' : List W64), en = .returned (.tuple #[]) ∧ Turned (List.replicate lq 0#64) Q' 0 (e + 1 - k) ∧ U'.length = e + 2 ∧ wseg Q' 0 (e + 1 - k) = wseg X 0 lu / D.toNat ∧ wseg U' 0 (k + 1) = wseg X 0 lu % D.toNat * 2 ^ s.toNat ∧ RowW W' bq oq Q' ∧ RowW W' gu 0 U' ∧ But [bq, gu] W W') := fun W h1 h2 h3 => by
                        have hlen : (N.take (e + 2)).length = e + 2 := by rw [List.length_take, LN.out]; omega
                        have hlen2 : (M.take (k + 1)).length = k + 1 := by rw [List.length_take, LM.out]; omega
                        have hdm := DM.out
                        rw [Nat.add_sub_cancel, ← HS.out] at hdm
                        have hxm : wseg N 0 (e + 2) = wseg X 0 (e + 1) * 2 ^ s.toNat ∧ (wd N (e + 1)).toNat < 2 ^ s.toNat := XM.out
                        have sN : ∀ j n, j + n ≤ e + 2 → wseg (N.take (e + 2)) j n = wseg N j n := fun j n hjn => wseg_congr (fun i hi => by rw [wd_take _ _ _ (by omega)])
                        have sM : wseg (M.take (k + 1)) 0 (k + 1) = wseg M 0 (k + 1) := wseg_congr (fun i hi => by rw [wd_take _ _ _ (by omega)])
                        have hpre := kn_pre X N M D.l4 (2 ^ s.toNat) e k (e + 1 - k) (k + 1) (by omega) rfl hxm.1 hdm.1 HT.out HX.out
                        have h := udivremKnuth_any bq oq gu 0 w.heap.size 0 lq cq 9 4 (e + 2) (e + 1 - k) (k + 1) (List.replicate lq 0#64) (N.take (e + 2)) (M.take (k + 1)) W h1 (h2.take _) (h3.take _) (by omega) (fun h => hbq2 h.symm) (by omega)
                          hlen.symm (by omega) hlen2.symm (by omega) (by omega) (by omega) (by rw [List.length_replicate]; omega) (by omega) (by omega) (by omega)
                          (by rw [Nat.add_sub_cancel, wd_take _ _ _ (by omega)]; exact hdm.2) (by rw [sN _ _ (by omega), sM]; exact hpre)
                        refine h.mono ?_
                        rintro en W' ⟨Q', U', a1, a2, a3, a4, a5, a6, a7, a8⟩
                        rw [sM, hdm.1, eD.out] at a4 a5
                        rw [show e + 1 - k + (k + 1) = e + 2 by omega, sN _ _ (by omega), hxm.1, eX.out] at a4
                        obtain ⟨q1, q2⟩ := div_back _ _ _ _ _ HT.out a4 a5
                        exact ⟨Q', U', a1, a2, by rw [a3, hlen], q1, q2, a6, a7, a8⟩
                      rcases ro with _ | ⟨br, orr⟩
                      · have rn : remV none = .pointer none := rfl
                        go_wp2_with fail
                        refine (KN.out _ RQ.out hR2.out RM.out).mono ?_
                        rintro en W4 ⟨Q', U', rfl, h4, h5, h6, h7, h8, h9, h10⟩
                        have Z := HQZ'.out Q' (e + 1 - k) (by omega) h4
                        have HF : Hid (RetDiv bq oq lq none (wseg X 0 lu) D.toNat w (.returned (.tuple #[])) W4) := ⟨Q', rfl, Z.1, by rw [Z.2]; exact h6, h8, (fun b o h => by cases h), (BW3.out.mono (T := [bq]) (fun _ _ h => by simp at h)).step h10 (fun t ht => by simp at ht; rcases ht with rfl | rfl; simp; exact .inr (by omega))⟩
                        clear h4 h5 h6 h7 h8 h9 h10 Z
                        go_wp2
                        go_end0
                        exact HF.out
                      · have rn : remV (some (br, orr)) = .pointer (some ⟨br, orr, none⟩) := rfl
                        obtain ⟨ha, hf, hb1, hb2, hb3, _⟩ := HRO.out br orr rfl
                        have hbr : br < gu := by have := ha.lt; omega
                        have RR := Lib.hid ((RowW.of4 ha hf).but BW3.out (by simp))
                        have Hb := Lib.hid hb1
                        clear ha hf hb1 hb2 hb3
                        go_wp2_with fail
                        refine (KN.out _ RQ.out hR2.out RM.out).mono ?_
                        rintro en W4 ⟨Q', U', rfl, h4, h5, h6, h7, h8, h9, h10⟩
                        have RR4 := Lib.hid (RR.out.but h10 (by simp; exact ⟨Hb.out, by omega⟩))
                        have Z := Lib.hid (HQZ'.out Q' (e + 1 - k) (by omega) h4)
                        have B9 := Lib.hid ((BW3.out.mono (T := [bq, br]) (fun _ _ h => by simp at h)).step h10 (fun t ht => by simp at ht; rcases ht with rfl | rfl; simp; exact .inr (by omega)))
                        have UL := Lib.hid h5
                        have QV := Lib.hid h6
                        have UV := Lib.hid h7
                        have RQ4 := Lib.hid h8
                        have RU4 := Lib.hid h9
                        clear h4 h5 h6 h7 h8 h9 h10
                        go_wp2
                        go_loopw [20] (fun t wr => ∃ (j : Nat) (R : List W64), t = .int .i64 (j : Int) ∧ j ≤ k ∧ Hid (R.length = 4) ∧ Hid (∀ i, i < j → wd R i = unnW U' s (k + 1) i) ∧ Hid (∀ i, j ≤ i → wd R i = 0#64) ∧ RowW wr br orr R ∧ But [br] W4 wr) (fun t _ => (10 - intOf t).toNat)
                        case atStart => exact ⟨0, N4.l4 ⟨0#64, 0#64, 0#64, 0#64⟩, rfl, by omega, rfl, fun i h => by omega, fun i _ => (by
                          match i with
                          | 0 | 1 | 2 | 3 => rfl
                          | i + 4 => rfl), RR4.out, But.refl _ _⟩
                        case round =>
                          obtain ⟨j, R, rfl, hjk, HRL, HRN, HRZ, hR, hB⟩ := hrel
                          obtain ⟨wf, rfl⟩ : ∃ wf : World, wf = wr := ⟨_, rfl⟩
                          have HUF := Lib.hid (RU4.out.but hB (by simp; omega))
                          by_cases hlt : j < k
                          · have hu1 := HUF.out.cell j (by rw [UL.out]; omega)
                            have hu2 := HUF.out.cell (j + 1) (by rw [UL.out]; omega)
                            have hl : j < R.length := by rw [HRL.out]; omega
                            have hc := hR.cell j hl
                            have hf := hR.free j hl
                            rw [Nat.zero_add] at hu1 hu2
                            have R2 := Lib.hid (hR.set j (shrW (wd U' j) s ||| shlW (wd U' (j + 1)) (restW s)) hl)
                            have N2 : Hid (∀ i, i < j + 1 → wd (R.set j (shrW (wd U' j) s ||| shlW (wd U' (j + 1)) (restW s))) i = unnW U' s (k + 1) i) := by
                              intro i h1
                              rw [wd_set _ _ _ _ hl]
                              by_cases e : i = j
                              · subst e
                                rw [if_pos rfl]
                                unfold unnW
                                rw [if_neg (by omega)]
                              · rw [if_neg e]; exact HRN.out i (by omega)
                            have Z2 : Hid (∀ i, j + 1 ≤ i → wd (R.set j (shrW (wd U' j) s ||| shlW (wd U' (j + 1)) (restW s))) i = 0#64) := by
                              intro i h1
                              rw [wd_set _ _ _ _ hl, if_neg (by omega)]
                              exact HRZ.out i (by omega)
                            have L2 : Hid ((R.set j (shrW (wd U' j) s ||| shlW (wd U' (j + 1)) (restW s))).length = 4) := by show _ = _; rw [List.length_set, HRL.out]
                            have B2f := Lib.hid (hB.set (b := br) (.inl (by simp)) (orr + j) (V (shrW (wd U' j) s ||| shlW (wd U' (j + 1)) (restW s))))
                            have hdk1 : decide (j < e + 2) = true := decide_eq_true (by omega)
                            have hdk2 : decide (j + 1 < e + 2) = true := decide_eq_true (by omega)
                            clear hR hB
                            go_wp2
                            go_region
                            go_wp2
                            go_roundw
                            case rel => exact ⟨j + 1, _, by go_num, by omega, L2, N2, Z2, R2.out.drew, B2f.out.drew⟩
                            case measure => simp [intOf] <;> omega
                          · obtain rfl : j = k := by omega
                            have hu1 := HUF.out.cell j (by rw [UL.out]; omega)
                            have hl : j < R.length := by rw [HRL.out]; omega
                            have hc := hR.cell j hl
                            have hf := hR.free j hl
                            rw [Nat.zero_add] at hu1
                            have R2 := Lib.hid (hR.set j (shrW (wd U' j) s) hl)
                            have hv : wseg (R.set j (shrW (wd U' j) s)) 0 4 = wseg X 0 lu % D.toNat := by
                              have hn : ∀ i, i < j + 1 → wd (R.set j (shrW (wd U' j) s)) i = unnW U' s (j + 1) i := by
                                intro i h1
                                rw [wd_set _ _ _ _ hl]
                                by_cases e : i = j
                                · subst e
                                  rw [if_pos rfl]
                                  unfold unnW
                                  rw [if_pos rfl]
                                · rw [if_neg e]; exact HRN.out i (by omega)
                              rw [wseg_len (l := R.set j (shrW (wd U' j) s)) (n := j + 1) (m := 4) (by omega) (fun i hi => by rw [wd_set _ _ _ _ hl, if_neg (by omega)]; exact HRZ.out i (by omega)), unn_all U' _ s Hs64.out (j + 1) (by omega) hn, UV.out, Nat.mul_div_cancel _ HT.out]
                            have HF : Hid (∀ nq, RetDiv bq oq lq (some (br, orr)) (wseg X 0 lu) D.toNat w (.returned (.tuple #[])) ((wf.setCell ⟨br, orr + j, none⟩ (V (shrW (wd U' j) s))).drewN nq)) := fun nq => by
                              refine ⟨Q', rfl, Z.out.1, by rw [Z.out.2]; exact QV.out, ?_, ?_, ?_⟩
                              · exact ((RQ4.out.but hB (by simp; exact fun h => Hb.out h.symm)).far _ (fun h => Hb.out h.symm)).drewN nq
                              · intro b o h
                                cases h
                                have hl4 : 4 ≤ (R.set j (shrW (wd U' j) s)).length := by rw [List.length_set, HRL.out]; omega
                                exact ⟨n4 (R.set j (shrW (wd U' j) s)), (R2.out.at4 hl4).drewN nq, (R2.out.free4 hl4).drewN nq, by rw [n4_toNat, hv]⟩
                              · exact ((B9.out.trans (hB.mono (T := [bq, br]) (fun k _ h => by simp at h; simp [h]))).set (b := br) (.inl (by simp)) _ _).drewN nq
                            have hdk1 : decide (j < e + 2) = true := decide_eq_true (by omega)
                            clear hv hR hB R2
                            go_wp2
                            go_region
                            go_wp2
                            go_end0
                            exact HF.out 1
                    · have k0 : k = 0 := by
                        have : (k : Int) + 1 = 1 := by simpa using hk0
                        omega
                      have K0 := Lib.hid k0
                      have BY : Hid (∀ w, RowW w bq oq (List.replicate lq 0#64) → RowW w gu 0 N → Calls Tryz.prog 40 #[.slice (some ⟨bq, oq, none⟩) lq cq, .slice (some ⟨gu, 0, none⟩) (e + 2) 9, V (wd M 0)] w fun en w' => ∃ (Q' : List W64) (r : W64), en = .returned (V r) ∧ Turned (List.replicate lq 0#64) Q' 0 (e + 1) ∧ wseg Q' 0 (e + 1) = wseg X 0 lu / D.toNat ∧ r.toNat = wseg X 0 lu % D.toNat * 2 ^ s.toNat ∧ RowW w' bq oq Q' ∧ But [bq] w w') := fun w h1 h2 => by
                        have hlen : (N.take (e + 2)).length = e + 2 := by rw [List.length_take, LN.out]; omega
                        have m0 : wseg M 0 (k + 1) = (wd M 0).toNat := by rw [K0.out]; simp [wseg]
                        have hdm := DM.out
                        rw [m0, Nat.add_sub_cancel, ← HS.out, eD.out, K0.out] at hdm
                        have hxm : wseg N 0 (e + 2) = wseg X 0 (e + 1) * 2 ^ s.toNat ∧ (wd N (e + 1)).toNat < 2 ^ s.toNat := XM.out
                        have hpos : 2 ^ s.toNat ≤ D.toNat * 2 ^ s.toNat := Nat.le_mul_of_pos_left _ HD0.out
                        have h := udivremBy1_any bq oq gu 0 lq cq 9 (List.replicate lq 0#64) (N.take (e + 2)) (wd M 0) w h1 (h2.take _) (by omega) (by rw [hlen]; omega) (by rw [hlen]; omega) (by rw [hlen, List.length_replicate]; omega) (by omega) (by rw [hlen]; omega) hdm.2
                          (by rw [hlen, wd_take _ _ _ (by omega), hdm.1]; exact Nat.lt_of_lt_of_le hxm.2 hpos)
                        rw [hlen] at h
                        refine h.mono ?_
                        rintro en w' ⟨Q', r, h3, h4, h5, h6, h7, h8⟩
                        rw [hlen] at h4 h5
                        rw [show e + 2 - 1 = e + 1 by omega] at h4
                        have h9 : wseg (N.take (e + 2)) 0 (e + 2) = wseg N 0 (e + 2) := wseg_congr (fun i hi => by rw [wd_take _ _ _ (by omega)])
                        rw [h9, hxm.1, eX.out, show e + 2 - 1 = e + 1 by omega, hdm.1] at h5
                        rw [hdm.1] at h6
                        obtain ⟨q1, q2⟩ := div_back _ _ _ _ _ HT.out h5 h6
                        exact ⟨Q', r, h3, h4, q1, q2, h7, h8⟩
                      clear k0
                      rcases ro with _ | ⟨br, orr⟩
                      · have rn : remV none = .pointer none := rfl
                        go_wp2_with fail
                        refine (BY.out _ RQ.out hR2.out).mono ?_
                        rintro en W4 ⟨Q', r, rfl, h4, h5, h6, h7, h8⟩
                        have Z := HQZ'.out Q' (e + 1) (by omega) h4
                        have HF : Hid (RetDiv bq oq lq none (wseg X 0 lu) D.toNat w (.returned (.tuple #[])) W4) := ⟨Q', rfl, Z.1, by rw [Z.2]; exact h5, h7, (fun b o h => by cases h), (BW3.out.mono (T := [bq]) (fun _ _ h => by simp at h)).trans h8⟩
                        clear h4 h5 h6 h7 h8 Z
                        go_wp2
                        go_end0
                        exact HF.out
                      · have rn : remV (some (br, orr)) = .pointer (some ⟨br, orr, none⟩) := rfl
                        obtain ⟨ha, hf, hb1, hb2, hb3, _⟩ := HRO.out br orr rfl
                        have HA := Lib.hid (ha.but BW3.out (by simp))
                        have HFr := Lib.hid (hf.but ha.lt BW3.out (by simp))
                        have Hb := Lib.hid hb1
                        clear ha hf hb1 hb2 hb3
                        go_wp2_with fail
                        refine (BY.out _ RQ.out hR2.out).mono ?_
                        rintro en W4 ⟨Q', r, rfl, h4, h5, h6, h7, h8⟩
                        have HA4 := HA.out.but h8 (by simp; exact Hb.out)
                        have HF4 := HFr.out.but HA.out.lt h8 (by simp; exact Hb.out)
                        have SU := Lib.hid (setUint64_any br orr _ (shrW r s) W4 HA4 HF4)
                        have hfin : (shrW r s).toNat = wseg X 0 lu % D.toNat := by rw [shrW_toNat, h6, Nat.mul_div_cancel _ HT.out]
                        have Z := HQZ'.out Q' (e + 1) (by omega) h4
                        have B9 := (BW3.out.mono (T := [bq, br]) (fun _ _ h => by simp at h)).trans (h8.mono (T := [bq, br]) (fun k _ h => by simp at h; simp [h]))
                        have HF : Hid (∀ nq, RetDiv bq oq lq (some (br, orr)) (wseg X 0 lu) D.toNat w (.returned (.tuple #[])) ((put4 W4 br orr ⟨shrW r s, 0#64, 0#64, 0#64⟩).drewN nq)) := fun nq => by
                          refine ⟨Q', rfl, Z.1, by rw [Z.2]; exact h5, ?_, ?_, ?_⟩
                          · exact (h7.put4_far (fun h => Hb.out h.symm)).drewN nq
                          · intro b o h
                            cases h
                            refine ⟨_, (put4_at W4 br orr ⟨shrW r s, 0#64, 0#64, 0#64⟩ _ HA4).drewN nq, (HF4.put _).drewN nq, ?_⟩
                            show (shrW r s).toNat + 2 ^ 64 * 0 + 2 ^ 128 * 0 + 2 ^ 192 * 0 = _
                            rw [hfin]
                            omega
                          · exact (B9.put4 (b := br) (.inl (by simp)) orr _).drewN nq
                        clear h4 h5 h6 h7 h8 Z HA4 HF4 hfin B9
                        go_wp2_with fail
                        refine SU.out.mono ?_
                        rintro en W5 ⟨rfl, nq, rfl⟩
                        go_wp2
                        go_end0
                        exact HF.out nq
/-- The same, where the divisor is at most the dividend if a rest is wanted. -/
theorem udivrem_any (bq oq lq cq bu ou lu cu bd od : Nat) (ro : Option (Nat × Nat)) (X : List W64) (D : N4) (w : World) (hQ : RowW w bq oq (List.replicate lq 0#64)) (hU : RowW w bu ou X) (hD : At4 w bd od D)
    (hlu : lu = X.length) (hlu2 : lu ≤ 8) (hlu3 : 4 ≤ lu) (hlq : lu ≤ lq) (hlq2 : lq ≤ 8) (hcu : lu ≤ cu) (nqu : bq ≠ bu) (nqd : bq ≠ bd)
    (hro : ∀ b o, ro = some (b, o) → At4 w b o ⟨0#64, 0#64, 0#64, 0#64⟩ ∧ Free4 w b o ∧ b ≠ bq ∧ b ≠ bu ∧ b ≠ bd ∧ D.toNat ≤ wseg X 0 lu)
    (hD0 : 0 < D.toNat) (hU0 : 0 < wseg X 0 lu) :
    Calls Tryz.prog 31 #[.slice (some ⟨bq, oq, none⟩) lq cq, .slice (some ⟨bu, ou, none⟩) lu cu, .pointer (some ⟨bd, od, none⟩), remV ro] w (RetDiv bq oq lq ro (wseg X 0 lu) D.toNat w) :=
  udivrem_wide bq oq lq cq bu ou lu cu bd od ro X D w hQ hU hD hlu hlu2 hlu3 hlq hlq2 hcu nqu nqd (fun b o e => let ⟨h1, h2, h3, h4, h5, h6⟩ := hro b o e; ⟨h1, h2, h3, h4, h5, .inl h6⟩) hD0 hU0
end Go.Proofs.YtfaocjcpnjmfiaaGreatDoor

namespace Go.Proofs.YtfaocjcpnjmfiaaGreatDoor
open Go.RowKit
set_option linter.unusedVariables false
set_option linter.unusedSimpArgs false
set_option maxRecDepth 20000
theorem isU_toNat {x : N4} (h : x.isU = true) : x.toNat = x.a.toNat := by
  unfold N4.isU at h
  rw [beq_iff_eq] at h
  have h1 : x.b = 0#64 ∧ x.c = 0#64 ∧ x.d = 0#64 := by
    have hb : ∀ i, (x.b ||| x.c ||| x.d).getLsbD i = false := fun i => by rw [h]; simp
    refine ⟨?_, ?_, ?_⟩ <;> apply BitVec.eq_of_getLsbD_eq <;> intro i hi <;> have := hb i <;> simp only [BitVec.getLsbD_or, Bool.or_eq_false_iff] at this <;> simp [this]
  obtain ⟨h1, h2, h3⟩ := h1
  unfold N4.toNat
  rw [h1, h2, h3]
  simp
theorem small_toNat {x : N4} (h : x.toNat < 2 ^ 64) : x.toNat = x.a.toNat := by
  unfold N4.toNat at *
  omega
theorem ofN_small (n : Nat) (x : W64) (h : n = x.toNat) : ofN n = ⟨x, 0#64, 0#64, 0#64⟩ := by
  symm
  apply eq_ofN
  unfold N4.toNat
  have := x.isLt
  simp only [BitVec.toNat_ofNat]
  omega
theorem ofN_zero : ofN 0 = ⟨0#64, 0#64, 0#64, 0#64⟩ := ofN_small 0 0#64 rfl
theorem ofN_one : ofN 1 = ⟨1#64, 0#64, 0#64, 0#64⟩ := ofN_small 1 1#64 rfl
theorem ofN_self (x : N4) : ofN x.toNat = x := (eq_ofN (Nat.mod_eq_of_lt (toNat_lt x)).symm).symm
theorem n4_ofN {l : List W64} {n : Nat} (h : wseg l 0 4 = n) : n4 l = ofN n := by
  apply eq_ofN
  rw [n4_toNat, h]
  have := wseg_lt l 0 4
  rw [h] at this
  exact (Nat.mod_eq_of_lt this).symm
theorem Free4.alloc {a : World} {c o : Nat} (h : Free4 a c o) (hc : c < a.heap.size) (ob : Obj) : Free4 (a.alloc ob) c o := h.bel hc (bel_alloc (bel_refl a) ob)
theorem Left.of_drew (W : World) (m b o n : Nat) (z : N4) : Left W b o z ((put4 (W.drewN m) b o z).drewN n) := ⟨⟨rfl, rfl, rfl, Nat.le_refl _, fun _ _ => rfl⟩⟩
/-- A step from a world that has only new blocks. -/
theorem But.trans' {S : List Nat} {a b c : World} (h : But S a b) (k : But S b c) : But S a c := h.trans k
theorem sliceAll4 (b o : Nat) (w : World) : (Instr.sliceAt 41 (.pointer (some ⟨b, o, none⟩)) none none none).run Tryz.prog w = .ok (.slice (some ⟨b, o, none⟩) 4 4) w := by
  have hl : Tryz.prog.arrayLen 41 = 4 := by kernel_rfl
  rw [run_sliceAt_array_all w _ ⟨b, o, none⟩ (by kernel_rfl), hl]
  have hs : (sizeOf (Tryz.prog.elem 41)).run Tryz.prog w = .ok 1 w := by kernel_rfl
  rw [hs]
  simp [Result.andThen, slicedAt, Addr.add]
/-- The quotient alone: x by y, into a new number. -/
theorem udiv4 (bq c p d q : Nat) (x y : N4) (w : World) (hQ : RowW w bq 0 (List.replicate 4 0#64)) (hx : At4 w c p x) (fx : Free4 w c p) (hy : At4 w d q y) (n1 : bq ≠ c) (n2 : bq ≠ d) (hx0 : 0 < x.toNat) (hy0 : 0 < y.toNat) :
    Calls Tryz.prog 31 #[.slice (some ⟨bq, 0, none⟩) 4 4, .slice (some ⟨c, p, none⟩) 4 4, .pointer (some ⟨d, q, none⟩), .pointer none] w fun e w' => e = .returned (.tuple #[]) ∧ At4 w' bq 0 (ofN (x.toNat / y.toNat)) ∧ But [bq] w w' := by
  have h := udivrem_any bq 0 4 4 c p 4 4 d q none x.l4 y w hQ (RowW.of4 hx fx) hy rfl (by omega) (by omega) (by omega) (by omega) (by omega) n1 n2 (fun b o e => by cases e) hy0 (by rw [N4.wseg4]; exact hx0)
  refine h.mono ?_
  rintro e w' ⟨Q', he, h1, h2, h3, h4, h5⟩
  rw [N4.wseg4] at h2
  refine ⟨he, ?_, h5⟩
  rw [← n4_ofN h2]
  exact h3.at4 (by omega)
/-- Quotient and rest, each into a new number. -/
theorem udivrem4 (bq br c p d q : Nat) (x y : N4) (w : World) (hQ : RowW w bq 0 (List.replicate 4 0#64)) (hr : At4 w br 0 ⟨0#64, 0#64, 0#64, 0#64⟩) (fr : Free4 w br 0) (hx : At4 w c p x) (fx : Free4 w c p) (hy : At4 w d q y) (n1 : bq ≠ c) (n2 : bq ≠ d) (n3 : br ≠ bq) (n4' : br ≠ c) (n5 : br ≠ d) (hle : y.toNat ≤ x.toNat) (hy0 : 0 < y.toNat) :
    Calls Tryz.prog 31 #[.slice (some ⟨bq, 0, none⟩) 4 4, .slice (some ⟨c, p, none⟩) 4 4, .pointer (some ⟨d, q, none⟩), .pointer (some ⟨br, 0, none⟩)] w fun e w' => e = .returned (.tuple #[]) ∧ At4 w' bq 0 (ofN (x.toNat / y.toNat)) ∧ At4 w' br 0 (ofN (x.toNat % y.toNat)) ∧ But [bq, br] w w' := by
  have h := udivrem_any bq 0 4 4 c p 4 4 d q (some (br, 0)) x.l4 y w hQ (RowW.of4 hx fx) hy rfl (by omega) (by omega) (by omega) (by omega) (by omega) n1 n2 (fun b o e => by cases e; exact ⟨hr, fr, n3, n4', n5, by rw [N4.wseg4]; exact hle⟩) hy0 (by rw [N4.wseg4]; omega)
  refine h.mono ?_
  rintro e w' ⟨Q', he, h1, h2, h3, h4, h5⟩
  rw [N4.wseg4] at h2
  obtain ⟨r, r1, r2, r3⟩ := h4 br 0 rfl
  rw [N4.wseg4] at r3
  refine ⟨he, ?_, ?_, h5⟩
  · rw [← n4_ofN h2]
    exact h3.at4 (by omega)
  · rw [← r3, ofN_self]
    exact r1
end Go.Proofs.YtfaocjcpnjmfiaaGreatDoor
