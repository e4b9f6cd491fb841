/-
  Plain laws on rows of words for Knuth's division: a digit's round. No program in sight but the words' definitions.
-/
import Derived.Test.YtfaocjcpnjmfiaaDoorDiv3
namespace Go.Proofs.YtfaocjcpnjmfiaaDoor
set_option linter.unusedVariables false
/-- One word of a quotient by one word. -/
theorem by1_round (U Q : List W64) (k c d r q r' S : Nat) (T : Nat) (hT : T = 18446744073709551616 ^ (k + 1) * (S * d + r) + wseg U 0 (k + 1)) (hq : q = (r * 18446744073709551616 + (wd U k).toNat) / d) (hr : r' = (r * 18446744073709551616 + (wd U k).toNat) % d) :
    T = 18446744073709551616 ^ k * ((q + 18446744073709551616 * S) * d + r') + wseg U 0 k := by
  have h := Nat.div_add_mod (r * 18446744073709551616 + (wd U k).toNat) d
  rw [← hq, ← hr] at h
  rw [hT, wseg, Nat.zero_add]
  generalize (wd U k).toNat = x at *
  generalize wseg U 0 k = y at *
  have e : 18446744073709551616 ^ (k + 1) * (S * d + r) + (y + 18446744073709551616 ^ k * x) = 18446744073709551616 ^ k * (18446744073709551616 * S * d + (r * 18446744073709551616 + x)) + y := by
    rw [Nat.pow_succ]; grind
  rw [e, ← h]
  grind
/-- What is left of a digit's product: the digit is right, or one too great. -/
theorem kn_right (P X Xl u2 D q r qh br Ll : Nat) (hX : X = Xl + P * u2) (hq : X = D * q + r) (hr : r < D) (hD : D < P) (hL : Ll < P) (hXl : Xl < P) (hs : Ll + D * qh = Xl + P * br) (hh : qh = q) : br = u2 ∧ Ll = r := by
  subst hh
  have hb : br = u2 := by
    rcases Nat.lt_trichotomy br u2 with h | h | h
    · exfalso
      have : P * (br + 1) ≤ P * u2 := Nat.mul_le_mul_left _ h
      rw [Nat.mul_add, Nat.mul_one] at this
      omega
    · exact h
    · exfalso
      have : P * (u2 + 1) ≤ P * br := Nat.mul_le_mul_left _ h
      rw [Nat.mul_add, Nat.mul_one] at this
      omega
  subst hb
  exact ⟨rfl, by omega⟩
theorem kn_over (P X Xl u2 D q r qh br Ll : Nat) (hX : X = Xl + P * u2) (hq : X = D * q + r) (hr : r < D) (hD : D < P) (hL : Ll < P) (hXl : Xl < P) (hs : Ll + D * qh = Xl + P * br) (hh : qh = q + 1) : br = u2 + 1 ∧ Ll + D = r + P := by
  subst hh
  rw [Nat.mul_add, Nat.mul_one] at hs
  have hb : br = u2 + 1 := by
    rcases Nat.lt_trichotomy br (u2 + 1) with h | h | h
    · exfalso
      have : P * (br + 1) ≤ P * (u2 + 1) := Nat.mul_le_mul_left _ h
      rw [Nat.mul_add, Nat.mul_one, Nat.mul_add, Nat.mul_one] at this
      omega
    · exact h
    · exfalso
      have : P * (u2 + 1 + 1) ≤ P * br := Nat.mul_le_mul_left _ h
      rw [Nat.mul_add, Nat.mul_one, Nat.mul_add, Nat.mul_one] at this
      omega
  subst hb
  rw [Nat.mul_add, Nat.mul_one] at hs
  exact ⟨rfl, by omega⟩
theorem kn_back (P r D Ll Lx c : Nat) (h : Ll + D = r + P) (hs : Lx + P * c = Ll + D) (hc : c ≤ 1) (hr : r < P) (hl : Lx < P) : c = 1 ∧ Lx = r := by
  rcases (by omega : c = 0 ∨ c = 1) with h0 | h0
  · subst h0; omega
  · subst h0; omega
/-- The row's equation after a digit. -/
theorem kn_step (U0 U1 U2 Q1 Q2 : List W64) (p m n D q r : Nat) (hp : p < m) (hE : wseg U0 0 (m + n) = 18446744073709551616 ^ (p + 1) * wseg Q1 (p + 1) (m - (p + 1)) * D + wseg U1 0 (p + 1 + n))
    (hX : wseg U1 p (n + 1) = D * q + r) (h2 : wseg U2 p n = r) (hlow : ∀ i, i < p → wd U2 i = wd U1 i) (hq : (wd Q2 p).toNat = q) (hhi : ∀ i, p < i → wd Q2 i = wd Q1 i) :
    wseg U0 0 (m + n) = 18446744073709551616 ^ p * wseg Q2 p (m - p) * D + wseg U2 0 (p + n) := by
  have s1 := wseg_split U1 0 p (n + 1)
  have s2 := wseg_split U2 0 p n
  rw [Nat.zero_add] at s1 s2
  have c1 : wseg U2 0 p = wseg U1 0 p := wseg_congr (fun i hi => by rw [Nat.zero_add]; exact hlow i hi)
  have e1 : m - p = (m - (p + 1)) + 1 := by omega
  have h1 := wseg_head Q2 p (m - (p + 1))
  have c2 : wseg Q2 (p + 1) (m - (p + 1)) = wseg Q1 (p + 1) (m - (p + 1)) := wseg_congr (fun i hi => hhi _ (by omega))
  rw [c2, hq] at h1
  rw [hE, e1, h1, s2, c1, h2, show p + 1 + n = p + (n + 1) by omega, s1, hX, Nat.pow_succ]
  grind
/-- The digit that the code guesses. -/
theorem kn_digit (U D : List W64) (p n : Nat) (hn : 2 ≤ n) (hh : 9223372036854775808 ≤ (wd D (n - 1)).toNat) (hU : wseg U p (n + 1) < wseg D 0 n * 18446744073709551616) :
    (¬ (wd U (p + n)).toNat < (wd D (n - 1)).toNat → wseg U p (n + 1) / wseg D 0 n ≤ 18446744073709551615 ∧ 18446744073709551615 ≤ wseg U p (n + 1) / wseg D 0 n + 1) ∧
    ((wd U (p + n)).toNat < (wd D (n - 1)).toNat → ∀ qe re : Nat, qe = ((wd U (p + n)).toNat * 18446744073709551616 + (wd U (p + n - 1)).toNat) / (wd D (n - 1)).toNat → re = ((wd U (p + n)).toNat * 18446744073709551616 + (wd U (p + n - 1)).toNat) % (wd D (n - 1)).toNat →
      (re * 18446744073709551616 + (wd U (p + n - 2)).toNat < qe * (wd D (n - 2)).toNat → wseg U p (n + 1) / wseg D 0 n ≤ qe - 1 ∧ qe - 1 ≤ wseg U p (n + 1) / wseg D 0 n + 1 ∧ 1 ≤ qe) ∧
      (¬ re * 18446744073709551616 + (wd U (p + n - 2)).toNat < qe * (wd D (n - 2)).toNat → wseg U p (n + 1) / wseg D 0 n ≤ qe ∧ qe ≤ wseg U p (n + 1) / wseg D 0 n + 1)) := by
  obtain ⟨s, rfl⟩ : ∃ s, n = s + 2 := ⟨n - 2, by omega⟩
  rw [show s + 2 - 1 = s + 1 by omega, show s + 2 - 2 = s by omega, show p + (s + 2) - 1 = p + (s + 1) by omega, show p + (s + 2) - 2 = p + s by omega] at *
  have eD : wseg D 0 (s + 2) = ((wd D (s + 1)).toNat * 18446744073709551616 + (wd D s).toNat) * 18446744073709551616 ^ s + wseg D 0 s := by
    rw [wseg, wseg, Nat.zero_add, Nat.zero_add, Nat.pow_succ]; grind
  have eU : wseg U p (s + 2 + 1) = (((wd U (p + (s + 2))).toNat * 18446744073709551616 + (wd U (p + (s + 1))).toNat) * 18446744073709551616 + (wd U (p + s)).toNat) * 18446744073709551616 ^ s + wseg U p s := by
    rw [wseg, wseg, wseg, Nat.pow_succ, Nat.pow_succ]; grind
  have dr := wseg_lt D 0 s
  have ur := wseg_lt U p s
  have b1 := (wd D (s + 1)).isLt
  have b2 := (wd D s).isLt
  have b3 := (wd U (p + (s + 1))).isLt
  have b4 := (wd U (p + s)).isLt
  have hP : 0 < 18446744073709551616 ^ s := Nat.pow_pos (by decide)
  rw [eU, eD] at hU
  rw [eU, eD]
  generalize 18446744073709551616 ^ s = P at *
  generalize wseg D 0 s = d0 at *
  generalize wseg U p s = u0 at *
  generalize (wd D (s + 1)).toNat = dh at *
  generalize (wd D s).toNat = dl at *
  generalize (wd U (p + (s + 2))).toNat = w2 at *
  generalize (wd U (p + (s + 1))).toNat = w1 at *
  generalize (wd U (p + s)).toNat = w0 at *
  refine ⟨fun h => ?_, fun h qe re hqe hre => ?_⟩
  · exact knuth_top P dh dl d0 w2 w1 w0 u0 _ hP dr (by omega) b1 b2 hU (Nat.le_of_not_lt h) rfl
  · exact knuth_digit P dh dl d0 w2 w1 w0 u0 qe re _ hP dr ur (by omega) b1 b2 b3 b4 hU h hqe hre rfl
end Go.Proofs.YtfaocjcpnjmfiaaDoor
