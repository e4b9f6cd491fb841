/-
  Plain laws on rows of words: a row shifted up, so that a divisor's highest bit is set, and a rest shifted down again. No program in sight but the words' definitions.
-/
import Derived.Test.YtfaocjcpnjmfiaaDoorDivMath2
namespace Go.Proofs.YtfaocjcpnjmfiaaDoor
set_option linter.unusedVariables false
theorem wseg_set_above {l : List W64} {j k i : Nat} {v : W64} (h : j + k ≤ i) : wseg (l.set i v) j k = wseg l j k := by
  refine wseg_congr (fun t ht => ?_)
  by_cases hi : i < l.length
  · rw [wd_set _ _ _ _ hi, if_neg (by omega)]
  · rw [List.set_eq_of_length_le (by omega)]
/-- A word of a row that is shifted up by s. -/
def nrmW (l : List W64) (s : W64) (i : Nat) : W64 := if i = 0 then shlW (wd l 0) s else shlW (wd l i) s ||| shrW (wd l (i - 1)) (restW s)
theorem nrm_carry (x s : W64) (hs : s.toNat < 64) : (shrW x (restW s)).toNat = x.toNat * 2 ^ s.toNat / 2 ^ 64 := by
  have e := pow64 s.toNat (by omega)
  rw [shrW_toNat, restW_toNat s (by omega), e, Nat.mul_div_mul_right _ _ (Nat.two_pow_pos _)]
/-- The row shifted up: its words, and what leaves it above. -/
theorem nrm_seg (l m : List W64) (s : W64) (hs : s.toNat < 64) (n : Nat) (hm : ∀ i, i < n → wd m i = nrmW l s i) (hn : 0 < n) :
    wseg m 0 n + 18446744073709551616 ^ n * ((wd l (n - 1)).toNat * 2 ^ s.toNat / 2 ^ 64) = wseg l 0 n * 2 ^ s.toNat := by
  induction n with
  | zero => omega
  | succ n ih =>
    rw [wseg, wseg, Nat.zero_add, Nat.add_sub_cancel, hm n (Nat.lt_succ_self _)]
    by_cases h0 : n = 0
    · subst h0
      unfold nrmW
      rw [if_pos rfl, shlW_toNat]
      simp only [wseg, Nat.pow_zero, Nat.one_mul, Nat.zero_add, Nat.pow_one]
      have := Nat.mod_add_div ((wd l 0).toNat * 2 ^ s.toNat) (2 ^ 64)
      exact this
    · have h1 := ih (fun i hi => hm i (by omega)) (by omega)
      unfold nrmW
      rw [if_neg h0, shl_or _ _ _ hs]
      have h2 := Nat.mod_add_div ((wd l n).toNat * 2 ^ s.toNat) (2 ^ 64)
      have e3 : (18446744073709551616 : Nat) ^ (n + 1) = 18446744073709551616 ^ n * 18446744073709551616 := Nat.pow_succ _ _
      have e4 : (wseg l 0 n + 18446744073709551616 ^ n * (wd l n).toNat) * 2 ^ s.toNat = wseg l 0 n * 2 ^ s.toNat + 18446744073709551616 ^ n * ((wd l n).toNat * 2 ^ s.toNat) := by rw [Nat.add_mul, Nat.mul_assoc]
      have e5 : (wd l (n - 1)).toNat * 2 ^ s.toNat / 2 ^ 64 = (wd l (n - 1)).toNat * 2 ^ s.toNat / 2 ^ 64 := rfl
      rw [e3, e4, ← h1]
      generalize (wd l (n - 1)).toNat * 2 ^ s.toNat / 2 ^ 64 = c at *
      generalize (wd l n).toNat * 2 ^ s.toNat = X at *
      obtain ⟨a, ha⟩ : ∃ a, a = X % 2 ^ 64 := ⟨_, rfl⟩
      obtain ⟨b, hb⟩ : ∃ b, b = X / 2 ^ 64 := ⟨_, rfl⟩
      rw [← ha, ← hb] at h2 ⊢
      have e6 : X = a + 18446744073709551616 * b := h2.symm
      clear h2 ha hb e4
      subst e6
      generalize 18446744073709551616 ^ n = P at *
      have e1 : P * (a + c) = P * a + P * c := Nat.mul_add _ _ _
      have e2 : P * (a + 18446744073709551616 * b) = P * a + P * 18446744073709551616 * b := by rw [Nat.mul_add, Nat.mul_assoc]
      rw [e1, e2]
      omega
/-- A word of a row of n words that is shifted down by s. -/
def unnW (l : List W64) (s : W64) (n i : Nat) : W64 := if i + 1 = n then shrW (wd l i) s else shrW (wd l i) s ||| shlW (wd l (i + 1)) (restW s)
theorem unn_seg (l m : List W64) (s : W64) (hs : s.toNat < 64) (n : Nat) (hm : ∀ i, i < n → wd m i = unnW l s n i) : ∀ k i, i + k + 1 = n → wseg m i (k + 1) * 2 ^ s.toNat + (wd l i).toNat % 2 ^ s.toNat = wseg l i (k + 1) := by
  intro k
  induction k with
  | zero =>
    intro i hi
    simp only [wseg, Nat.pow_zero, Nat.one_mul, Nat.zero_add, Nat.add_zero]
    rw [hm i (by omega)]
    unfold unnW
    rw [if_pos (by omega), shrW_toNat]
    have := Nat.div_add_mod (wd l i).toNat (2 ^ s.toNat)
    rw [Nat.mul_comm] at this
    exact this
  | succ k ih =>
    intro i hi
    have h1 := ih (i + 1) (by omega)
    rw [wseg_head m, wseg_head l, hm i (by omega), ← h1]
    unfold unnW
    rw [if_neg (by omega), shr_or _ _ _ hs]
    have h2 := Nat.div_add_mod (wd l i).toNat (2 ^ s.toNat)
    have e := pow64 s.toNat (by omega)
    have e' : (18446744073709551616 : Nat) = 2 ^ (64 - s.toNat) * 2 ^ s.toNat := e
    generalize (wd l i).toNat / 2 ^ s.toNat = a at *
    generalize (wd l i).toNat % 2 ^ s.toNat = b at *
    generalize (wd l (i + 1)).toNat % 2 ^ s.toNat = c at *
    generalize wseg m (i + 1) (k + 1) = M at *
    rw [← h2, e']
    generalize 2 ^ (64 - s.toNat) = R at *
    generalize 2 ^ s.toNat = T at *
    grind
theorem unn_all (l m : List W64) (s : W64) (hs : s.toNat < 64) (n : Nat) (hn : 0 < n) (hm : ∀ i, i < n → wd m i = unnW l s n i) : wseg m 0 n = wseg l 0 n / 2 ^ s.toNat := by
  obtain ⟨k, rfl⟩ : ∃ k, n = k + 1 := ⟨n - 1, by omega⟩
  have h := unn_seg l m s hs (k + 1) hm k 0 (by omega)
  have hb := Nat.mod_lt (wd l 0).toNat (Nat.two_pow_pos s.toNat)
  rw [← h, Nat.mul_comm, Nat.mul_add_div (Nat.two_pow_pos _), Nat.div_eq_of_lt hb]
  exact (Nat.add_zero _).symm
/-- The divisor's shift. -/
def shD (x : W64) : W64 := BitVec.ofNat 64 (64 - Lib.bitLen x.toNat)
theorem shD_toNat (x : W64) : (shD x).toNat = 64 - Lib.bitLen x.toNat := by
  unfold shD; rw [BitVec.toNat_ofNat]; omega
theorem shD_lt (x : W64) (h : x ≠ 0#64) : (shD x).toNat < 64 := by
  have h0 : x.toNat ≠ 0 := fun e => h (BitVec.eq_of_toNat_eq e)
  have := (bl_shift x.toNat x.isLt h0).1
  rw [shD_toNat]; omega
/-- A divisor of n words, shifted up. -/
theorem div_nrm (l m : List W64) (n : Nat) (hn : 0 < n) (ht : wd l (n - 1) ≠ 0#64) (hm : ∀ i, i < n → wd m i = nrmW l (shD (wd l (n - 1))) i) :
    wseg m 0 n = wseg l 0 n * 2 ^ (shD (wd l (n - 1))).toNat ∧ 9223372036854775808 ≤ (wd m (n - 1)).toNat := by
  have h0 : (wd l (n - 1)).toNat ≠ 0 := fun e => ht (BitVec.eq_of_toNat_eq e)
  obtain ⟨b1, b2, b3⟩ := bl_shift (wd l (n - 1)).toNat (wd l (n - 1)).isLt h0
  have hs := shD_lt _ ht
  have h := nrm_seg l m _ hs n hm hn
  rw [shD_toNat] at *
  rw [Nat.div_eq_of_lt b3, Nat.mul_zero, Nat.add_zero] at h
  refine ⟨h, ?_⟩
  rw [hm (n - 1) (by omega)]
  unfold nrmW
  by_cases hz : n - 1 = 0
  · rw [if_pos hz, shlW_toNat, shD_toNat, ← hz, Nat.mod_eq_of_lt b3]
    exact b2
  · rw [if_neg hz, shl_or _ _ _ (by rw [shD_toNat]; omega), shD_toNat, Nat.mod_eq_of_lt b3]
    omega
/-- A dividend of k words, shifted up: k + 1 words. -/
theorem num_nrm (l m : List W64) (s : W64) (hs : s.toNat < 64) (k : Nat) (hk : 0 < k) (hm : ∀ i, i < k → wd m i = nrmW l s i) (ht : wd m k = shrW (wd l (k - 1)) (restW s)) :
    wseg m 0 (k + 1) = wseg l 0 k * 2 ^ s.toNat ∧ (wd m k).toNat < 2 ^ s.toNat := by
  have h := nrm_seg l m s hs k hm hk
  rw [wseg, Nat.zero_add, ht, nrm_carry _ _ hs]
  refine ⟨h, ?_⟩
  refine Nat.div_lt_of_lt_mul ?_
  exact Nat.mul_lt_mul_of_pos_right (wd l (k - 1)).isLt (Nat.two_pow_pos _)
/-- What a division of the shifted numbers tells of the numbers. -/
theorem div_back (T U D Q R : Nat) (hT : 0 < T) (h : U * T = Q * (D * T) + R) (hR : R < D * T) : Q = U / D ∧ R = U % D * T := by
  have hD : 0 < D := by
    rcases Nat.eq_zero_or_pos D with h0 | h0
    · subst h0; omega
    · exact h0
  have h1 : R = (U - Q * D) * T := by
    rw [Nat.sub_mul, h]
    have : Q * D * T = Q * (D * T) := Nat.mul_assoc _ _ _
    omega
  have h2 : Q * D ≤ U := by
    have : Q * D * T ≤ U * T := by rw [h, Nat.mul_assoc]; omega
    exact Nat.le_of_mul_le_mul_right this hT
  have h3 : U - Q * D < D := by
    rw [h1] at hR
    exact Nat.lt_of_mul_lt_mul_right hR
  obtain ⟨r, hr⟩ : ∃ r, r = U - Q * D := ⟨_, rfl⟩
  have h4 : U = D * Q + r := by rw [hr, Nat.mul_comm D]; omega
  rw [← hr] at h1 h3
  subst h1
  clear hr h2 h hR
  subst h4
  refine ⟨?_, ?_⟩
  · rw [Nat.mul_add_div hD, Nat.div_eq_of_lt h3]; exact (Nat.add_zero _).symm
  · rw [Nat.mul_add_mod, Nat.mod_eq_of_lt h3]
theorem wseg_len {l : List W64} {n m : Nat} (hn : n ≤ m) (h : ∀ i, n ≤ i → wd l i = 0#64) : wseg l 0 m = wseg l 0 n := by
  obtain ⟨k, rfl⟩ : ∃ k, m = n + k := ⟨m - n, by omega⟩
  have h1 : wseg l (0 + n) k = 0 := wseg_zero (fun t ht => h _ (by omega))
  rw [wseg_split, h1, Nat.mul_zero]
  rfl
theorem wseg_ge {l : List W64} {n : Nat} (h : wd l n ≠ 0#64) : 18446744073709551616 ^ n ≤ wseg l 0 (n + 1) := by
  have h0 : 1 ≤ (wd l n).toNat := by
    rcases Nat.eq_zero_or_pos (wd l n).toNat with h1 | h1
    · exact absurd (BitVec.eq_of_toNat_eq h1) h
    · exact h1
  rw [wseg, Nat.zero_add]
  have := Nat.mul_le_mul_left (18446744073709551616 ^ n) h0
  omega
/-- A dividend of fewer words than the divisor. -/
theorem few_words {X D : List W64} {e k a b : Nat} (he : ∀ i, e < i → wd X i = 0#64) (ha : e + 1 ≤ a) (hk : wd D k ≠ 0#64) (hb : k + 1 ≤ b) (hkz : ∀ i, k < i → wd D i = 0#64) (hek : e < k) : wseg X 0 a < wseg D 0 b := by
  rw [wseg_len (l := X) ha (fun i hi => he i (by omega)), wseg_len (l := D) hb (fun i hi => hkz i (by omega))]
  have h1 := wseg_lt X 0 (e + 1)
  have h2 := wseg_ge hk
  have h3 : 18446744073709551616 ^ (e + 1) ≤ 18446744073709551616 ^ k := Nat.pow_le_pow_right (by decide) hek
  omega
/-- The highest words of the shifted dividend are below the shifted divisor. -/
theorem kn_pre (X N M D : List W64) (T e k m n : Nat) (hm : m + n = e + 2) (hn : n = k + 1) (hN : wseg N 0 (e + 2) = wseg X 0 (e + 1) * T) (hM : wseg M 0 n = wseg D 0 n * T) (hT : 0 < T) (hk : wd D k ≠ 0#64) : wseg N m n < wseg M 0 n := by
  rcases Nat.lt_or_ge (wseg N m n) (wseg M 0 n) with h | h
  · exact h
  · exfalso
    have h1 := wseg_split N 0 m n
    rw [hm, Nat.zero_add, hN] at h1
    have h2 := wseg_ge hk
    rw [← hn] at h2
    have h3 := wseg_lt X 0 (e + 1)
    have h4 : 18446744073709551616 ^ m * (18446744073709551616 ^ k * T) ≤ 18446744073709551616 ^ m * wseg N m n := Nat.mul_le_mul_left _ (Nat.le_trans (Nat.mul_le_mul_right T h2) (by rw [← hM]; exact h))
    have h5 : 18446744073709551616 ^ m * (18446744073709551616 ^ k * T) = 18446744073709551616 ^ (e + 1) * T := by
      rw [← Nat.mul_assoc, ← Nat.pow_add, show m + k = e + 1 by omega]
    have h6 : wseg X 0 (e + 1) * T < 18446744073709551616 ^ (e + 1) * T := Nat.mul_lt_mul_of_pos_right h3 hT
    omega
end Go.Proofs.YtfaocjcpnjmfiaaDoor
