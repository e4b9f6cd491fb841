/-
  Plain law: the logarithm to base 10, by the number of bits and one comparison.
-/
import Derived.Lib.ItoaNum
namespace Go.Proofs.YtpjljjajnfoccaaDoor
/-- The first guess. -/
def logT (nb : Nat) : Nat := (nb + 1) * 1233 / 4096
def logOk (nb : Nat) : Bool := (logT nb == 0 || decide (10 ^ (logT nb - 1) ≤ 2 ^ (nb - 1))) && decide (2 ^ nb ≤ 10 ^ (logT nb + 1)) && (decide (nb ≤ 64 ∨ 20 ≤ logT nb) || decide (10 ^ logT nb ≤ 2 ^ (nb - 1))) && decide (logT nb ≤ 77) && (decide (64 < nb) || decide (logT nb < 20))
theorem logOk_all : ((List.range 257).drop 1).all logOk = true := by decide +kernel
theorem logOk_of {nb : Nat} (h0 : 0 < nb) (h : nb ≤ 256) : logOk nb = true := by
  have := List.all_eq_true.1 logOk_all nb
  refine this ?_
  rw [List.mem_iff_getElem?]
  refine ⟨nb - 1, ?_⟩
  rw [List.getElem?_drop, List.getElem?_range (by omega)]
  congr 1
  omega
theorem nDigits_eq : ∀ (k v : Nat), 10 ^ k ≤ v → v < 10 ^ (k + 1) → Lib.nDigits v = k + 1
  | 0, v, _, h => by rw [Lib.nDigits_small (by simpa using h)]
  | k + 1, v, h1, h2 => by
    have h10 : ¬ v < 10 := by have : 10 ≤ 10 ^ (k + 1) := Nat.le_trans (by decide) (Nat.pow_le_pow_right (n := 10) (by decide) (show 1 ≤ k + 1 by omega)); omega
    rw [Lib.nDigits_big h10, nDigits_eq k (v / 10) (by rw [Nat.le_div_iff_mul_le (by decide), ← Nat.pow_succ]; exact h1) (by rw [Nat.div_lt_iff_lt_mul (by decide), ← Nat.pow_succ]; exact h2)]
/-- The law: v has nb bits; where the comparison is made it decides. -/
theorem log_law {v nb : Nat} (h0 : 0 < nb) (h : nb ≤ 256) (h1 : 2 ^ (nb - 1) ≤ v) (h2 : v < 2 ^ nb) :
    logT nb ≤ 77 ∧ (nb ≤ 64 → logT nb < 20) ∧ (v < 10 ^ logT nb → 1 ≤ logT nb ∧ (nb ≤ 64 ∨ 20 ≤ logT nb) ∧ Lib.nDigits v - 1 = logT nb - 1) ∧ (¬ v < 10 ^ logT nb → Lib.nDigits v - 1 = logT nb) := by
  have k := logOk_of h0 h
  unfold logOk at k
  simp only [Bool.and_eq_true, Bool.or_eq_true, beq_iff_eq, decide_eq_true_eq] at k
  obtain ⟨⟨⟨⟨k1, k2⟩, k3⟩, k4⟩, k5⟩ := k
  refine ⟨k4, fun hh => by omega, fun hv => ?_, fun hv => ?_⟩
  · have t1 : 1 ≤ logT nb := by
      rcases Nat.eq_zero_or_pos (logT nb) with e | e
      · rw [e, Nat.pow_zero] at hv
        have := Nat.two_pow_pos (nb - 1)
        omega
      · exact e
    have h3 : nb ≤ 64 ∨ 20 ≤ logT nb := by
      rcases k3 with k3 | k3
      · exact k3
      · omega
    refine ⟨t1, h3, ?_⟩
    obtain ⟨t, ht⟩ : ∃ t, logT nb = t + 1 := ⟨logT nb - 1, by omega⟩
    rw [ht] at hv k1 ⊢
    rw [nDigits_eq t v (by
      rcases k1 with k1 | k1
      · omega
      · rw [Nat.add_sub_cancel] at k1; omega) hv]
  · rw [nDigits_eq (logT nb) v (by omega) (by omega)]
    omega
end Go.Proofs.YtpjljjajnfoccaaDoor
