/-
  Plain laws on natural numbers: the steps of the reference's long product and long division. No program in sight.
-/
import Derived.Test.YtfaocjcpnjmfiaaGreatDoorDig5
namespace Go.Proofs.YtfaocjcpnjmfiaaGreatDoor
theorem bit_of (N n : Nat) : N / 65536 ^ (n / 16) % 65536 / 2 ^ (n % 16) % 2 = N / 2 ^ n % 2 := by
  have e1 : (65536 : Nat) ^ (n / 16) = 2 ^ (16 * (n / 16)) := by rw [Nat.pow_mul]
  have hr : n % 16 < 16 := Nat.mod_lt _ (by decide)
  have hn : 2 ^ n = 2 ^ (16 * (n / 16)) * 2 ^ (n % 16) := by rw [← Nat.pow_add]; congr 1; omega
  rw [e1, hn, ← Nat.div_div_eq_div_mul]
  generalize N / 2 ^ (16 * (n / 16)) = X
  generalize n % 16 = r at hr
  have h2 : (65536 : Nat) = 2 ^ r * 2 ^ (16 - r) := by rw [← Nat.pow_add, show r + (16 - r) = 16 by omega]
  have h3 : 2 ^ (16 - r) = 2 * 2 ^ (15 - r) := by rw [show 16 - r = (15 - r) + 1 by omega, Nat.pow_succ, Nat.mul_comm]
  rw [h2, Nat.mod_mul_right_div_self, h3, Nat.mod_mul_right_mod]
theorem div_step (A B m : Nat) (hB : 0 < B) : let R := A / 2 ^ (m + 1) % B; let Q := A / 2 ^ (m + 1) / B; let d := A / 2 ^ m % 2;
    A / 2 ^ m = 2 * (A / 2 ^ (m+1)) + d ∧ (2 * R + d < B → A / 2 ^ m % B = 2 * R + d ∧ A / 2 ^ m / B = 2 * Q) ∧ (B ≤ 2 * R + d → A / 2 ^ m % B = 2 * R + d - B ∧ A / 2 ^ m / B = 2 * Q + 1) := by
  intro R Q d
  have h1 : A / 2 ^ (m + 1) = A / 2 ^ m / 2 := by rw [Nat.pow_succ, Nat.div_div_eq_div_mul]
  have h2 : A / 2 ^ m = 2 * (A / 2 ^ (m+1)) + d := by rw [h1]; show _ = _ + A / 2 ^ m % 2; omega
  have h3 : A / 2 ^ (m+1) = B * Q + R := by show _ = B * (A / 2 ^ (m + 1) / B) + A / 2 ^ (m + 1) % B; rw [Nat.div_add_mod]
  have h4 : R < B := Nat.mod_lt _ hB
  have hd : d < 2 := Nat.mod_lt _ (by decide)
  refine ⟨h2, fun h => ?_, fun h => ?_⟩
  · have e : A / 2 ^ m = B * (2 * Q) + (2 * R + d) := by rw [h2, h3]; grind
    rw [e]
    exact ⟨by rw [Nat.mul_add_mod, Nat.mod_eq_of_lt h], by rw [Nat.mul_add_div hB, Nat.div_eq_of_lt h, Nat.add_zero]⟩
  · obtain ⟨s, hs⟩ : ∃ s, 2 * R + d = s + B := ⟨2 * R + d - B, by omega⟩
    have e : A / 2 ^ m = B * (2 * Q + 1) + s := by
      have h5 : B * (2 * Q + 1) = 2 * (B * Q) + B := by grind
      rw [h5, h2, h3]; omega
    have hlt : s < B := by omega
    rw [e, hs, Nat.add_sub_cancel]
    exact ⟨by rw [Nat.mul_add_mod, Nat.mod_eq_of_lt hlt], by rw [Nat.mul_add_div hB, Nat.div_eq_of_lt hlt, Nat.add_zero]⟩
theorem times_step (o b : List Nat) (i k r ai s V : Nat) (h : val o + 65536 ^ (i + k) * r = V + 65536 ^ i * (ai * vlow b k)) (hs : s = r + dig o (i + k) + ai * dig b k) (hl : i + k < o.length) :
    val (o.set (i + k) (s % 65536)) + 65536 ^ (i + (k + 1)) * (s / 65536) = V + 65536 ^ i * (ai * vlow b (k + 1)) := by
  have e1 := val_set (d := s % 65536) hl
  have e2 : 65536 ^ (i + (k + 1)) = 65536 ^ (i + k) * 65536 := by rw [← Nat.add_assoc, Nat.pow_succ]
  have e3 : 65536 ^ (i + k) * (s % 65536) + 65536 ^ (i + k) * 65536 * (s / 65536) = 65536 ^ (i + k) * s := by
    rw [Nat.mul_assoc, ← Nat.mul_add, Nat.mod_add_div]
  have e4 : 65536 ^ (i + k) * s = 65536 ^ (i + k) * r + 65536 ^ (i + k) * dig o (i + k) + 65536 ^ i * (ai * (65536 ^ k * dig b k)) := by
    rw [hs, Nat.pow_add]; grind
  have e5 : 65536 ^ i * (ai * vlow b (k + 1)) = 65536 ^ i * (ai * vlow b k) + 65536 ^ i * (ai * (65536 ^ k * dig b k)) := by
    rw [vlow]; grind
  rw [e2, e5]
  omega
theorem times_bound (o a b : List Nat) (i k r : Nat) (da : Digits a) (db : Digits b) (h : val o + 65536 ^ (i + k) * r = vlow a i * val b + 65536 ^ i * (dig a i * vlow b k)) (hr : 0 < r) (hk : b.length ≤ k) : k ≤ b.length := by
  rw [vlow_ge hk] at h
  have e1 : vlow a i * val b + 65536 ^ i * (dig a i * val b) = vlow a (i + 1) * val b := by rw [vlow]; grind
  have h1 := vlow_lt da (i + 1)
  have h2 : val b < 65536 ^ b.length := vlow_lt db b.length
  have h3 : vlow a (i + 1) * val b < 65536 ^ (i + 1) * 65536 ^ b.length := Nat.mul_lt_mul_of_lt_of_lt h1 h2
  rw [← Nat.pow_add, ← e1, ← h] at h3
  have h4 : 65536 ^ (i + k) * 1 ≤ 65536 ^ (i + k) * r := Nat.mul_le_mul_left _ hr
  have h5 : 65536 ^ (i + k) < 65536 ^ (i + 1 + b.length) := by omega
  have := (Nat.pow_lt_pow_iff_right (by decide : 1 < 65536)).1 h5
  omega
theorem times_end (o a b : List Nat) (i k : Nat) (h : val o + 65536 ^ (i + k) * 0 = vlow a i * val b + 65536 ^ i * (dig a i * vlow b k)) (hk : b.length ≤ k) : val o = vlow a (i + 1) * val b := by
  rw [vlow_ge hk] at h
  rw [vlow]
  grind
/-- The quotient's digits: bit n is set where none of the bits up to n is. -/
theorem or_bit (d r : Nat) (hd : d < 65536) (hr : r < 16) (hz : d % 2 ^ (r + 1) = 0) : d + 2 ^ r < 65536 ∧ d ||| 2 ^ r = d + 2 ^ r := by
  have hp : 2 ^ (r + 1) = 2 * 2 ^ r := by rw [Nat.pow_succ, Nat.mul_comm]
  have h1 : 65536 = 2 ^ (r + 1) * 2 ^ (15 - r) := by rw [← Nat.pow_add, show r + 1 + (15 - r) = 16 by omega]
  have hq : d = 2 ^ (r + 1) * (d / 2 ^ (r + 1)) := by have := Nat.div_add_mod d (2 ^ (r + 1)); omega
  have hpos : 0 < 2 ^ r := Nat.two_pow_pos r
  constructor
  · have h2 : d / 2 ^ (r + 1) < 2 ^ (15 - r) := Nat.div_lt_of_lt_mul (by rw [← h1]; exact hd)
    have h3 : 2 ^ (r + 1) * (d / 2 ^ (r + 1) + 1) ≤ 2 ^ (r + 1) * 2 ^ (15 - r) := Nat.mul_le_mul_left _ h2
    rw [← h1, Nat.mul_add, ← hq] at h3
    omega
  · have := Nat.two_pow_add_eq_or_of_lt (i := r + 1) (b := 2 ^ r) (by omega) (d / 2 ^ (r + 1))
    rw [← hq] at this
    exact this.symm
/-- A digit of a number that 2^m divides. -/
theorem dig_zero (N n : Nat) (h : N % 2 ^ (n + 1) = 0) : N / 65536 ^ (n / 16) % 65536 % 2 ^ (n % 16 + 1) = 0 := by
  have e1 : (65536 : Nat) ^ (n / 16) = 2 ^ (16 * (n / 16)) := by rw [Nat.pow_mul]
  have hr : n % 16 < 16 := Nat.mod_lt _ (by decide)
  have hn : 2 ^ (n + 1) = 2 ^ (16 * (n / 16)) * 2 ^ (n % 16 + 1) := by rw [← Nat.pow_add]; congr 1; omega
  rw [e1]
  have h2 : (65536 : Nat) = 2 ^ (n % 16 + 1) * 2 ^ (15 - n % 16) := by rw [← Nat.pow_add, show n % 16 + 1 + (15 - n % 16) = 16 by omega]
  rw [h2, Nat.mod_mul_right_mod]
  have h3 : N / 2 ^ (16 * (n / 16)) % 2 ^ (n % 16 + 1) = N % (2 ^ (16 * (n / 16)) * 2 ^ (n % 16 + 1)) / 2 ^ (16 * (n / 16)) := by rw [Nat.mod_mul_right_div_self]
  rw [h3, ← hn, h]
  exact Nat.zero_div _
end Go.Proofs.YtfaocjcpnjmfiaaGreatDoor
