/-
  The reference's Fits, by what digits are worth.
-/
import Derived.Test.YtfaocjcpnjmfiaaGreatDoorDig2
namespace Go.Proofs.YtfaocjcpnjmfiaaGreatDoor
open Go.RowKit
set_option linter.unusedVariables false
theorem pow16 : 65536 ^ 16 = 2 ^ 256 := by decide
theorem vlow_mono {l : List Nat} {n m : Nat} (h : n ≤ m) : vlow l n ≤ vlow l m := by
  obtain ⟨k, rfl⟩ : ∃ k, m = n + k := ⟨m - n, by omega⟩
  induction k with
  | zero => exact Nat.le_refl _
  | succ k ih => rw [← Nat.add_assoc, vlow]; have := ih (by omega); omega
theorem fits_yes {l : List Nat} (d : Digits l) {i : Nat} (hl : l.length ≤ i) (h : vlow l i = vlow l 16) : val l < 2 ^ 256 := by
  rw [← vlow_ge hl, h, ← pow16]; exact vlow_lt d 16
theorem fits_no {l : List Nat} {i : Nat} (h16 : 16 ≤ i) (hi : i < l.length) (h : dig l i ≠ 0) : ¬ val l < 2 ^ 256 := by
  have h1 : vlow l (i + 1) ≤ val l := vlow_mono (show i + 1 ≤ l.length by omega)
  rw [vlow] at h1
  have h2 : 65536 ^ i * 1 ≤ 65536 ^ i * dig l i := Nat.mul_le_mul_left _ (by omega)
  have h3 : 65536 ^ 16 ≤ 65536 ^ i := Nat.pow_le_pow_right (by decide) h16
  rw [← pow16]
  omega
end Go.Proofs.YtfaocjcpnjmfiaaGreatDoor
