/-
  The reference's Fits, by what digits are worth.
-/
import Derived.Test.YtfaocjcpnjmfiaaDoorDig2
namespace Go.Proofs.YtfaocjcpnjmfiaaDoor
open Go.RowKit
set_option linter.unusedVariables false
theorem pow16 : 65536 ^ 16 = 2 ^ 256 := by decide
theorem vlow_mono {l : List Nat} {n m : Nat} (h : n ≤ m) : vlow l n ≤ vlow l m := by
  obtain ⟨k, rfl⟩ : ∃ k, m = n + k := ⟨m - n, by omega⟩
  induction k with
  | zero => exact Nat.le_refl _
  | succ k ih => rw [← Nat.add_assoc, vlow]; have := ih (by omega); omega
theorem fits_yes {l : List Nat} (d : Digits l) {i : Nat} (hl : l.length ≤ i) (h : vlow l i = vlow l 16) : val l < 2 ^ 256 := by
  rw [← vlow_ge hl, h, ← pow16]; exact vlow_lt d 16
theorem fits_no {l : List Nat} {i : Nat} (h16 : 16 ≤ i) (hi : i < l.length) (h : dig l i ≠ 0) : ¬ val l < 2 ^ 256 := by
  have h1 : vlow l (i + 1) ≤ val l := vlow_mono (show i + 1 ≤ l.length by omega)
  rw [vlow] at h1
  have h2 : 65536 ^ i * 1 ≤ 65536 ^ i * dig l i := Nat.mul_le_mul_left _ (by omega)
  have h3 : 65536 ^ 16 ≤ 65536 ^ i := Nat.pow_le_pow_right (by decide) h16
  rw [← pow16]
  omega
set_option maxHeartbeats 1000000 in
theorem fits_any (v : Value) (l : List Nat) (w : World) (hs : Sl w v l) (hd : Digits l) (hl : l.length ≤ 1000000) :
    Calls Tryd.prog 15 #[v] w fun e w' => e = .returned (.bool (decide (val l < 2 ^ 256))) ∧ w = w' := by
  obtain ⟨A, cap, rfl, hcap, hc⟩ := hs
  have HC := Lib.hid hc
  clear hc
  have F1 : Hid (∀ i, l.length ≤ i → vlow l i = vlow l 16 → decide (val l < 2 ^ 256) = true) := fun i h1 h2 => decide_eq_true (fits_yes hd h1 h2)
  have F2 : Hid (∀ i, 16 ≤ i → i < l.length → dig l i ≠ 0 → decide (val l < 2 ^ 256) = false) := fun i h1 h2 h3 => decide_eq_false (fits_no h1 h2 h3)
  generalize decide (val l < 2 ^ 256) = r at *
  go_enter Tryd.func15, Tryd.ntmps15
  go_wp2
  go_loop [3] (fun t => ∃ i : Nat, 16 ≤ i ∧ i ≤ 1000016 ∧ t = .int .i64 (i : Int) ∧ Hid (vlow l i = vlow l 16)) (fun t => 1000016 - (intOf t).toNat)
  case atStart => exact ⟨16, by omega, by omega, rfl, rfl⟩
  case round =>
    obtain ⟨i, h1, h2, rfl, HI⟩ := hrel
    by_cases hi : i < l.length
    · obtain ⟨d, hdi⟩ : ∃ d, l[i]? = some d := ⟨_, List.getElem?_eq_getElem hi⟩
      obtain ⟨b, o, rfl, hcell⟩ := HC.out i d hdi
      have K : Hid (dig l i = d) := by show dig l i = d; unfold dig; rw [List.getD_eq_getElem?_getD, hdi]; rfl
      clear hdi
      by_cases h0 : d = 0
      · have hb : ((d : Int) != 0) = false := by rw [h0]; rfl
        have N : Hid (vlow l (i + 1) = vlow l 16) := by show vlow l (i + 1) = _; rw [vlow, K.out, h0, HI.out]; omega
        clear h0 K HI
        go_wp2
        go_round
        case rel => exact ⟨i + 1, by omega, by omega, by go_num, N⟩
        case measure => simp [intOf] <;> omega
      · have hb : ((d : Int) != 0) = true := by simp; omega
        have N : Hid (r = false) := F2.out i h1 hi (by rw [K.out]; exact h0)
        clear h0 K HI
        go_wp2
        go_ret
        rw [N.out]
        exact ⟨rfl, rfl⟩
    · have N : Hid (r = true) := F1.out i (by omega) HI.out
      clear HI
      go_wp2
      go_ret
      rw [N.out]
      exact ⟨rfl, rfl⟩
end Go.Proofs.YtfaocjcpnjmfiaaDoor
