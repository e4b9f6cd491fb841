/-
  Contracts of uint256's subMulTo and addTo over rows of words.
-/
import Derived.Test.YtfaocjcpnjmfiaaDoorDiv1
namespace Go.Proofs.YtfaocjcpnjmfiaaDoor
open Go.RowKit
set_option linter.unusedVariables false
set_option linter.unusedSimpArgs false
set_option maxRecDepth 20000
theorem sm_step (S S0 Y P x t y m br br' : Nat) (E : S + Y * m = S0 + P * br) (W : x + br' * 18446744073709551616 = t + y * m + br) : S + P * t + (Y + P * y) * m = S0 + P * x + P * 18446744073709551616 * br' := by
  have h : P * (x + br' * 18446744073709551616) = P * (t + y * m + br) := by rw [W]
  have e1 : P * (x + br' * 18446744073709551616) = P * x + P * 18446744073709551616 * br' := by grind
  have e2 : P * (t + y * m + br) = P * t + P * (y * m) + P * br := by grind
  have e3 : (Y + P * y) * m = Y * m + P * (y * m) := by grind
  rw [e1, e2] at h
  rw [e3]
  omega
theorem sm_round (L L' Y : List W64) (j k : Nat) (m br br' t : W64) (hk : j + k < L'.length) (hsame : ∀ i, j + k ≤ i → wd L' i = wd L i) (E : wseg L' j k + wseg Y 0 k * m.toNat = wseg L j k + 18446744073709551616 ^ k * br.toNat)
    (W : (wd L' (j + k)).toNat + br'.toNat * 18446744073709551616 = t.toNat + (wd Y k).toNat * m.toNat + br.toNat) :
    wseg (L'.set (j + k) t) j (k + 1) + wseg Y 0 (k + 1) * m.toNat = wseg L j (k + 1) + 18446744073709551616 ^ (k + 1) * br'.toNat := by
  have h1 : wseg (L'.set (j + k) t) j k = wseg L' j k := wseg_congr (fun i hi => by rw [wd_set _ _ _ _ hk, if_neg (by omega)])
  rw [wseg, wseg, wseg, h1, wd_set _ _ _ _ hk, if_pos rfl, Nat.zero_add, Nat.pow_succ, ← hsame (j + k) (Nat.le_refl _)]
  exact sm_step _ _ _ _ _ _ _ _ _ _ E W
theorem ad_round (L L' Y : List W64) (j k : Nat) (c c' : Bool) (t : W64) (hk : j + k < L'.length) (hsame : ∀ i, j + k ≤ i → wd L' i = wd L i) (E : wseg L' j k + 18446744073709551616 ^ k * c.toNat = wseg L j k + wseg Y 0 k)
    (W : (wd L' (j + k)).toNat + (wd Y k).toNat + c.toNat = t.toNat + 18446744073709551616 * c'.toNat) :
    wseg (L'.set (j + k) t) j (k + 1) + 18446744073709551616 ^ (k + 1) * c'.toNat = wseg L j (k + 1) + wseg Y 0 (k + 1) := by
  have h1 : wseg (L'.set (j + k) t) j k = wseg L' j k := wseg_congr (fun i hi => by rw [wd_set _ _ _ _ hk, if_neg (by omega)])
  rw [wseg, wseg, wseg, h1, wd_set _ _ _ _ hk, if_pos rfl, Nat.zero_add, Nat.pow_succ, ← hsame (j + k) (Nat.le_refl _)]
  generalize 18446744073709551616 ^ k = P at *
  have h : P * ((wd L' (j + k)).toNat + (wd Y k).toNat + c.toNat) = P * (t.toNat + 18446744073709551616 * c'.toNat) := by rw [W]
  have e1 : P * ((wd L' (j + k)).toNat + (wd Y k).toNat + c.toNat) = P * (wd L' (j + k)).toNat + P * (wd Y k).toNat + P * c.toNat := by grind
  have e2 : P * (t.toNat + 18446744073709551616 * c'.toNat) = P * t.toNat + P * 18446744073709551616 * c'.toNat := by grind
  rw [e1, e2] at h
  omega
/-- A row of which n words from j on have turned. -/
def Turned (L L' : List W64) (j n : Nat) : Prop := L'.length = L.length ∧ ∀ i, i < j ∨ j + n ≤ i → wd L' i = wd L i
theorem Turned.refl (L : List W64) (j n : Nat) : Turned L L j n := ⟨rfl, fun _ _ => rfl⟩
theorem Turned.set {L L' : List W64} {j k : Nat} (h : Turned L L' j k) (t : W64) (hk : j + k < L.length) : Turned L (L'.set (j + k) t) j (k + 1) :=
  ⟨by rw [List.length_set, h.1], fun i hi => by rw [wd_set _ _ _ _ (by rw [h.1]; exact hk), if_neg (by omega)]; exact h.2 i (by omega)⟩
end Go.Proofs.YtfaocjcpnjmfiaaDoor
