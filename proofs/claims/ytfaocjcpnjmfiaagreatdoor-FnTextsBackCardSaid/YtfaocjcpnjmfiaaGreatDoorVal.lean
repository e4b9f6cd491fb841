/-
  Plain laws: what lists of digits of sixteen bits are worth; comparison of digits is comparison of worths; a number's digits are worth the number.
-/
import Derived.Test.YtfaocjcpnjmfiaaGreatDoorDig1
namespace Go.Proofs.YtfaocjcpnjmfiaaGreatDoor
set_option linter.unusedVariables false
/-- What the digits below n are worth. -/
def vlow (l : List Nat) : Nat → Nat
  | 0 => 0
  | n + 1 => vlow l n + 65536 ^ n * dig l n
def Digits (l : List Nat) : Prop := ∀ d ∈ l, d < 65536
/-- What a list of digits is worth. -/
def val (l : List Nat) : Nat := vlow l l.length
theorem dig_out {l : List Nat} {i : Nat} (h : l.length ≤ i) : dig l i = 0 := by
  unfold dig; rw [List.getD_eq_getElem?_getD, List.getElem?_eq_none h]; rfl
theorem vlow_lt {l : List Nat} (h : Digits l) (n : Nat) : vlow l n < 65536 ^ n := by
  induction n with
  | zero => simp [vlow]
  | succ n ih =>
    have hd := dig_lt h n
    have : 65536 ^ n * dig l n ≤ 65536 ^ n * 65535 := Nat.mul_le_mul_left _ (by omega)
    rw [vlow, Nat.pow_succ]
    omega
theorem vlow_more {l : List Nat} (k : Nat) : vlow l (l.length + k) = val l := by
  induction k with
  | zero => rfl
  | succ k ih => rw [← Nat.add_assoc, vlow, ih, dig_out (by omega)]; omega
theorem vlow_ge {l : List Nat} {n : Nat} (h : l.length ≤ n) : vlow l n = val l := by
  obtain ⟨k, rfl⟩ : ∃ k, n = l.length + k := ⟨n - l.length, by omega⟩
  exact vlow_more k
theorem cmpBelow_eq {a b : List Nat} (ha : Digits a) (hb : Digits b) (n : Nat) :
    cmpBelow a b n = if vlow a n < vlow b n then -1 else if vlow a n = vlow b n then 0 else 1 := by
  induction n with
  | zero => simp [cmpBelow, vlow]
  | succ n ih =>
    have h1 := vlow_lt ha n
    have h2 := vlow_lt hb n
    unfold cmpBelow vlow
    by_cases c1 : dig a n < dig b n
    · have : 65536 ^ n * (dig a n + 1) ≤ 65536 ^ n * dig b n := Nat.mul_le_mul_left _ c1
      rw [Nat.mul_add] at this
      rw [if_pos c1, if_pos (by omega)]
    · rw [if_neg c1]
      by_cases c2 : dig b n < dig a n
      · have : 65536 ^ n * (dig b n + 1) ≤ 65536 ^ n * dig a n := Nat.mul_le_mul_left _ c2
        rw [Nat.mul_add] at this
        rw [if_pos c2, if_neg (by omega), if_neg (by omega)]
      · have e : dig a n = dig b n := by omega
        rw [if_neg c2, ih, e]
        simp only [Nat.add_lt_add_iff_right, Nat.add_right_cancel_iff]
theorem compare_eq {a b : List Nat} (ha : Digits a) (hb : Digits b) :
    cmpBelow a b (max a.length b.length) = if val a < val b then -1 else if val a = val b then 0 else 1 := by
  rw [cmpBelow_eq ha hb, vlow_ge (Nat.le_max_left _ _), vlow_ge (Nat.le_max_right _ _)]
theorem lo16_lt (x : W64) : lo16 x < 65536 := Nat.mod_lt _ (by decide)
theorem digs_digits (x : N4) : Digits x.digs := by
  intro d hd
  simp only [N4.digs, List.mem_map] at hd
  obtain ⟨i, _, rfl⟩ := hd
  exact lo16_lt _
theorem dig_digs (x : N4) (i : Nat) (h : i < 16) : dig x.digs i = x.dg i := by
  unfold dig N4.digs
  rw [List.getD_eq_getElem?_getD, List.getElem?_map, List.getElem?_range h]
  rfl
theorem lo16_shr (x : W64) (k : Nat) : lo16 (x >>> k) = x.toNat / 2 ^ k % 65536 := by
  unfold lo16; rw [BitVec.toNat_ushiftRight, Nat.shiftRight_eq_div_pow]
theorem word_sum (x : W64) : x.toNat / 2 ^ 0 % 65536 + 65536 * (x.toNat / 2 ^ 16 % 65536) + 65536 ^ 2 * (x.toNat / 2 ^ 32 % 65536) + 65536 ^ 3 * (x.toNat / 2 ^ 48 % 65536) = x.toNat := by
  have := x.isLt
  omega
theorem val_digs (x : N4) : val x.digs = x.toNat := by
  have e : val x.digs = vlow x.digs 16 := by unfold val; rw [digs_len]
  have wa := word_sum x.a
  have wb := word_sum x.b
  have wc := word_sum x.c
  have wd := word_sum x.d
  have g : ∀ i, i < 16 → dig x.digs i = (x.wd (i / 4)).toNat / 2 ^ (16 * (i % 4)) % 65536 := fun i hi => by rw [dig_digs x i hi, N4.dg, lo16_shr]
  rw [e]
  simp only [vlow, g 0 (by decide), g 1 (by decide), g 2 (by decide), g 3 (by decide), g 4 (by decide), g 5 (by decide), g 6 (by decide), g 7 (by decide), g 8 (by decide), g 9 (by decide), g 10 (by decide), g 11 (by decide), g 12 (by decide), g 13 (by decide), g 14 (by decide), g 15 (by decide)]
  have w0 : x.wd 0 = x.a := rfl
  have w1 : x.wd 1 = x.b := rfl
  have w2 : x.wd 2 = x.c := rfl
  have w3 : x.wd 3 = x.d := rfl
  simp only [Nat.reduceDiv, Nat.reduceMod, Nat.reduceMul, w0, w1, w2, w3, Nat.reducePow, Nat.div_one] at *
  unfold N4.toNat
  omega
theorem cmp_digs (x y : N4) : cmpBelow x.digs y.digs (max x.digs.length y.digs.length) = x.cmp y := by
  rw [compare_eq (digs_digits x) (digs_digits y), val_digs, val_digs, cmp_eq]
end Go.Proofs.YtfaocjcpnjmfiaaGreatDoor
