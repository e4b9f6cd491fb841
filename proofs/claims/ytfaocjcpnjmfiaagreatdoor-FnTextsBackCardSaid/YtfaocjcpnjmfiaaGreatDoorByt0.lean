/-
  Bytes, plain: a number's lowest bytes, the lowest first and the highest first; how many bytes it has; the number that bytes spell.
-/
import Derived.Test.YtfaocjcpnjmfiaaGreatDoorBits
import Derived.Test.YtfaocjcpnjmfiaaGreatDoorVal
import Derived.Test.YtfaocjcpnjmfiaaGreatDoorArith
import Derived.Lib.Endian
import Derived.Lib.UnsafeStr
namespace Go.Proofs.YtfaocjcpnjmfiaaGreatDoor
open Go.RowKit
set_option linter.unusedVariables false

theorem le_get : ∀ (k v i : Nat), (Lib.leBytes k v)[i]? = if i < k then some (UInt8.ofNat (v / 256 ^ i % 256)) else none
  | 0, v, i => by simp [Lib.leBytes]
  | k + 1, v, 0 => by simp [Lib.leBytes, Nat.toUInt8]
  | k + 1, v, i + 1 => by
    rw [Lib.leBytes, List.getElem?_cons_succ, le_get k (v / 256) i, Nat.div_div_eq_div_mul, ← Nat.pow_succ']
    by_cases h : i < k
    · rw [if_pos h, if_pos (by omega)]
    · rw [if_neg h, if_neg (by omega)]
theorem be_get (k v i : Nat) : (Lib.beBytes k v)[i]? = if i < k then some (UInt8.ofNat (v / 256 ^ (k - 1 - i) % 256)) else none := by
  unfold Lib.beBytes
  by_cases h : i < k
  · rw [List.getElem?_reverse (by rw [Lib.leBytes_length]; exact h), Lib.leBytes_length, le_get, if_pos (by omega), if_pos h]
  · rw [List.getElem?_eq_none (by rw [List.length_reverse, Lib.leBytes_length]; omega), if_neg h]
theorem le_len (k v : Nat) : (Lib.leBytes k v).length = k := Lib.leBytes_length k v
theorem be_len (k v : Nat) : (Lib.beBytes k v).length = k := Lib.beBytes_length k v
/-- The first bytes of the lowest n. -/
theorem be_drop (n k v : Nat) : (Lib.beBytes (k + n) v).drop k = Lib.beBytes n v := by
  apply List.ext_getElem?
  intro i
  rw [List.getElem?_drop, be_get, be_get]
  by_cases h : i < n
  · rw [if_pos (by omega), if_pos h]
    congr 5
    omega
  · rw [if_neg (by omega), if_neg h]
theorem be_drop' {m n : Nat} (h : n ≤ m) (v : Nat) : (Lib.beBytes m v).drop (m - n) = Lib.beBytes n v := by
  have := be_drop n (m - n) v
  rwa [show m - n + n = m by omega] at this
theorem be_cons (n v : Nat) : Lib.beBytes (n + 1) v = UInt8.ofNat (v / 256 ^ n % 256) :: Lib.beBytes n v := by
  apply List.ext_getElem?
  intro i
  cases i with
  | zero => rw [be_get, if_pos (by omega)]; rfl
  | succ i =>
    rw [List.getElem?_cons_succ, be_get, be_get]
    by_cases h : i < n
    · rw [if_pos (by omega), if_pos h]
      congr 5
      omega
    · rw [if_neg (by omega), if_neg h]
/-- Bytes that are noughts. -/
theorem be_high (m n v : Nat) (h : v < 256 ^ n) : Lib.beBytes (m + n) v = List.replicate m 0 ++ Lib.beBytes n v := by
  induction m with
  | zero => simp
  | succ m ih =>
    rw [show m + 1 + n = m + n + 1 by omega, be_cons, ih, List.replicate_succ, List.cons_append, Nat.div_eq_of_lt (Nat.lt_of_lt_of_le h (Nat.pow_le_pow_right (by decide) (by omega)))]
    rfl
theorem be_append (m n v : Nat) : Lib.beBytes (m + n) v = Lib.beBytes m (v / 256 ^ n) ++ Lib.beBytes n v := by
  apply List.ext_getElem?
  intro i
  rw [List.getElem?_append, be_len]
  by_cases h : i < m
  · rw [if_pos h, be_get, be_get, if_pos h, if_pos (by omega), Nat.div_div_eq_div_mul, ← Nat.pow_add]
    congr 5
    omega
  · rw [if_neg h, be_get, be_get]
    by_cases h2 : i - m < n
    · rw [if_pos (by omega), if_pos h2]
      congr 5
      omega
    · rw [if_neg (by omega), if_neg h2]
theorem be_mod (n v : Nat) (u : Nat) (h : v % 256 ^ n = u % 256 ^ n) : Lib.beBytes n v = Lib.beBytes n u := by
  apply List.ext_getElem?
  intro i
  rw [be_get, be_get]
  by_cases hi : i < n
  · rw [if_pos hi, if_pos hi]
    have e : ∀ x : Nat, x / 256 ^ (n - 1 - i) % 256 = x % 256 ^ n / 256 ^ (n - 1 - i) % 256 := by
      intro x
      have k : 256 ^ n = 256 ^ (n - 1 - i) * 256 ^ (i + 1) := by rw [← Nat.pow_add]; congr 1; omega
      rw [k, Nat.mod_mul_right_div_self]
      exact (Nat.mod_mod_of_dvd _ (Nat.dvd_of_mod_eq_zero (by rw [Nat.pow_succ]; exact Nat.mul_mod_left _ _))).symm
    rw [e v, e u, h]
  · rw [if_neg hi, if_neg hi]
theorem le_snoc (n v : Nat) : Lib.leBytes (n + 1) v = Lib.leBytes n v ++ [UInt8.ofNat (v / 256 ^ n % 256)] := by
  apply List.ext_getElem?
  intro i
  rw [List.getElem?_append, le_len, le_get, le_get]
  by_cases h : i < n
  · rw [if_pos (by omega), if_pos h, if_pos h]
  · rw [if_neg h]
    by_cases h2 : i = n
    · subst h2; rw [if_pos (by omega), Nat.sub_self]; rfl
    · rw [if_neg (by omega), List.getElem?_eq_none (by simp; omega)]
theorem le_append (m n v : Nat) : Lib.leBytes (m + n) v = Lib.leBytes m v ++ Lib.leBytes n (v / 256 ^ m) := by
  induction n with
  | zero => simp [Lib.leBytes]
  | succ n ih => rw [show m + (n + 1) = m + n + 1 by omega, le_snoc, ih, le_snoc, List.append_assoc, Nat.div_div_eq_div_mul, ← Nat.pow_add]
theorem le_mod (n v : Nat) (u : Nat) (h : v % 256 ^ n = u % 256 ^ n) : Lib.leBytes n v = Lib.leBytes n u := by
  have := be_mod n v u h
  unfold Lib.beBytes at this
  exact List.reverse_inj.1 this

/-- The number that bytes spell. -/
theorem beFrom_append (l m : List UInt8) (a : Nat) : Lib.beFrom a (l ++ m) = Lib.beFrom (Lib.beFrom a l) m := by
  induction l generalizing a with
  | nil => rfl
  | cons b l ih => simp only [List.cons_append, Lib.beFrom]; exact ih _
theorem beFrom_eq (l : List UInt8) (a : Nat) : Lib.beFrom a l = a * 256 ^ l.length + Lib.beNat l := by
  induction l generalizing a with
  | nil => simp [Lib.beFrom, Lib.beNat]
  | cons b l ih =>
    unfold Lib.beNat
    simp only [Lib.beFrom, List.length_cons]
    rw [ih, ih (0 * 256 + b.toNat), Nat.pow_succ]
    grind
theorem beNat_append (l m : List UInt8) : Lib.beNat (l ++ m) = Lib.beNat l * 256 ^ m.length + Lib.beNat m := by
  unfold Lib.beNat
  rw [beFrom_append, beFrom_eq]
  rfl
theorem beNat_cons (b : UInt8) (l : List UInt8) : Lib.beNat (b :: l) = b.toNat * 256 ^ l.length + Lib.beNat l := by
  rw [show b :: l = [b] ++ l from rfl, beNat_append]
  simp [Lib.beNat, Lib.beFrom]
theorem beNat_lt (l : List UInt8) : Lib.beNat l < 256 ^ l.length := by
  induction l with
  | nil => simp [Lib.beNat, Lib.beFrom]
  | cons b l ih =>
    rw [beNat_cons, List.length_cons, Nat.pow_succ]
    have := b.toNat_lt
    have h : b.toNat * 256 ^ l.length ≤ 255 * 256 ^ l.length := Nat.mul_le_mul_right _ (by omega)
    omega
theorem beNat_be : ∀ (n v : Nat), Lib.beNat (Lib.beBytes n v) = v % 256 ^ n
  | 0, v => by simp [Lib.beBytes, Lib.leBytes, Lib.beNat, Lib.beFrom, Nat.mod_one]
  | n + 1, v => by
    rw [be_cons, beNat_cons, be_len, beNat_be n v, Nat.pow_succ]
    have e : (UInt8.ofNat (v / 256 ^ n % 256)).toNat = v / 256 ^ n % 256 := by rw [UInt8.toNat_ofNat']; omega
    rw [e, Nat.mod_mul, Nat.mul_comm, Nat.add_comm]
theorem beNat_rev_le (n v : Nat) : Lib.beNat (Lib.leBytes n v).reverse = v % 256 ^ n := beNat_be n v

/-! ### numbers -/
theorem N4.lt256 (x : N4) : x.toNat < 256 ^ 32 := by
  have := x.a.isLt; have := x.b.isLt; have := x.c.isLt; have := x.d.isLt
  unfold N4.toNat
  omega
/-- How many bytes a number has. -/
def N4.nb (x : N4) : Nat := (x.bits + 7) / 8
theorem pow256 (n : Nat) : 256 ^ n = 2 ^ (8 * n) := by rw [Nat.pow_mul]
theorem nb_le (x : N4) : x.nb ≤ 32 := by have := (bits_spec x).2.2; unfold N4.nb; omega
theorem nb_lt (x : N4) : x.toNat < 256 ^ x.nb := by
  rw [pow256]
  exact Nat.lt_of_lt_of_le (bits_spec x).1 (Nat.pow_le_pow_right (by decide) (by unfold N4.nb; omega))
theorem nb_zero (x : N4) (h : x.toNat = 0) : x.nb = 0 := by
  have h0 : x = ⟨0#64, 0#64, 0#64, 0#64⟩ := by
    apply toNat_inj
    rw [h]; rfl
  subst h0
  decide
theorem nb_ge (x : N4) (h : x.nb ≠ 0) : 256 ^ (x.nb - 1) ≤ x.toNat := by
  by_cases h0 : x.toNat = 0
  · exact absurd (nb_zero x h0) h
  · obtain ⟨h1, h2⟩ := (bits_spec x).2.1 h0
    rw [pow256]
    exact Nat.le_trans (Nat.pow_le_pow_right (by decide) (by unfold N4.nb; omega)) h2
/-- The byte i of a number. -/
def N4.bt (x : N4) (i : Nat) : UInt8 := UInt8.ofNat (x.toNat / 256 ^ i % 256)
theorem bt_toNat (x : N4) (i : Nat) : (x.bt i).toNat = x.toNat / 256 ^ i % 256 := by unfold N4.bt; rw [UInt8.toNat_ofNat']; omega
theorem bt_high (x : N4) {i : Nat} (h : x.nb ≤ i) : x.bt i = 0 := by
  unfold N4.bt
  rw [Nat.div_eq_of_lt (Nat.lt_of_lt_of_le (nb_lt x) (Nat.pow_le_pow_right (by decide) h))]
  rfl
theorem bt_top (x : N4) (h : x.nb ≠ 0) : x.bt (x.nb - 1) ≠ 0 := by
  intro e
  have h1 := nb_ge x h
  have h2 := nb_lt x
  have e2 := congrArg UInt8.toNat e
  rw [bt_toNat] at e2
  have h3 : 0 < x.toNat / 256 ^ (x.nb - 1) := Nat.div_pos h1 (Nat.pow_pos (by decide))
  have h4 : x.toNat / 256 ^ (x.nb - 1) < 256 := by
    apply Nat.div_lt_of_lt_mul
    rw [← Nat.pow_succ]
    rwa [show (x.nb - 1).succ = x.nb by omega]
  rw [Nat.mod_eq_of_lt h4] at e2
  have : (0 : UInt8).toNat = 0 := rfl
  omega
/-- The word that a byte lies in. -/
theorem wd_toNat (x : N4) (j : Nat) (h : j < 4) : (x.wd j).toNat = x.toNat / 2 ^ (64 * j) % 2 ^ 64 := by
  have := x.a.isLt; have := x.b.isLt; have := x.c.isLt; have := x.d.isLt
  rcases (by omega : j = 0 ∨ j = 1 ∨ j = 2 ∨ j = 3) with rfl | rfl | rfl | rfl
  · show x.a.toNat = _; unfold N4.toNat; omega
  · show x.b.toNat = _; unfold N4.toNat; omega
  · show x.c.toNat = _; unfold N4.toNat; omega
  · show x.d.toNat = _; unfold N4.toNat; omega
theorem bt_wd (x : N4) (i : Nat) (h : i < 32) : (x.wd (i / 8)).toNat / 2 ^ (8 * (i % 8)) % 256 = (x.bt i).toNat := by
  rw [wd_toNat x _ (by omega), bt_toNat, pow256, show 8 * i = 64 * (i / 8) + 8 * (i % 8) by omega, Nat.pow_add, ← Nat.div_div_eq_div_mul]
  generalize x.toNat / 2 ^ (64 * (i / 8)) = y
  have hk : 2 ^ 64 = 2 ^ (8 * (i % 8)) * 2 ^ (64 - 8 * (i % 8)) := by rw [← Nat.pow_add]; congr 1; omega
  rw [hk, Nat.mod_mul_right_div_self]
  refine Nat.mod_mod_of_dvd _ ?_
  rw [show 64 - 8 * (i % 8) = 8 + (56 - 8 * (i % 8)) by omega, Nat.pow_add]
  exact Nat.dvd_mul_right _ _
end Go.Proofs.YtfaocjcpnjmfiaaGreatDoor
