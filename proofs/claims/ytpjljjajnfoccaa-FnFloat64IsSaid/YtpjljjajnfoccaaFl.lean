/-
  Plain facts on numbers of 64 bits with a fraction: what is exact stays exact; the nearest one.
-/
import Derived.Laws.FloatArith
namespace Go.Proofs.Ytpjljjajnfoccaa.Fl
open Ieee
/-- The nearest word of a whole number. -/
def rep (N : Nat) : Nat := double.nearest false N 0
theorem log2_shift (M k : Nat) (h : M ≠ 0) : (M * 2 ^ k).log2 = M.log2 + k := by
  have h2 : M * 2 ^ k ≠ 0 := Nat.mul_ne_zero h (by have := Nat.two_pow_pos k; omega)
  have a := Nat.log2_self_le h
  have b := @Nat.lt_log2_self M
  have le : M.log2 + k ≤ (M * 2 ^ k).log2 := (Nat.le_log2 h2).2 (by rw [Nat.pow_add]; exact Nat.mul_le_mul_right _ a)
  have lt : (M * 2 ^ k).log2 < M.log2 + k + 1 := (Nat.log2_lt h2).2 (by rw [show M.log2 + k + 1 = M.log2 + 1 + k by omega, Nat.pow_add]; exact (Nat.mul_lt_mul_right (Nat.two_pow_pos k)).2 b)
  omega
theorem cut_def (n d : Nat) : Toward.even.cut false n d = n / 2 ^ min d (n.log2 + 2) + (decide (2 ^ min d (n.log2 + 2) < 2 * (n % 2 ^ min d (n.log2 + 2))) || (2 ^ min d (n.log2 + 2) == 2 * (n % 2 ^ min d (n.log2 + 2)) && n / 2 ^ min d (n.log2 + 2) % 2 == 1)).toNat := by
  unfold Toward.cut
  simp only [Nat.one_shiftLeft]
theorem cut_zero (n : Nat) : Toward.even.cut false n 0 = n := by
  rw [cut_def]
  simp [Nat.mod_one]
/-- Digits that are noughts are dropped with no loss. -/
theorem cut_exact (n d : Nat) (h : n ≠ 0) : Toward.even.cut false (n * 2 ^ d) d = n := by
  have hl := log2_shift n d h
  rw [cut_def, hl, Nat.min_eq_left (by omega), Nat.mul_div_cancel _ (Nat.two_pow_pos d), Nat.mul_mod_left]
  have := Nat.two_pow_pos d
  simp
theorem cut_scale (n d k : Nat) (h : n ≠ 0) : Toward.even.cut false (n * 2 ^ k) (d + k) = Toward.even.cut false n d := by
  have hl := log2_shift n k h
  rw [cut_def, cut_def, hl, show min (d + k) (n.log2 + k + 2) = min d (n.log2 + 2) + k by omega]
  generalize min d (n.log2 + 2) = g
  rw [Nat.pow_add, Nat.mul_div_mul_right _ _ (Nat.two_pow_pos k), Nat.mul_mod_mul_right, ← Nat.mul_assoc]
  have hp := Nat.two_pow_pos k
  have e1 : decide (2 ^ g * 2 ^ k < 2 * (n % 2 ^ g) * 2 ^ k) = decide (2 ^ g < 2 * (n % 2 ^ g)) := by
    rw [decide_eq_decide]; exact Nat.mul_lt_mul_right hp
  have e2 : (2 ^ g * 2 ^ k == 2 * (n % 2 ^ g) * 2 ^ k) = (2 ^ g == 2 * (n % 2 ^ g)) := by
    rw [Bool.eq_iff_iff, beq_iff_eq, beq_iff_eq]; exact Nat.mul_left_inj (by omega)
  rw [e1, e2]
theorem nearest_scale (M k : Nat) (e : Int) : double.nearest false (M * 2 ^ k) e = double.nearest false M (e + k) := by
  by_cases h : M = 0
  · subst h; simp [Format.nearest]
  have h2 : M * 2 ^ k ≠ 0 := Nat.mul_ne_zero h (by have := Nat.two_pow_pos k; omega)
  have hl := log2_shift M k h
  unfold Format.nearest
  rw [if_neg h2, if_neg h, hl]
  have hlast : e + ((M.log2 + k : Nat) : Int) - double.fractionBits = e + k + (M.log2 : Int) - double.fractionBits := by omega
  simp only [hlast]
  generalize max (e + k + (M.log2 : Int) - double.fractionBits) double.leastPlace = last
  have key : Toward.even.cut false ((M * 2 ^ k) <<< (e - last).toNat) (last - e).toNat = Toward.even.cut false (M <<< (e + k - last).toNat) (last - (e + k)).toNat := by
    rw [Nat.shiftLeft_eq, Nat.shiftLeft_eq]
    by_cases c1 : e + k ≤ last
    · rw [show (e - last).toNat = 0 by omega, show (e + k - last).toNat = 0 by omega, Nat.pow_zero, Nat.mul_one, Nat.mul_one,
        show (last - e).toNat = (last - (e + k)).toNat + k by omega]
      exact cut_scale M _ k h
    · by_cases c2 : last ≤ e
      · rw [show (last - e).toNat = 0 by omega, show (last - (e + k)).toNat = 0 by omega, cut_zero, cut_zero, Nat.mul_assoc, ← Nat.pow_add,
          show k + (e - last).toNat = (e + k - last).toNat by omega]
      · rw [show (e - last).toNat = 0 by omega, show (last - (e + k)).toNat = 0 by omega, cut_zero, Nat.pow_zero, Nat.mul_one]
        obtain ⟨j, hj⟩ : ∃ j, j = (last - e).toNat := ⟨_, rfl⟩
        have e3 : k = (e + k - last).toNat + j := by omega
        rw [← hj]
        conv => lhs; rw [e3, Nat.pow_add, ← Nat.mul_assoc]
        exact cut_exact _ _ (Nat.mul_ne_zero h (by have := Nat.two_pow_pos (e + k - last).toNat; omega))
  rw [key]
/-- M times 2^e is N. -/
def Same (M : Nat) (e : Int) (N : Nat) : Prop := ∃ K : Nat, 0 ≤ (K : Int) + e ∧ M * 2 ^ ((K : Int) + e).toNat = N * 2 ^ K
theorem Same.more {M N : Nat} {e : Int} {K : Nat} (h0 : 0 ≤ (K : Int) + e) (h : M * 2 ^ ((K : Int) + e).toNat = N * 2 ^ K) (j : Nat) : 0 ≤ ((K + j : Nat) : Int) + e ∧ M * 2 ^ (((K + j : Nat) : Int) + e).toNat = N * 2 ^ (K + j) := by
  refine ⟨by omega, ?_⟩
  rw [show (((K + j : Nat) : Int) + e).toNat = ((K : Int) + e).toNat + j by omega, Nat.pow_add, ← Nat.mul_assoc, h, Nat.pow_add, Nat.mul_assoc]
theorem nearest_same {M N : Nat} {e : Int} (h : Same M e N) : double.nearest false M e = rep N := by
  obtain ⟨K, h0, h⟩ := h
  have a := nearest_scale M ((K : Int) + e).toNat (-K)
  have b := nearest_scale N K (-K)
  rw [h] at a
  rw [show -(K : Int) + (((K : Int) + e).toNat : Int) = e by omega] at a
  rw [show -(K : Int) + (K : Int) = 0 by omega] at b
  rw [← a, b]
  rfl
/-- A whole number that is exactly a number of 64 bits with a fraction. -/
def Exact (N : Nat) : Prop := ∃ m e, double.read (rep N) = .number false m e ∧ Same m e N
theorem zero_same (a b : Nat) : 0 * 2 ^ a = 0 * 2 ^ b := by rw [Nat.zero_mul, Nat.zero_mul]
theorem same_zero : Same 0 (-1074) 0 := by
  obtain ⟨K, hK⟩ : ∃ K : Nat, K = 1074 := ⟨_, rfl⟩
  exact ⟨K, by omega, zero_same _ _⟩
theorem exact_zero : Exact 0 := ⟨0, -1074, by decide, same_zero⟩
theorem norm_word (m : Nat) (e : Int) (h1 : 4503599627370496 ≤ m) (h2 : m < 9007199254740992) (h3 : -1074 ≤ e) (h4 : e ≤ 900) : double.nearest false m e = (e + 1074).toNat * 4503599627370496 + m ∧ double.read ((e + 1074).toNat * 4503599627370496 + m) = .number false m e := by
  have hm : m ≠ 0 := by omega
  have hl : m.log2 = 52 := by
    have a := (Nat.le_log2 (k := 52) hm).2 h1
    have b := (Nat.log2_lt (k := 53) hm).2 h2
    omega
  have hf : (double.fractionBits : Int) = 52 := rfl
  have hp : double.leastPlace = -1074 := by decide
  obtain ⟨B, hB⟩ : ∃ B : Nat, B = 4503599627370496 := ⟨_, rfl⟩
  have hb : double.binade = B := by rw [hB]; decide
  have hi : double.infRung = 2047 * B := by rw [hB]; decide
  have hs : double.signWeight = 2048 * B := by rw [hB]; decide
  obtain ⟨t, ht⟩ : ∃ t, t = (e + 1074).toNat := ⟨_, rfl⟩
  have ht2 : t ≤ 1974 := by omega
  rw [← ht, ← hB]
  have r0 : t * B + m < 2047 * B := by rw [hB]; omega
  have r1 : ¬ t * B + m < B := by rw [hB]; omega
  have q1 : (t * B + m) / (2048 * B) = 0 := Nat.div_eq_of_lt (by rw [hB]; omega)
  have q2 : (t * B + m) % (2048 * B) = t * B + m := Nat.mod_eq_of_lt (by rw [hB]; omega)
  have q3 : B + (t * B + m) % B = m := by rw [hB]; omega
  have q4 : (t * B + m) / B - 1 = t := by rw [hB]; omega
  constructor
  · unfold Format.nearest
    rw [if_neg hm, hl, hf, hp, hb, hi, show max (e + ((52 : Nat) : Int) - 52) (-1074) = e by omega]
    simp only [Int.sub_self, Int.toNat_zero, Nat.shiftLeft_zero, cut_zero, Format.word, Bool.false_eq_true, if_false]
    rw [show (e - -1074).toNat = t by omega]
    exact Nat.min_eq_left (Nat.le_of_lt r0)
  · unfold Format.read
    rw [hb, hi, hs, hp]
    simp only [q1, q2, q3, q4]
    rw [if_neg r1, if_pos r0, show -1074 + (t : Int) = e by omega]
    rfl
theorem exact_norm (N m : Nat) (e : Int) (h1 : 4503599627370496 ≤ m) (h2 : m < 9007199254740992) (h3 : -1074 ≤ e) (h4 : e ≤ 900) (h : Same m e N) : Exact N := by
  obtain ⟨a, b⟩ := norm_word m e h1 h2 h3 h4
  exact ⟨m, e, by rw [← nearest_same h, a, b], h⟩
theorem exact_small (N : Nat) (h : N < 9007199254740992) : Exact N := by
  by_cases h0 : N = 0
  · subst h0; exact exact_zero
  have a := Nat.log2_self_le h0
  have b := @Nat.lt_log2_self N
  have c := (Nat.log2_lt (k := 53) h0).2 h
  obtain ⟨j, hj⟩ : ∃ j, j = 52 - N.log2 := ⟨_, rfl⟩
  have e1 : 4503599627370496 = 2 ^ N.log2 * 2 ^ j := by rw [← Nat.pow_add, show N.log2 + j = 52 by omega]
  have e2 : 9007199254740992 = 2 ^ (N.log2 + 1) * 2 ^ j := by rw [← Nat.pow_add, show N.log2 + 1 + j = 53 by omega]
  refine exact_norm N (N * 2 ^ j) (-(j : Int)) ?_ ?_ (by omega) (by omega) ⟨j, by omega, by rw [show ((j : Int) + -(j : Int)).toNat = 0 by omega, Nat.pow_zero, Nat.mul_one]⟩
  · rw [e1]; exact Nat.mul_le_mul_right _ a
  · rw [e2]; exact (Nat.mul_lt_mul_right (Nat.two_pow_pos j)).2 b
theorem exact_shift (q n : Nat) (hq : q ≤ 9007199254740992) (hn : n ≤ 100) : Exact (q * 2 ^ n) := by
  by_cases h0 : q = 0
  · subst h0; rw [Nat.zero_mul]; exact exact_zero
  by_cases h1 : q = 9007199254740992
  · subst h1
    refine exact_norm _ 4503599627370496 (n + 1) (by omega) (by omega) (by omega) (by omega) ⟨0, by omega, ?_⟩
    rw [show (((0 : Nat) : Int) + ((n : Int) + 1)).toNat = n + 1 by omega, Nat.pow_zero, Nat.mul_one, Nat.pow_succ, Nat.mul_comm (2 ^ n) 2, ← Nat.mul_assoc]
  · have hq' : q < 9007199254740992 := by omega
    have a := Nat.log2_self_le h0
    have b := @Nat.lt_log2_self q
    have c := (Nat.log2_lt (k := 53) h0).2 hq'
    obtain ⟨j, hj⟩ : ∃ j, j = 52 - q.log2 := ⟨_, rfl⟩
    have e1 : 4503599627370496 = 2 ^ q.log2 * 2 ^ j := by rw [← Nat.pow_add, show q.log2 + j = 52 by omega]
    have e2 : 9007199254740992 = 2 ^ (q.log2 + 1) * 2 ^ j := by rw [← Nat.pow_add, show q.log2 + 1 + j = 53 by omega]
    refine exact_norm _ (q * 2 ^ j) ((n : Int) - j) ?_ ?_ (by omega) (by omega) ⟨j, by omega, ?_⟩
    · rw [e1]; exact Nat.mul_le_mul_right _ a
    · rw [e2]; exact (Nat.mul_lt_mul_right (Nat.two_pow_pos j)).2 b
    · rw [show ((j : Int) + ((n : Int) - j)).toNat = n by omega, Nat.mul_assoc, Nat.mul_assoc, Nat.mul_comm (2 ^ j)]
theorem mul_exact {a b : Nat} (ha : Exact a) (hb : Exact b) : double.mul (rep a) (rep b) = some (rep (a * b)) := by
  obtain ⟨m, i, h1, K, h2, h3⟩ := ha
  obtain ⟨n, j, k1, L, k2, k3⟩ := hb
  unfold Format.mul
  rw [h1, k1]
  simp only [Datum.product, Option.map_some, Bool.false_bne, Format.write]
  congr 1
  refine nearest_same (e := i + j) ⟨K + L, by omega, ?_⟩
  rw [show (((K + L : Nat) : Int) + (i + j)).toNat = ((K : Int) + i).toNat + ((L : Int) + j).toNat by omega, Nat.pow_add, Nat.pow_add]
  calc m * n * (2 ^ ((K : Int) + i).toNat * 2 ^ ((L : Int) + j).toNat) = (m * 2 ^ ((K : Int) + i).toNat) * (n * 2 ^ ((L : Int) + j).toNat) := by grind
    _ = (a * 2 ^ K) * (b * 2 ^ L) := by rw [h3, k3]
    _ = _ := by grind
theorem add_exact {a b : Nat} (ha : Exact a) (hb : Exact b) : double.add (rep a) (rep b) = some (rep (a + b)) := by
  obtain ⟨m, i, h1, K, h2, h3⟩ := ha
  obtain ⟨n, j, k1, L, k2, k3⟩ := hb
  obtain ⟨h2, h3⟩ := Same.more h2 h3 L
  obtain ⟨k2, k3⟩ := Same.more k2 k3 K
  rw [Nat.add_comm L K] at k2 k3
  generalize K + L = J at *
  unfold Format.add
  rw [h1, k1]
  obtain ⟨base, hbase⟩ : ∃ base, base = min i j := ⟨_, rfl⟩
  simp only [Datum.sum, signed, Option.map_some, Format.write, ← hbase, Bool.false_eq_true, if_false, Nat.shiftLeft_eq, Bool.and_self]
  have hneg : (if ((m * 2 ^ (i - base).toNat : Nat) : Int) + ((n * 2 ^ (j - base).toNat : Nat) : Int) = 0 then false else decide (((m * 2 ^ (i - base).toNat : Nat) : Int) + ((n * 2 ^ (j - base).toNat : Nat) : Int) < 0)) = false := by
    split
    · rfl
    · exact decide_eq_false (by omega)
  rw [hneg]
  congr 1
  rw [show (((m * 2 ^ (i - base).toNat : Nat) : Int) + ((n * 2 ^ (j - base).toNat : Nat) : Int)).natAbs = m * 2 ^ (i - base).toNat + n * 2 ^ (j - base).toNat by omega]
  refine nearest_same ⟨J, by omega, ?_⟩
  rw [Nat.add_mul, Nat.add_mul, Nat.mul_assoc, Nat.mul_assoc, ← Nat.pow_add, ← Nat.pow_add, show (i - base).toNat + ((J : Int) + base).toNat = ((J : Int) + i).toNat by omega,
    show (j - base).toNat + ((J : Int) + base).toNat = ((J : Int) + j).toNat by omega, h3, k3]
/-- Which of its two neighbours the nearest one is. -/
theorem rep_round (v n : Nat) (hv : v ≠ 0) (hl : v.log2 = n + 52) (hn : n ≤ 100) :
    rep v = if (decide (2 ^ n < 2 * (v % 2 ^ n)) || (2 ^ n == 2 * (v % 2 ^ n) && v / 2 ^ n % 2 == 1)) = true then rep ((v / 2 ^ n + 1) * 2 ^ n) else rep (v / 2 ^ n * 2 ^ n) := by
  have a := Nat.log2_self_le hv
  have b := @Nat.lt_log2_self v
  rw [hl] at a b
  have hp := Nat.two_pow_pos n
  have q1 : 4503599627370496 ≤ v / 2 ^ n := by
    rw [Nat.le_div_iff_mul_le hp]
    rw [Nat.pow_add] at a
    rw [Nat.mul_comm]; exact a
  have q2 : v / 2 ^ n < 9007199254740992 := by
    rw [Nat.div_lt_iff_lt_mul hp]
    rw [show n + 52 + 1 = n + 53 by omega, Nat.pow_add] at b
    rw [Nat.mul_comm]; exact b
  have e0 : rep v = (n + 1074) * 4503599627370496 + Toward.even.cut false v n := by
    have hf : (double.fractionBits : Int) = 52 := rfl
    have hlp : double.leastPlace = -1074 := by decide
    obtain ⟨B, hB⟩ : ∃ B : Nat, B = 4503599627370496 := ⟨_, rfl⟩
    have hb : double.binade = B := by rw [hB]; decide
    have hi : double.infRung = 2047 * B := by rw [hB]; decide
    unfold rep Format.nearest
    rw [if_neg hv, hl, hf, hlp, hb, hi, show max (0 + ((n + 52 : Nat) : Int) - 52) (-1074) = (n : Int) by omega]
    simp only [show ((0 : Int) - (n : Int)).toNat = 0 by omega, show ((n : Int) - 0).toNat = n by omega, Nat.shiftLeft_zero, show ((n : Int) - -1074).toNat = n + 1074 by omega, Format.word, Bool.false_eq_true, if_false]
    rw [← hB]
    refine Nat.min_eq_left ?_
    have hc : Toward.even.cut false v n ≤ v / 2 ^ n + 1 := by
      rw [cut_def, hl, Nat.min_eq_left (by omega)]
      exact Nat.add_le_add_left (Bool.toNat_le _) _
    rw [hB]
    omega
  have hnorm : ∀ q : Nat, 4503599627370496 ≤ q → q < 9007199254740992 → rep (q * 2 ^ n) = (n + 1074) * 4503599627370496 + q := fun q h1 h2 => by
    unfold rep
    rw [nearest_scale, (norm_word q _ h1 h2 (by omega) (by omega)).1]
    congr 2
    omega
  have hup : rep ((v / 2 ^ n + 1) * 2 ^ n) = (n + 1074) * 4503599627370496 + (v / 2 ^ n + 1) := by
    by_cases h : v / 2 ^ n + 1 < 9007199254740992
    · exact hnorm _ (by omega) h
    · have e : v / 2 ^ n + 1 = 9007199254740992 := by omega
      rw [e]
      unfold rep
      rw [show 9007199254740992 * 2 ^ n = 4503599627370496 * 2 ^ (n + 1) by rw [Nat.pow_succ, Nat.mul_comm (2 ^ n) 2, ← Nat.mul_assoc], nearest_scale, (norm_word 4503599627370496 _ (by omega) (by omega) (by omega) (by omega)).1]
      have : ((0 : Int) + ((n + 1 : Nat) : Int) + 1074).toNat = n + 1075 := by omega
      rw [this]
      omega
  rw [e0, cut_def, hl, Nat.min_eq_left (by omega)]
  cases (decide (2 ^ n < 2 * (v % 2 ^ n)) || (2 ^ n == 2 * (v % 2 ^ n) && v / 2 ^ n % 2 == 1)) with
  | true => rw [if_pos rfl, hup]; rfl
  | false => rw [if_neg (by decide), hnorm _ q1 q2]; rfl
end Go.Proofs.Ytpjljjajnfoccaa.Fl
