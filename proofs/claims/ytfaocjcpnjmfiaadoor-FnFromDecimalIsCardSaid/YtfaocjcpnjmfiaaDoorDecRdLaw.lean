/-
  Decimal digits, read: groups of nineteen from the end, the bound, leading noughts and a plus: plain law.
-/
import Derived.Test.YtfaocjcpnjmfiaaDoorDecRdMath
set_option linter.unusedVariables false
namespace Go.Proofs.YtfaocjcpnjmfiaaDoor
open Go.Lib
/-- What is read behind j groups, what is left, the next group. -/
def tailD (s : List UInt8) (j : Nat) : List UInt8 := s.drop (s.length - 19 * j)
def headD (s : List UInt8) (j : Nat) : List UInt8 := s.take (s.length - 19 * j)
def grpD (s : List UInt8) (j : Nat) : List UInt8 := (headD s j).drop (s.length - 19 * j - 19)
theorem headD_length (s : List UInt8) (j : Nat) : (headD s j).length = s.length - 19 * j := by unfold headD; rw [List.length_take]; omega
theorem tailD_length (s : List UInt8) (j : Nat) (h : 19 * j ≤ s.length) : (tailD s j).length = 19 * j := by unfold tailD; rw [List.length_drop]; omega
theorem grpD_length (s : List UInt8) (j : Nat) : (grpD s j).length = min 19 (s.length - 19 * j) := by unfold grpD; rw [List.length_drop, headD_length]; omega
theorem headD_zero (s : List UInt8) : headD s 0 = s := by unfold headD; exact List.take_of_length_le (by omega)
theorem tailD_zero (s : List UInt8) : tailD s 0 = [] := by unfold tailD; exact List.drop_eq_nil_of_le (by omega)
theorem tailD_all (s : List UInt8) (j : Nat) (h : s.length ≤ 19 * j) : tailD s j = s := by unfold tailD; rw [show s.length - 19 * j = 0 by omega]; rfl
theorem tailD_succ (s : List UInt8) (j : Nat) : tailD s (j + 1) = grpD s j ++ tailD s j := by
  unfold tailD grpD headD
  rw [show s.length - 19 * (j + 1) = s.length - 19 * j - 19 by omega]
  obtain ⟨n, hn⟩ : ∃ n, n = s.length - 19 * j := ⟨_, rfl⟩
  have hl : n ≤ s.length := by omega
  rw [← hn]
  have e := List.take_append_drop n s
  have e2 : s.drop (n - 19) = (s.take n ++ s.drop n).drop (n - 19) := by rw [e]
  rw [e2, List.drop_append_of_le_length (by rw [List.length_take]; omega)]
theorem headD_succ (s : List UInt8) (j : Nat) : headD s (j + 1) = (headD s j).take (s.length - 19 * j - 19) := by
  unfold headD
  rw [List.take_take, show s.length - 19 * (j + 1) = min (s.length - 19 * j - 19) (s.length - 19 * j) by omega]
theorem headD_last (s : List UInt8) (j : Nat) (h : s.length - 19 * j ≤ 19) : grpD s j = headD s j := by unfold grpD; rw [show s.length - 19 * j - 19 = 0 by omega]; rfl
theorem grpD_ne (s : List UInt8) (j : Nat) (h : 19 * j < s.length) : grpD s j ≠ [] := fun e => by
  have := grpD_length s j
  rw [e] at this
  simp at this
  omega
theorem dv_tail (s : List UInt8) (j : Nat) (h : 19 * j ≤ s.length) : dv (tailD s (j + 1)) = dv (grpD s j) * 10 ^ (19 * j) + dv (tailD s j) := by
  rw [tailD_succ, dv_append, tailD_length s j h]
/-- A text without the plus ahead. -/
def unplus (s : List UInt8) : List UInt8 := if s[0]? = some 43 then s.drop 1 else s
/-- A text that spells a number below 2^256. -/
def DecOk (s : List UInt8) : Prop := unplus s ≠ [] ∧ Decs (unplus s) ∧ dv (unplus s) < 2 ^ 256
instance (s : List UInt8) : Decidable (DecOk s) := inferInstanceAs (Decidable (_ ∧ _ ∧ _))
/-- The digits of 2^256 - 1. -/
def maxD : List UInt8 := [49, 49, 53, 55, 57, 50, 48, 56, 57, 50, 51, 55, 51, 49, 54, 49, 57, 53, 52, 50, 51, 53, 55, 48, 57, 56, 53, 48, 48, 56, 54, 56, 55, 57, 48, 55, 56, 53, 51, 50, 54, 57, 57, 56, 52, 54, 54, 53, 54, 52, 48, 53, 54, 52, 48, 51, 57, 52, 53, 55, 53, 56, 52, 48, 48, 55, 57, 49, 51, 49, 50, 57, 54, 51, 57, 57, 51, 53]
theorem maxD_length : maxD.length = 78 := rfl
theorem maxD_dv : dv maxD = 2 ^ 256 - 1 := by decide +kernel
theorem maxD_decs : Decs maxD := by decide +kernel
theorem less_dv : ∀ a b : List UInt8, a.length = b.length → Decs a → Decs b → Op.bytesLess a b = decide (dv a < dv b)
  | [], [], _, _, _ => by simp [Op.bytesLess]
  | x :: a, y :: b, hl, ha, hb => by
    have ha' : Decs a := fun c hc => ha c (List.mem_cons_of_mem _ hc)
    have hb' : Decs b := fun c hc => hb c (List.mem_cons_of_mem _ hc)
    have hl' : a.length = b.length := by simpa using hl
    have hx := ha x List.mem_cons_self
    have hy := hb y List.mem_cons_self
    have h1 := dv_lt a ha'
    have h2 := dv_lt b hb'
    have ih := less_dv a b hl' ha' hb'
    unfold Op.bytesLess
    rw [ih, dv_cons, dv_cons, hl']
    rw [hl'] at h1
    have hxy : x < y ↔ x.toNat < y.toNat := UInt8.lt_iff_toNat_lt
    have hexy : x = y ↔ x.toNat = y.toNat := ⟨fun h => by rw [h], fun h => UInt8.toNat.inj h⟩
    generalize 10 ^ b.length = p at *
    generalize dv a = u at *
    generalize dv b = v at *
    generalize x.toNat = m at *
    generalize y.toNat = n at *
    rcases Nat.lt_trichotomy m n with h | h | h
    · have k : (m - 48 + 1) * p ≤ (n - 48) * p := Nat.mul_le_mul_right _ (by omega)
      have k2 : (m - 48 + 1) * p = (m - 48) * p + p := Nat.succ_mul _ _
      have : (m - 48) * p + u < (n - 48) * p + v := by omega
      rw [decide_eq_true this, decide_eq_true (hxy.2 h)]
      rfl
    · subst h
      have e : x = y := hexy.2 rfl
      subst e
      rw [decide_eq_false (by rw [hxy]; omega)]
      simp
    · have k : (n - 48 + 1) * p ≤ (m - 48) * p := Nat.mul_le_mul_right _ (by omega)
      have k2 : (n - 48 + 1) * p = (n - 48) * p + p := Nat.succ_mul _ _
      have : ¬ (m - 48) * p + u < (n - 48) * p + v := by omega
      have e : (x == y) = false := by
        rw [beq_eq_false_iff_ne]
        intro e
        have := hexy.1 e
        omega
      rw [decide_eq_false this, decide_eq_false (by rw [hxy]; omega), e]
      rfl
theorem eq_of_dv : ∀ a b : List UInt8, a.length = b.length → Decs a → Decs b → dv a = dv b → a = b
  | [], [], _, _, _, _ => rfl
  | x :: a, y :: b, hl, ha, hb, he => by
    have ha' : Decs a := fun c hc => ha c (List.mem_cons_of_mem _ hc)
    have hb' : Decs b := fun c hc => hb c (List.mem_cons_of_mem _ hc)
    have hl' : a.length = b.length := by simpa using hl
    have hx := ha x List.mem_cons_self
    have hy := hb y List.mem_cons_self
    have h1 := dv_lt a ha'
    have h2 := dv_lt b hb'
    have ih := eq_of_dv a b hl' ha' hb'
    rw [dv_cons, dv_cons, hl'] at he
    rw [hl'] at h1
    have hexy : x.toNat = y.toNat → x = y := fun h => UInt8.toNat.inj h
    generalize 10 ^ b.length = p at *
    generalize dv a = u at *
    generalize dv b = v at *
    generalize x.toNat = m at *
    generalize y.toNat = n at *
    rcases Nat.lt_trichotomy m n with h | h | h
    · have k : (m - 48 + 1) * p ≤ (n - 48) * p := Nat.mul_le_mul_right _ (by omega)
      have k2 : (m - 48 + 1) * p = (m - 48) * p + p := Nat.succ_mul _ _
      omega
    · subst h
      rw [hexy rfl, ih (by omega)]
    · have k : (n - 48 + 1) * p ≤ (m - 48) * p := Nat.mul_le_mul_right _ (by omega)
      have k2 : (n - 48 + 1) * p = (n - 48) * p + p := Nat.succ_mul _ _
      omega
/-- The text is greater than the digits of 2^256 - 1. -/
def bigD (t : List UInt8) : Bool := !(Op.bytesLess t maxD || t == maxD)
theorem bigD_iff (t : List UInt8) (hl : t.length = 78) (h : Decs t) : bigD t = decide (2 ^ 256 ≤ dv t) := by
  have e := less_dv t maxD (by rw [hl, maxD_length]) h maxD_decs
  rw [maxD_dv] at e
  unfold bigD
  rw [e]
  by_cases k : dv t < 2 ^ 256 - 1
  · rw [decide_eq_true k, decide_eq_false (by omega)]; rfl
  · rw [decide_eq_false k]
    by_cases k2 : dv t = 2 ^ 256 - 1
    · rw [eq_of_dv t maxD (by rw [hl, maxD_length]) h maxD_decs (by rw [k2, maxD_dv]), maxD_dv]
      decide +kernel
    · have : (t == maxD) = false := by
        rw [beq_eq_false_iff_ne]
        intro e
        rw [e, maxD_dv] at k2
        exact k2 rfl
      rw [this, decide_eq_true (by omega)]; rfl
/-- What the package takes. -/
def fineD (t : List UInt8) : Prop := t ≠ [] ∧ Decs t ∧ (t.length < 78 ∨ (t.length = 78 ∧ bigD t = false))
theorem fineD_iff (s : List UInt8) : fineD (stripZ (unplus s)) ↔ DecOk s := by
  unfold fineD DecOk
  rw [stripZ_decs, ne_eq, stripZ_nil]
  refine and_congr_right fun h0 => and_congr_right fun h1 => ?_
  have h2 := (stripZ_decs (unplus s)).2 h1
  have h3 := stripZ_head (unplus s)
  have h4 : stripZ (unplus s) ≠ [] := fun e => h0 ((stripZ_nil _).1 e)
  rw [← stripZ_dv (unplus s)]
  generalize stripZ (unplus s) = t at *
  constructor
  · rintro (h | ⟨h, hb⟩)
    · have k := dv_lt t h2
      have k2 : 10 ^ t.length ≤ 10 ^ 77 := Nat.pow_le_pow_right (by omega) (by omega)
      exact Nat.lt_of_lt_of_le k (Nat.le_trans k2 (by decide +kernel))
    · rw [bigD_iff t h h2] at hb
      have := of_decide_eq_false hb
      omega
  · intro h
    rcases Nat.lt_trichotomy t.length 78 with k | k | k
    · exact .inl k
    · exact .inr ⟨k, by rw [bigD_iff t k h2, decide_eq_false (by omega)]⟩
    · rcases h3 with h3 | h3 | ⟨c, m, h3, hc⟩
      · exact absurd h3 h4
      · omega
      · rw [h3] at h2 h k
        have k1 := dv_ge c m h2 hc
        have k2 : 10 ^ 78 ≤ 10 ^ m.length := Nat.pow_le_pow_right (by omega) (by simp at k; omega)
        have k3 : (2 : Nat) ^ 256 ≤ 10 ^ 78 := by decide +kernel
        exact absurd h (Nat.not_lt.2 (Nat.le_trans k3 (Nat.le_trans k2 k1)))
/-- Noughts ahead: so many as go. -/
theorem stripZ_drop : ∀ (l : List UInt8), ∃ n, stripZ l = l.drop n ∧ (n = 0 ∨ n < l.length) ∧ (∀ i, i < n → l[i]? = some 48) ∧ (n + 1 < l.length → l[n]? ≠ some 48)
  | [] => ⟨0, rfl, .inl rfl, (fun i h => by omega), (fun h => by simp at h)⟩
  | [c] => ⟨0, rfl, .inl rfl, (fun i h => by omega), (fun h => by simp at h)⟩
  | c :: d :: l => by
    by_cases h : c = 48
    · obtain ⟨n, h1, h2, h3, h4⟩ := stripZ_drop (d :: l)
      refine ⟨n + 1, ?_, .inr ?_, ?_, ?_⟩
      · unfold stripZ; rw [if_pos h, h1]; rfl
      · simp at h2 ⊢; omega
      · intro i hi
        rcases i with _ | i
        · simp [h]
        · simpa using h3 i (by omega)
      · intro k
        simpa using h4 (by simpa using k)
    · refine ⟨0, ?_, .inl rfl, (fun i h => by omega), fun _ => by simpa using h⟩
      unfold stripZ; rw [if_neg h]; rfl
end Go.Proofs.YtfaocjcpnjmfiaaDoor
