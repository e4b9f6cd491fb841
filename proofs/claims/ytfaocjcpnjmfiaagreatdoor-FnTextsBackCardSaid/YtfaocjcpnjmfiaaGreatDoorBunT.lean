/-
  Decimal digits, read: plain law.
  Decimal digits, read: groups of nineteen from the end, the bound, leading noughts and a plus: plain law.
  uint256's fromDecimal.
  uint256's SetFromDecimal.
  uint256's FromDecimal, the thin package's FromDecimal.
  uint256's checkNumberS; the six sentinels of reading; errors.Is among them; codeOf.
  uint256's fromHex.
  A string's bytes as a new slice.
  uint256's UnmarshalText, the thin package's ReadText.
-/
import Derived.Lib.AtoiAll
import Derived.Lib.ParseIntBCases
import Derived.Test.YtfaocjcpnjmfiaaGreatDoorBase
import Derived.Test.YtfaocjcpnjmfiaaGreatDoorShelf
import Derived.Test.YtfaocjcpnjmfiaaGreatDoorMul
import Derived.Test.YtfaocjcpnjmfiaaGreatDoorRow
import Derived.Test.YtfaocjcpnjmfiaaGreatDoorBunV
import Derived.Test.YtfaocjcpnjmfiaaGreatDoorImpl0
import Derived.Deep.DeepCutAuto
import Derived.Deep.CutBlock
import Derived.Laws.RangeString
import Derived.Laws.RangeAny
import Derived.Laws.Cover1
import Derived.Test.YtfaocjcpnjmfiaaGreatDoorCellR
import Derived.Test.YtfaocjcpnjmfiaaGreatDoorHexMath
import Derived.LaidEql
import Derived.Stop.Asserts
import Derived.RowKitTokens
import Derived.WalkKit
import Derived.Test.YtfaocjcpnjmfiaaGreatDoorArith
import Derived.BigRegion
import Derived.Deep.RegionHeld3
import Derived.Test.YtfaocjcpnjmfiaaGreatDoorByt1
import Derived.Lib.ConvBytes
import Derived.Lib.AtoiErrMem

set_option linter.unusedVariables false
namespace Go.Proofs.YtfaocjcpnjmfiaaGreatDoor
open Go.Lib
/-- Decimal digits alone. -/
def Decs (l : List UInt8) : Prop := ∀ c ∈ l, 48 ≤ c.toNat ∧ c.toNat ≤ 57
instance (l : List UInt8) : Decidable (Decs l) := inferInstanceAs (Decidable (∀ c ∈ l, 48 ≤ c.toNat ∧ c.toNat ≤ 57))
/-- The worth of a row of decimal digits. -/
def dv (l : List UInt8) : Nat := l.foldl (fun a c => 10 * a + (c.toNat - 48)) 0
theorem dv_snoc (l : List UInt8) (c : UInt8) : dv (l ++ [c]) = 10 * dv l + (c.toNat - 48) := by unfold dv; rw [List.foldl_append]; rfl
theorem dv_nil : dv [] = 0 := rfl
theorem dv_from (l : List UInt8) : ∀ a : Nat, l.foldl (fun a c => 10 * a + (c.toNat - 48)) a = a * 10 ^ l.length + dv l := by
  induction l with
  | nil => intro a; simp [dv]
  | cons c l ih =>
    intro a
    unfold dv
    rw [List.foldl_cons, List.foldl_cons, ih, ih, List.length_cons, Nat.pow_succ]
    generalize dv l = h
    generalize 10 ^ l.length = p
    grind
theorem dv_append (l m : List UInt8) : dv (l ++ m) = dv l * 10 ^ m.length + dv m := by
  unfold dv
  rw [List.foldl_append, dv_from]
  rfl
theorem dv_cons (c : UInt8) (l : List UInt8) : dv (c :: l) = (c.toNat - 48) * 10 ^ l.length + dv l := by
  have := dv_append [c] l
  rw [show [c] ++ l = c :: l by rfl] at this
  rw [this]; simp [dv]
theorem dv_lt : ∀ (l : List UInt8), Decs l → dv l < 10 ^ l.length
  | [], _ => by simp [dv]
  | c :: l, h => by
    have h1 := dv_lt l (fun d hd => h d (List.mem_cons_of_mem _ hd))
    have h2 := h c (List.mem_cons_self)
    rw [dv_cons, List.length_cons, Nat.pow_succ]
    have : (c.toNat - 48) * 10 ^ l.length ≤ 9 * 10 ^ l.length := Nat.mul_le_mul_right _ (by omega)
    omega
theorem decs_append (l m : List UInt8) : Decs (l ++ m) ↔ Decs l ∧ Decs m :=
  ⟨fun h => ⟨fun c hc => h c (List.mem_append_left _ hc), fun c hc => h c (List.mem_append_right _ hc)⟩, fun h c hc => by
    rw [List.mem_append] at hc
    rcases hc with hc | hc
    · exact h.1 c hc
    · exact h.2 c hc⟩
/-- Leading noughts are worth nothing. -/
theorem dv_nought (l : List UInt8) : dv (48 :: l) = dv l := by rw [dv_cons]; simp
/-- A text without leading noughts; its last character stays. -/
def stripZ : List UInt8 → List UInt8
  | [] => []
  | [c] => [c]
  | c :: d :: l => if c = 48 then stripZ (d :: l) else c :: d :: l
theorem stripZ_dv : ∀ l : List UInt8, dv (stripZ l) = dv l
  | [] => rfl
  | [c] => rfl
  | c :: d :: l => by
    unfold stripZ
    by_cases h : c = 48
    · rw [if_pos h, stripZ_dv (d :: l), h, dv_nought]
    · rw [if_neg h]
theorem stripZ_decs : ∀ l : List UInt8, Decs (stripZ l) ↔ Decs l
  | [] => Iff.rfl
  | [c] => Iff.rfl
  | c :: d :: l => by
    unfold stripZ
    by_cases h : c = 48
    · rw [if_pos h, stripZ_decs (d :: l)]
      refine ⟨fun k x hx => ?_, fun k x hx => k x (List.mem_cons_of_mem _ hx)⟩
      rcases List.mem_cons.1 hx with rfl | hx
      · subst h; decide
      · exact k x hx
    · rw [if_neg h]
theorem stripZ_nil : ∀ l : List UInt8, stripZ l = [] ↔ l = []
  | [] => Iff.rfl
  | [c] => Iff.rfl
  | c :: d :: l => by
    unfold stripZ
    by_cases h : c = 48
    · rw [if_pos h, stripZ_nil (d :: l)]; simp
    · rw [if_neg h]
/-- It begins with no nought, but where it is one. -/
theorem stripZ_head : ∀ l : List UInt8, stripZ l = [] ∨ (stripZ l).length = 1 ∨ ∃ c m, stripZ l = c :: m ∧ c ≠ 48
  | [] => .inl rfl
  | [c] => .inr (.inl rfl)
  | c :: d :: l => by
    unfold stripZ
    by_cases h : c = 48
    · rw [if_pos h]; exact stripZ_head (d :: l)
    · rw [if_neg h]; exact .inr (.inr ⟨c, d :: l, rfl, h⟩)
/-- Digits that begin with none of the noughts are worth as much as their number says. -/
theorem dv_ge (c : UInt8) (m : List UInt8) (h : Decs (c :: m)) (hc : c ≠ 48) : 10 ^ m.length ≤ dv (c :: m) := by
  have h1 := h c List.mem_cons_self
  have h2 : c.toNat ≠ 48 := fun e => hc (UInt8.toNat.inj e)
  rw [dv_cons]
  have : 1 * 10 ^ m.length ≤ (c.toNat - 48) * 10 ^ m.length := Nat.mul_le_mul_right _ (by omega)
  omega
/-- The worth grows with each digit. -/
theorem dv_mono (l m : List UInt8) : dv l ≤ dv (l ++ m) := by
  rw [dv_append]
  have : 1 ≤ 10 ^ m.length := Nat.pow_pos (by omega)
  have := Nat.mul_le_mul_left (dv l) this
  omega
theorem parse19 : ∀ (l : List UInt8) (acc k : Nat), l.length + k = 19 → acc < 10 ^ k → (Decs l → parseUint10 acc l = .ok (acc * 10 ^ l.length + dv l)) ∧ (¬ Decs l → parseUint10 acc l = parseUint10 0 [45])
  | [], acc, k, hk, ha => ⟨fun _ => by simp [parseUint10, dv], fun h => absurd (fun c hc => by simp at hc) h⟩
  | c :: l, acc, k, hk, ha => by
    rw [List.length_cons] at hk
    have hp : 10 ^ k * 10 ≤ 10 ^ 19 := by rw [← Nat.pow_succ]; exact Nat.pow_le_pow_right (by omega) (by omega)
    have h18 : (10 : Nat) ^ 19 = 10000000000000000000 := by decide
    unfold parseUint10
    by_cases hc : 48 ≤ c.toNat ∧ c.toNat ≤ 57
    · rw [if_pos hc, if_neg (by omega), if_neg (by omega)]
      obtain ⟨i1, i2⟩ := parse19 l (acc * 10 + (c.toNat - 48)) (k + 1) (by omega) (by rw [Nat.pow_succ]; omega)
      refine ⟨fun h => ?_, fun h => i2 (fun hl => h (fun d hd => by
        rcases List.mem_cons.1 hd with rfl | hd
        · exact hc
        · exact hl d hd))⟩
      rw [i1 (fun d hd => h d (List.mem_cons_of_mem _ hd)), dv_cons, List.length_cons, Nat.pow_succ]
      congr 1
      generalize 10 ^ l.length = p
      generalize dv l = q
      grind
    · rw [if_neg hc]
      exact ⟨fun h => absurd (h c List.mem_cons_self) hc, fun _ => rfl⟩
/-- What ParseUint makes of a group of at most nineteen characters. -/
theorem parse_group (l : List UInt8) (h0 : l ≠ []) (hl : l.length ≤ 19) : (Decs l → parseUintB 64 l = .ok (dv l)) ∧ (¬ Decs l → parseUintB 64 l = parseUintB 64 [45]) := by
  rw [parseUintB_64]
  unfold parseMag
  rw [if_neg h0]
  obtain ⟨i1, i2⟩ := parse19 l 0 (19 - l.length) (by omega) (Nat.pow_pos (by omega))
  refine ⟨fun h => ?_, i2⟩
  rw [i1 h, Nat.zero_mul, Nat.zero_add]
end Go.Proofs.YtfaocjcpnjmfiaaGreatDoor

set_option linter.unusedVariables false
namespace Go.Proofs.YtfaocjcpnjmfiaaGreatDoor
open Go.Lib
/-- What is read behind j groups, what is left, the next group. -/
def tailD (s : List UInt8) (j : Nat) : List UInt8 := s.drop (s.length - 19 * j)
def headD (s : List UInt8) (j : Nat) : List UInt8 := s.take (s.length - 19 * j)
def grpD (s : List UInt8) (j : Nat) : List UInt8 := (headD s j).drop (s.length - 19 * j - 19)
theorem headD_length (s : List UInt8) (j : Nat) : (headD s j).length = s.length - 19 * j := by unfold headD; rw [List.length_take]; omega
theorem tailD_length (s : List UInt8) (j : Nat) (h : 19 * j ≤ s.length) : (tailD s j).length = 19 * j := by unfold tailD; rw [List.length_drop]; omega
theorem grpD_length (s : List UInt8) (j : Nat) : (grpD s j).length = min 19 (s.length - 19 * j) := by unfold grpD; rw [List.length_drop, headD_length]; omega
theorem headD_zero (s : List UInt8) : headD s 0 = s := by unfold headD; exact List.take_of_length_le (by omega)
theorem tailD_zero (s : List UInt8) : tailD s 0 = [] := by unfold tailD; exact List.drop_eq_nil_of_le (by omega)
theorem tailD_all (s : List UInt8) (j : Nat) (h : s.length ≤ 19 * j) : tailD s j = s := by unfold tailD; rw [show s.length - 19 * j = 0 by omega]; rfl
theorem tailD_succ (s : List UInt8) (j : Nat) : tailD s (j + 1) = grpD s j ++ tailD s j := by
  unfold tailD grpD headD
  rw [show s.length - 19 * (j + 1) = s.length - 19 * j - 19 by omega]
  obtain ⟨n, hn⟩ : ∃ n, n = s.length - 19 * j := ⟨_, rfl⟩
  have hl : n ≤ s.length := by omega
  rw [← hn]
  have e := List.take_append_drop n s
  have e2 : s.drop (n - 19) = (s.take n ++ s.drop n).drop (n - 19) := by rw [e]
  rw [e2, List.drop_append_of_le_length (by rw [List.length_take]; omega)]
theorem headD_succ (s : List UInt8) (j : Nat) : headD s (j + 1) = (headD s j).take (s.length - 19 * j - 19) := by
  unfold headD
  rw [List.take_take, show s.length - 19 * (j + 1) = min (s.length - 19 * j - 19) (s.length - 19 * j) by omega]
theorem headD_last (s : List UInt8) (j : Nat) (h : s.length - 19 * j ≤ 19) : grpD s j = headD s j := by unfold grpD; rw [show s.length - 19 * j - 19 = 0 by omega]; rfl
theorem grpD_ne (s : List UInt8) (j : Nat) (h : 19 * j < s.length) : grpD s j ≠ [] := fun e => by
  have := grpD_length s j
  rw [e] at this
  simp at this
  omega
theorem dv_tail (s : List UInt8) (j : Nat) (h : 19 * j ≤ s.length) : dv (tailD s (j + 1)) = dv (grpD s j) * 10 ^ (19 * j) + dv (tailD s j) := by
  rw [tailD_succ, dv_append, tailD_length s j h]
/-- A text without the plus ahead. -/
def unplus (s : List UInt8) : List UInt8 := if s[0]? = some 43 then s.drop 1 else s
/-- A text that spells a number below 2^256. -/
def DecOk (s : List UInt8) : Prop := unplus s ≠ [] ∧ Decs (unplus s) ∧ dv (unplus s) < 2 ^ 256
instance (s : List UInt8) : Decidable (DecOk s) := inferInstanceAs (Decidable (_ ∧ _ ∧ _))
/-- The digits of 2^256 - 1. -/
def maxD : List UInt8 := [49, 49, 53, 55, 57, 50, 48, 56, 57, 50, 51, 55, 51, 49, 54, 49, 57, 53, 52, 50, 51, 53, 55, 48, 57, 56, 53, 48, 48, 56, 54, 56, 55, 57, 48, 55, 56, 53, 51, 50, 54, 57, 57, 56, 52, 54, 54, 53, 54, 52, 48, 53, 54, 52, 48, 51, 57, 52, 53, 55, 53, 56, 52, 48, 48, 55, 57, 49, 51, 49, 50, 57, 54, 51, 57, 57, 51, 53]
theorem maxD_length : maxD.length = 78 := rfl
theorem maxD_dv : dv maxD = 2 ^ 256 - 1 := by decide +kernel
theorem maxD_decs : Decs maxD := by decide +kernel
theorem less_dv : ∀ a b : List UInt8, a.length = b.length → Decs a → Decs b → Op.bytesLess a b = decide (dv a < dv b)
  | [], [], _, _, _ => by simp [Op.bytesLess]
  | x :: a, y :: b, hl, ha, hb => by
    have ha' : Decs a := fun c hc => ha c (List.mem_cons_of_mem _ hc)
    have hb' : Decs b := fun c hc => hb c (List.mem_cons_of_mem _ hc)
    have hl' : a.length = b.length := by simpa using hl
    have hx := ha x List.mem_cons_self
    have hy := hb y List.mem_cons_self
    have h1 := dv_lt a ha'
    have h2 := dv_lt b hb'
    have ih := less_dv a b hl' ha' hb'
    unfold Op.bytesLess
    rw [ih, dv_cons, dv_cons, hl']
    rw [hl'] at h1
    have hxy : x < y ↔ x.toNat < y.toNat := UInt8.lt_iff_toNat_lt
    have hexy : x = y ↔ x.toNat = y.toNat := ⟨fun h => by rw [h], fun h => UInt8.toNat.inj h⟩
    generalize 10 ^ b.length = p at *
    generalize dv a = u at *
    generalize dv b = v at *
    generalize x.toNat = m at *
    generalize y.toNat = n at *
    rcases Nat.lt_trichotomy m n with h | h | h
    · have k : (m - 48 + 1) * p ≤ (n - 48) * p := Nat.mul_le_mul_right _ (by omega)
      have k2 : (m - 48 + 1) * p = (m - 48) * p + p := Nat.succ_mul _ _
      have : (m - 48) * p + u < (n - 48) * p + v := by omega
      rw [decide_eq_true this, decide_eq_true (hxy.2 h)]
      rfl
    · subst h
      have e : x = y := hexy.2 rfl
      subst e
      rw [decide_eq_false (by rw [hxy]; omega)]
      simp
    · have k : (n - 48 + 1) * p ≤ (m - 48) * p := Nat.mul_le_mul_right _ (by omega)
      have k2 : (n - 48 + 1) * p = (n - 48) * p + p := Nat.succ_mul _ _
      have : ¬ (m - 48) * p + u < (n - 48) * p + v := by omega
      have e : (x == y) = false := by
        rw [beq_eq_false_iff_ne]
        intro e
        have := hexy.1 e
        omega
      rw [decide_eq_false this, decide_eq_false (by rw [hxy]; omega), e]
      rfl
theorem eq_of_dv : ∀ a b : List UInt8, a.length = b.length → Decs a → Decs b → dv a = dv b → a = b
  | [], [], _, _, _, _ => rfl
  | x :: a, y :: b, hl, ha, hb, he => by
    have ha' : Decs a := fun c hc => ha c (List.mem_cons_of_mem _ hc)
    have hb' : Decs b := fun c hc => hb c (List.mem_cons_of_mem _ hc)
    have hl' : a.length = b.length := by simpa using hl
    have hx := ha x List.mem_cons_self
    have hy := hb y List.mem_cons_self
    have h1 := dv_lt a ha'
    have h2 := dv_lt b hb'
    have ih := eq_of_dv a b hl' ha' hb'
    rw [dv_cons, dv_cons, hl'] at he
    rw [hl'] at h1
    have hexy : x.toNat = y.toNat → x = y := fun h => UInt8.toNat.inj h
    generalize 10 ^ b.length = p at *
    generalize dv a = u at *
    generalize dv b = v at *
    generalize x.toNat = m at *
    generalize y.toNat = n at *
    rcases Nat.lt_trichotomy m n with h | h | h
    · have k : (m - 48 + 1) * p ≤ (n - 48) * p := Nat.mul_le_mul_right _ (by omega)
      have k2 : (m - 48 + 1) * p = (m - 48) * p + p := Nat.succ_mul _ _
      omega
    · subst h
      rw [hexy rfl, ih (by omega)]
    · have k : (n - 48 + 1) * p ≤ (m - 48) * p := Nat.mul_le_mul_right _ (by omega)
      have k2 : (n - 48 + 1) * p = (n - 48) * p + p := Nat.succ_mul _ _
      omega
/-- The text is greater than the digits of 2^256 - 1. -/
def bigD (t : List UInt8) : Bool := !(Op.bytesLess t maxD || t == maxD)
theorem bigD_iff (t : List UInt8) (hl : t.length = 78) (h : Decs t) : bigD t = decide (2 ^ 256 ≤ dv t) := by
  have e := less_dv t maxD (by rw [hl, maxD_length]) h maxD_decs
  rw [maxD_dv] at e
  unfold bigD
  rw [e]
  by_cases k : dv t < 2 ^ 256 - 1
  · rw [decide_eq_true k, decide_eq_false (by omega)]; rfl
  · rw [decide_eq_false k]
    by_cases k2 : dv t = 2 ^ 256 - 1
    · rw [eq_of_dv t maxD (by rw [hl, maxD_length]) h maxD_decs (by rw [k2, maxD_dv]), maxD_dv]
      decide +kernel
    · have : (t == maxD) = false := by
        rw [beq_eq_false_iff_ne]
        intro e
        rw [e, maxD_dv] at k2
        exact k2 rfl
      rw [this, decide_eq_true (by omega)]; rfl
/-- What the package takes. -/
def fineD (t : List UInt8) : Prop := t ≠ [] ∧ Decs t ∧ (t.length < 78 ∨ (t.length = 78 ∧ bigD t = false))
theorem fineD_iff (s : List UInt8) : fineD (stripZ (unplus s)) ↔ DecOk s := by
  unfold fineD DecOk
  rw [stripZ_decs, ne_eq, stripZ_nil]
  refine and_congr_right fun h0 => and_congr_right fun h1 => ?_
  have h2 := (stripZ_decs (unplus s)).2 h1
  have h3 := stripZ_head (unplus s)
  have h4 : stripZ (unplus s) ≠ [] := fun e => h0 ((stripZ_nil _).1 e)
  rw [← stripZ_dv (unplus s)]
  generalize stripZ (unplus s) = t at *
  constructor
  · rintro (h | ⟨h, hb⟩)
    · have k := dv_lt t h2
      have k2 : 10 ^ t.length ≤ 10 ^ 77 := Nat.pow_le_pow_right (by omega) (by omega)
      exact Nat.lt_of_lt_of_le k (Nat.le_trans k2 (by decide +kernel))
    · rw [bigD_iff t h h2] at hb
      have := of_decide_eq_false hb
      omega
  · intro h
    rcases Nat.lt_trichotomy t.length 78 with k | k | k
    · exact .inl k
    · exact .inr ⟨k, by rw [bigD_iff t k h2, decide_eq_false (by omega)]⟩
    · rcases h3 with h3 | h3 | ⟨c, m, h3, hc⟩
      · exact absurd h3 h4
      · omega
      · rw [h3] at h2 h k
        have k1 := dv_ge c m h2 hc
        have k2 : 10 ^ 78 ≤ 10 ^ m.length := Nat.pow_le_pow_right (by omega) (by simp at k; omega)
        have k3 : (2 : Nat) ^ 256 ≤ 10 ^ 78 := by decide +kernel
        exact absurd h (Nat.not_lt.2 (Nat.le_trans k3 (Nat.le_trans k2 k1)))
/-- Noughts ahead: so many as go. -/
theorem stripZ_drop : ∀ (l : List UInt8), ∃ n, stripZ l = l.drop n ∧ (n = 0 ∨ n < l.length) ∧ (∀ i, i < n → l[i]? = some 48) ∧ (n + 1 < l.length → l[n]? ≠ some 48)
  | [] => ⟨0, rfl, .inl rfl, (fun i h => by omega), (fun h => by simp at h)⟩
  | [c] => ⟨0, rfl, .inl rfl, (fun i h => by omega), (fun h => by simp at h)⟩
  | c :: d :: l => by
    by_cases h : c = 48
    · obtain ⟨n, h1, h2, h3, h4⟩ := stripZ_drop (d :: l)
      refine ⟨n + 1, ?_, .inr ?_, ?_, ?_⟩
      · unfold stripZ; rw [if_pos h, h1]; rfl
      · simp at h2 ⊢; omega
      · intro i hi
        rcases i with _ | i
        · simp [h]
        · simpa using h3 i (by omega)
      · intro k
        simpa using h4 (by simpa using k)
    · refine ⟨0, ?_, .inl rfl, (fun i h => by omega), fun _ => by simpa using h⟩
      unfold stripZ; rw [if_neg h]; rfl
end Go.Proofs.YtfaocjcpnjmfiaaGreatDoor

set_option linter.unusedVariables false
set_option linter.unusedSimpArgs false
namespace Go.Proofs.YtfaocjcpnjmfiaaGreatDoor
open Go.RowKit
/-- An error that is there. -/
def IsErr (v : Value) : Prop := ∃ t u, v = .iface t u
/-- What strconv.ErrSyntax holds. -/
def SynE (w : World) : Prop := ∃ t u, w.cell? ⟨9, 0, none⟩ = some (.iface t u)
theorem SynE.bel {w w' : World} (h : SynE w) (k : Below w.heap.size w w') : SynE w' := by
  obtain ⟨t, u, h⟩ := h
  exact ⟨t, u, bel_cell k h⟩
theorem SynE.but {w w' : World} {b : Nat} (h : SynE w) (k : But [b] w w') (hb : 9 < b) : SynE w' := by
  obtain ⟨t, u, h⟩ := h
  exact ⟨t, u, k.cell (by simp; omega) h⟩
theorem parseGrp (l : List UInt8) (h0 : l ≠ []) (hl : l.length ≤ 19) (w : World) (he : SynE w) :
    Calls Tryz.prog 48 #[.string ⟨l.toArray⟩, .int .i64 10, .int .i64 64] w fun e w' => Below w.heap.size w w' ∧
      ((Decs l ∧ e = .returned (.tuple #[V (BitVec.ofNat 64 (dv l)), .nilIface])) ∨ (¬ Decs l ∧ ∃ t u, e = .returned (.tuple #[.int .u64 0, .iface t u]))) := by
  obtain ⟨h1, h2⟩ := parse_group l h0 hl
  by_cases hd : Decs l
  · refine (Tryz.strconv_ParseUint_10_at64_ok ⟨l.toArray⟩ (by show l.length ≤ _; omega) (dv l) (h1 hd) w).mono ?_
    rintro e w' ⟨rfl, hw⟩
    refine ⟨?_, .inl ⟨hd, ?_⟩⟩
    · rcases hw with rfl | rfl
      · exact bel_refl _
      · exact Lib.bytesWorld_below _ _ _
    · have hv : (BitVec.ofNat 64 (dv l)).toNat = dv l := by
        rw [BitVec.toNat_ofNat, Nat.mod_eq_of_lt]
        have k := dv_lt l hd
        have k2 : 10 ^ l.length ≤ 10 ^ 19 := Nat.pow_le_pow_right (by omega) hl
        have k3 : (10 : Nat) ^ 19 < 2 ^ 64 := by decide
        omega
      show _ = Ending.returned (.tuple #[.int .u64 (U (BitVec.ofNat 64 (dv l))), .nilIface])
      unfold U
      rw [hv]
  · obtain ⟨t, u, hc⟩ := he
    refine (Tryz.strconv_ParseUint_10_at64_bad ⟨l.toArray⟩ (by show l.length ≤ _; omega) (h2 hd) _ w hc (.inr ⟨t, u, rfl⟩)).mono ?_
    rintro e w' ⟨N, rfl, _, _, hb⟩
    exact ⟨hb, .inr ⟨hd, _, _, rfl⟩⟩
/-- The table of multipliers. -/
structure MulT (a : Nat → Addr) (w : World) : Prop where
  c0 : w.cell? ⟨7, 0, none⟩ = some (.pointer none)
  cp : ∀ j, 1 ≤ j → j ≤ 4 → w.cell? ⟨7, j, none⟩ = some (.pointer (some ⟨(a j).block, (a j).off, none⟩))
  at4 : ∀ j, 1 ≤ j → j ≤ 4 → At4 w (a j).block (a j).off (ofN (10 ^ (19 * j)))
theorem MulT.bel {a : Nat → Addr} {w w' : World} (h : MulT a w) (k : Below w.heap.size w w') : MulT a w' :=
  ⟨bel_cell k h.c0, fun j h1 h2 => bel_cell k (h.cp j h1 h2), fun j h1 h2 => (h.at4 j h1 h2).bel k⟩
noncomputable def mulMS (a : Nat → Addr) : Array Value := #[.pointer none, .pointer (some ⟨(a 1).block, (a 1).off, none⟩), .pointer (some ⟨(a 2).block, (a 2).off, none⟩), .pointer (some ⟨(a 3).block, (a 3).off, none⟩), .pointer (some ⟨(a 4).block, (a 4).off, none⟩)]
/-- What holds at the head of round j. -/
structure FdS (w0 : World) (b : Nat) (s : List UInt8) (j : Nat) (W : World) : Prop where
  at4 : At4 W b 0 (ofN (dv (tailD s j)))
  free : Free4 W b 0
  but : But [b] w0 W
  decs : Decs (tailD s j)
/-- The loops' bodies in a code, not those within them. -/
def loopsFD : Code → List Code
  | .loop c => [c]
  | .seq a b => loopsFD a ++ loopsFD b
  | .block _ c => loopsFD c
  | .scope c => loopsFD c
  | .cond _ a b => loopsFD a ++ loopsFD b
  | _ => []
noncomputable def fdBody : Code := ((Tryz.f36.body.map loopsFD).getD []).headD .skip
theorem grp_sub (s : List UInt8) (j : Nat) (h : Decs s) : Decs (grpD s j) := fun c hc => h c (by
  unfold grpD headD at hc
  exact List.mem_of_mem_take (List.mem_of_mem_drop hc))
theorem fd_add (g j t : Nat) (hg : g < 10 ^ 19) : ((ofN t).add ((⟨BitVec.ofNat 64 g, 0#64, 0#64, 0#64⟩ : N4).mul (ofN (10 ^ (19 * j))))) = ofN (g * 10 ^ (19 * j) + t) := by
  have h64 : g < 2 ^ 64 := Nat.lt_trans hg (by decide)
  have e1 : (⟨BitVec.ofNat 64 g, 0#64, 0#64, 0#64⟩ : N4) = ofN g := (ofN_small g _ (by rw [BitVec.toNat_ofNat, Nat.mod_eq_of_lt h64])).symm
  apply toNat_inj
  rw [add_toNat, mul_toNat, e1, ofN_toNat, ofN_toNat, ofN_toNat, ofN_toNat, ← Nat.mul_mod, Nat.add_mod, Nat.mod_mod, Nat.mod_mod, ← Nat.add_mod, Nat.add_comm]
theorem fds_next0 {w0 : World} {b j : Nat} {s : List UInt8} {W w1 w2 : World} {X : W64} {n : Nat} (hj : j = 0) (H : FdS w0 b s j W) (h1 : Below W.heap.size W w1) (h2 : w2 = (put4 w1 b 0 ⟨X, 0#64, 0#64, 0#64⟩).drewN n) (hX : X = BitVec.ofNat 64 (dv (grpD s j))) (hd : Decs (grpD s j)) (hl : 19 * j < s.length) : FdS w0 b s (j + 1) w2 := by
  subst hj
  subst h2
  have hlt := H.at4.lt
  have hg : dv (grpD s 0) < 2 ^ 64 := by
    have k := dv_lt _ hd
    have k2 : 10 ^ (grpD s 0).length ≤ 10 ^ 19 := Nat.pow_le_pow_right (by omega) (by rw [grpD_length]; omega)
    have k3 : (10 : Nat) ^ 19 < 2 ^ 64 := by decide
    omega
  refine ⟨?_, ?_, ?_, ?_⟩
  · rw [dv_tail s 0 (by omega), tailD_zero, dv_nil, Nat.mul_zero, Nat.pow_zero, Nat.mul_one, Nat.add_zero, ofN_small (dv (grpD s 0)) X (by rw [hX, BitVec.toNat_ofNat, Nat.mod_eq_of_lt hg])]
    exact At4.drewN (put4_at _ _ _ _ _ (H.at4.bel h1)) _
  · exact Free4.drewN (Free4.put _ (H.free.bel hlt h1)) _
  · exact ((H.but.trans (But.of_bel h1)).put4 (.inl (by simp)) _ _).drewN _
  · rw [tailD_succ, decs_append]
    exact ⟨hd, H.decs⟩
theorem fds_mult {w0 : World} {b : Nat} {s : List UInt8} {j g o B : Nat} {W w1 w2 : World} {x y : N4} (H : FdS w0 b s j W) (hm : At4 w0 g o x) (hg : g ≠ b) (h1 : Below W.heap.size W w1) (h2 : New4 w1 w2 B y) : At4 w2 g o x :=
  ((hm.but H.but (by simpa using hg)).bel h1).bel h2.bel
theorem fds_ne {w0 : World} {b : Nat} {s : List UInt8} {j B : Nat} {W w1 w2 : World} {y : N4} (H : FdS w0 b s j W) (h1 : Below W.heap.size W w1) (h2 : New4 w1 w2 B y) : b < B := by
  have := H.at4.lt
  have := h1.size
  have := h2.ge
  omega
theorem fds_z {w0 : World} {b : Nat} {s : List UInt8} {j B n : Nat} {W w1 w2 w3 : World} {y v : N4} (H : FdS w0 b s j W) (h1 : Below W.heap.size W w1) (h2 : New4 w1 w2 B y) (h3 : w3 = (put4 w2 B 0 v).drewN n) : At4 w3 b 0 (ofN (dv (tailD s j))) := by
  subst h3
  have := fds_ne H h1 h2
  exact At4.drewN (put4_far ((H.at4.bel h1).bel h2.bel) (fun e => absurd e (by omega))) _
theorem fds_zf {w0 : World} {b : Nat} {s : List UInt8} {j B n : Nat} {W w1 w2 w3 : World} {y v : N4} (H : FdS w0 b s j W) (h1 : Below W.heap.size W w1) (h2 : New4 w1 w2 B y) (h3 : w3 = (put4 w2 B 0 v).drewN n) : Free4 w3 b 0 := by
  subst h3
  have h4 := H.at4.lt
  have h5 := h1.size
  exact Free4.drewN (Free4.put _ ((H.free.bel h4 h1).bel (by omega) h2.bel)) _
theorem fds_base {B n : Nat} {w1 w2 w3 : World} {y v : N4} (h2 : New4 w1 w2 B y) (h3 : w3 = (put4 w2 B 0 v).drewN n) : At4 w3 B 0 v := by
  subst h3
  exact At4.drewN (put4_at _ _ _ _ _ h2.at4) _
theorem fds_sep (b : Nat) : Sep b 0 b 0 := Sep.rfl' b 0
theorem fds_sep2 {w0 : World} {b : Nat} {s : List UInt8} {j B : Nat} {W w1 w2 : World} {y : N4} (H : FdS w0 b s j W) (h1 : Below W.heap.size W w1) (h2 : New4 w1 w2 B y) : Sep b 0 B 0 := Sep.blocks (by have := fds_ne H h1 h2; omega)
theorem fds_next {w0 : World} {b : Nat} {s : List UInt8} {j B n3 n4 : Nat} {W w1 w2 w3 w4 : World} {X : W64} (H : FdS w0 b s j W) (h1 : Below W.heap.size W w1) (h2 : New4 w1 w2 B ⟨X, 0#64, 0#64, 0#64⟩) (h3 : w3 = (put4 w2 B 0 ((⟨X, 0#64, 0#64, 0#64⟩ : N4).mul (ofN (10 ^ (19 * j))))).drewN n3)
    (h4 : w4 = (put4 w3 b 0 ((ofN (dv (tailD s j))).add ((⟨X, 0#64, 0#64, 0#64⟩ : N4).mul (ofN (10 ^ (19 * j)))))).drewN n4) (hX : X = BitVec.ofNat 64 (dv (grpD s j))) (hd : Decs (grpD s j)) (hl : 19 * j < s.length) : FdS w0 b s (j + 1) w4 := by
  have hz := fds_z H h1 h2 h3
  have hzf := fds_zf H h1 h2 h3
  have hne := fds_ne H h1 h2
  have hg : dv (grpD s j) < 10 ^ 19 := by
    have k := dv_lt _ hd
    have k2 : 10 ^ (grpD s j).length ≤ 10 ^ 19 := Nat.pow_le_pow_right (by omega) (by rw [grpD_length]; omega)
    omega
  subst h4
  refine ⟨?_, ?_, ?_, ?_⟩
  · rw [dv_tail s j (by omega), ← fd_add _ j _ hg, ← hX]
    exact At4.drewN (put4_at _ _ _ _ _ hz) _
  · exact Free4.drewN (Free4.put _ hzf) _
  · refine But.drewN (But.put4 ?_ (.inl (by simp)) _ _) _
    subst h3
    have k1 : But [b] W w2 := (But.of_bel h1).trans (But.of_bel h2.bel)
    have k2 := H.but.trans k1
    have hs := k2.size
    refine But.drewN (But.put4 k2 (.inr ?_) _ _) _
    have := H.but.size
    have := h1.size
    have := h2.ge
    omega
  · rw [tailD_succ, decs_append]
    exact ⟨hd, H.decs⟩
theorem idxMul (a : Nat → Addr) (j : Nat) (hj : j ≤ 4) : ∃ Mv, (∀ w, (Instr.index 69 (.agg (mulMS a)) (.int .i64 (j : Int))).run Tryz.prog w = .ok Mv w) ∧ (j ≠ 0 → Mv = .pointer (some ⟨(a j).block, (a j).off, none⟩)) := by
  rcases (by omega : j = 0 ∨ j = 1 ∨ j = 2 ∨ j = 3 ∨ j = 4) with rfl | rfl | rfl | rfl | rfl
  · exact ⟨.pointer none, fun w => by unfold mulMS; kernel_rfl, fun h => absurd rfl h⟩
  · exact ⟨_, fun w => by unfold mulMS; kernel_rfl, fun _ => rfl⟩
  · exact ⟨_, fun w => by unfold mulMS; kernel_rfl, fun _ => rfl⟩
  · exact ⟨_, fun w => by unfold mulMS; kernel_rfl, fun _ => rfl⟩
  · exact ⟨_, fun w => by unfold mulMS; kernel_rfl, fun _ => rfl⟩
set_option maxHeartbeats 4000000 in
set_option maxRecDepth 20000 in
/-- A round that reads a group. -/
theorem fd_round (w0 : World) (b : Nat) (s L G T : List UInt8) (j : Nat) (MS : Array Value) (Mv : Value) (W : World) (Q : Exit → Act → World → Prop) (c2 c3 c11 c12 c13 c14 c15 c16 c17 v5 v6 v8 v9 v10 v20 v21 v22 v23 v24 v25 v26 v27 v28 v29 v30 v31 v32 v33 v34 v35 v36 v37 v38 v39 v40 v41 v42 v43 v44 v45 v46 v47 v48 v49 v50 v51 v52 v53 v54 v55 v56 v57 v58 v59 v60 v61 v62 v63 v64 v65 v66 : Value)
    (H : FdS w0 b s j W) (hL : L = headD s j) (hG : G = grpD s j) (hT : T = headD s (j + 1)) (hj : j ≤ 4) (hlt : 19 * j < s.length) (hs : s.length ≤ 78) (hes : SynE w0) (hbe : 9 < b)
    (hidx : ∀ w, (Instr.index 69 (.agg MS) (.int .i64 (j : Int))).run Tryz.prog w = .ok Mv w)
    (hM : j ≠ 0 → ∃ g o, Mv = .pointer (some ⟨g, o, none⟩) ∧ At4 w0 g o (ofN (10 ^ (19 * j))) ∧ g ≠ b)
    (HN : Hid (∀ (J I : Int) (B : ByteArray) (W' : World) (u5 u6 u8 u9 u10 u20 u21 u22 u23 u24 u25 u26 u27 u28 u29 u30 u31 u32 u33 u34 u35 u36 u37 u38 u39 u40 u41 u42 u43 u44 u45 u46 u47 u48 u49 u50 u51 u52 u53 u54 u55 u56 u57 u58 u59 u60 u61 u62 u63 u64 u65 u66 : Value), J = ((j + 1 : Nat) : Int) → I = (s.length : Int) - 19 * J → (19 * (j + 1) < s.length → B = ⟨T.toArray⟩) → FdS w0 b s (j + 1) W' → Q .normal ⟨List.toArray (.pointer (some ⟨b, 0, none⟩) :: .string B :: c2 :: c3 :: .nilIface :: u5 :: u6 :: .int .i64 I :: u8 :: u9 :: u10 :: c11 :: c12 :: c13 :: c14 :: c15 :: c16 :: c17 :: .agg MS :: .int .i64 J :: u20 :: u21 :: u22 :: u23 :: u24 :: u25 :: u26 :: u27 :: u28 :: u29 :: u30 :: u31 :: u32 :: u33 :: u34 :: u35 :: u36 :: u37 :: u38 :: u39 :: u40 :: u41 :: u42 :: u43 :: u44 :: u45 :: u46 :: u47 :: u48 :: u49 :: u50 :: u51 :: u52 :: u53 :: u54 :: u55 :: u56 :: u57 :: u58 :: u59 :: u60 :: u61 :: u62 :: u63 :: u64 :: u65 :: u66 :: []), []⟩ W'))
    (HB : Hid (∀ (ev : Value) (J I : Int) (B : ByteArray) (W' : World) (u5 u6 u8 u9 u10 u20 u21 u22 u23 u24 u25 u26 u27 u28 u29 u30 u31 u32 u33 u34 u35 u36 u37 u38 u39 u40 u41 u42 u43 u44 u45 u46 u47 u48 u49 u50 u51 u52 u53 u54 u55 u56 u57 u58 u59 u60 u61 u62 u63 u64 u65 u66 : Value), ¬ Decs s → IsErr ev → But [b] w0 W' → Q .ret ⟨List.toArray (.pointer (some ⟨b, 0, none⟩) :: .string B :: c2 :: c3 :: ev :: u5 :: u6 :: .int .i64 I :: u8 :: u9 :: u10 :: c11 :: c12 :: c13 :: c14 :: c15 :: c16 :: c17 :: .agg MS :: .int .i64 J :: u20 :: u21 :: u22 :: u23 :: u24 :: u25 :: u26 :: u27 :: u28 :: u29 :: u30 :: u31 :: u32 :: u33 :: u34 :: u35 :: u36 :: u37 :: u38 :: u39 :: u40 :: u41 :: u42 :: u43 :: u44 :: u45 :: u46 :: u47 :: u48 :: u49 :: u50 :: u51 :: u52 :: u53 :: u54 :: u55 :: u56 :: u57 :: u58 :: u59 :: u60 :: u61 :: u62 :: u63 :: u64 :: u65 :: u66 :: []), []⟩ W')) :
    Code.wp Tryz.prog fdBody Q ⟨List.toArray (.pointer (some ⟨b, 0, none⟩) :: .string ⟨L.toArray⟩ :: c2 :: c3 :: .nilIface :: v5 :: v6 :: .int .i64 (L.length : Int) :: v8 :: v9 :: v10 :: c11 :: c12 :: c13 :: c14 :: c15 :: c16 :: c17 :: .agg MS :: .int .i64 (j : Int) :: v20 :: v21 :: v22 :: v23 :: v24 :: v25 :: v26 :: v27 :: v28 :: v29 :: v30 :: v31 :: v32 :: v33 :: v34 :: v35 :: v36 :: v37 :: v38 :: v39 :: v40 :: v41 :: v42 :: v43 :: v44 :: v45 :: v46 :: v47 :: v48 :: v49 :: v50 :: v51 :: v52 :: v53 :: v54 :: v55 :: v56 :: v57 :: v58 :: v59 :: v60 :: v61 :: v62 :: v63 :: v64 :: v65 :: v66 :: []), []⟩ W := by
  have hLl : L.length = s.length - 19 * j := by rw [hL, headD_length]
  have hGl : G.length = min 19 L.length := by rw [hG, grpD_length, hLl]
  have hG0 : G ≠ [] := by rw [hG]; exact grpD_ne s j hlt
  have PG := Lib.hid (parseGrp G hG0 (by omega) W (hes.but H.but hbe))
  have HH := Lib.hid H
  have hj5 : (j : Int) < 5 := by omega
  have hL0 : ¬ (L.length : Int) ≤ 0 := by omega
  have hLm : (L.length : Int) ≤ 78 := by omega
  have hne : ¬ L = [] := by
    intro e
    rw [e] at hLl
    simp at hLl
    omega
  have HI : Hid ((L.length : Int) = (s.length : Int) - 19 * (j : Int)) := by show (_ : Int) = _; omega
  have HLT : Hid (19 * j < s.length) := hlt
  have hGe : Hid (L.drop (L.length - 19) = G) := by show _ = _; rw [hG, hL, headD_length]; rfl
  have hTe : Hid (19 < L.length → L.take (L.length - 19) = T) := fun _ => by rw [hT, hL, headD_length, headD_succ]
  have hGL : Hid (L.length ≤ 19 → G = L) := fun h => by rw [hG, hL]; exact headD_last s j (by omega)
  have hGb : Hid (G = grpD s j) := hG
  obtain ⟨X, hX⟩ : ∃ X, X = BitVec.ofNat 64 (dv G) := ⟨_, rfl⟩
  have HX := Lib.hid hX
  rw [← hX] at PG
  clear H hes hL hG hT hLl hGl hlt hX hG0
  by_cases h19 : 19 < L.length
  · have h19i : (19 : Int) < (L.length : Int) := by omega
    have hx1 : (⟨L.toArray⟩ : ByteArray).extract (L.length - 19) L.length = ⟨G.toArray⟩ := by
      apply ByteArray.ext
      rw [ByteArray.data_extract, ← hGe.out]
      simp
      exact List.take_of_length_le (by rw [List.length_drop]; omega)
    have hx2 : (⟨L.toArray⟩ : ByteArray).extract 0 (L.length - 19) = ⟨T.toArray⟩ := by
      apply ByteArray.ext
      rw [ByteArray.data_extract, ← hTe.out h19]
      simp
    have HNEXT : Hid ((L.length : Int) - 19 = (s.length : Int) - 19 * ((j + 1 : Nat) : Int)) := by show (_ : Int) = _; have := HI.out; omega
    have hGL2 : Hid (¬ L.length ≤ 19) := by show ¬ _; omega
    by_cases hd : Decs G
    · have PGo : Hid (Calls Tryz.prog 48 #[.string ⟨G.toArray⟩, .int .i64 10, .int .i64 64] W fun e w' => Below W.heap.size W w' ∧ e = .returned (.tuple #[V X, .nilIface])) := PG.out.mono fun e w' ⟨h1, h2⟩ => ⟨h1, by
        rcases h2 with ⟨_, h2⟩ | ⟨h2, _⟩
        · exact h2
        · exact absurd hd h2⟩
      have HD := Lib.hid hd
      clear PG hd
      by_cases hj0 : j = 0
      · have HJ0 := Lib.hid hj0
        have hj0i : ((j : Int) == 0) = true := by simp; omega
        clear hM hj0
        conv => arg 2; whnf
        go_wp2_with (first
          | (go_at_call 48; refine PGo.out.mono ?_; rintro e w1 ⟨hb1, rfl⟩; have HB1 := Lib.hid hb1; clear hb1)
          | (go_at_call 38; refine (setUint64_any b 0 (ofN (dv (tailD s j))) X _ (HH.out.at4.bel HB1.out) (HH.out.free.bel HH.out.at4.lt HB1.out)).mono ?_; rintro e w2 ⟨rfl, n2, hw2⟩; have HW2 := Lib.hid hw2; clear hw2))
        exact HN.out _ _ _ _ _ _ _ _ _ _ _ _ _ _ _ _ _ _ _ _ _ _ _ _ _ _ _ _ _ _ _ _ _ _ _ _ _ _ _ _ _ _ _ _ _ _ _ _ _ _ _ _ _ _ _ _ (by omega) (by have := HNEXT.out; omega) (fun _ => hx2) (fds_next0 HJ0.out HH.out HB1.out HW2.out (by rw [HX.out, hGb.out]) (hGb.out ▸ HD.out) HLT.out)
      · obtain ⟨g, o, rfl, hm4, hgb⟩ := hM hj0
        have HM4 := Lib.hid hm4
        have HGB := Lib.hid hgb
        have HJ0 := Lib.hid hj0
        have hj0i : ((j : Int) == 0) = false := by simp; omega
        clear hm4 hgb hM hj0
        conv => arg 2; whnf
        go_wp2_with (first
          | (go_at_call 48; refine PGo.out.mono ?_; rintro e w1 ⟨hb1, rfl⟩; have HB1 := Lib.hid hb1; clear hb1)
          | (go_at_call 29; refine (newInt_any X _).mono ?_; rintro e w2 ⟨B2, rfl, m2⟩; have HM2 := Lib.hid m2; clear m2)
          | (go_at_call 50; refine (mulInt_any B2 0 B2 0 g o _ ⟨X, 0#64, 0#64, 0#64⟩ (ofN (10 ^ (19 * j))) _ HM2.out.at4 HM2.out.free HM2.out.at4 (fds_mult HH.out HM4.out HGB.out HB1.out HM2.out)).mono ?_; rintro e w3 ⟨rfl, n3, hw3⟩; have HW3 := Lib.hid hw3; clear hw3)
          | (go_at_call 49; refine (add_any b 0 b 0 B2 0 (ofN (dv (tailD s j))) (ofN (dv (tailD s j))) ((⟨X, 0#64, 0#64, 0#64⟩ : N4).mul (ofN (10 ^ (19 * j)))) _ (fds_z HH.out HB1.out HM2.out HW3.out) (fds_zf HH.out HB1.out HM2.out HW3.out) (fds_z HH.out HB1.out HM2.out HW3.out) (fds_base HM2.out HW3.out) (fds_sep b) (fds_sep2 HH.out HB1.out HM2.out)).mono ?_; rintro e w4 ⟨rfl, n4, hw4⟩; have HW4 := Lib.hid hw4; clear hw4))
        exact HN.out _ _ _ _ _ _ _ _ _ _ _ _ _ _ _ _ _ _ _ _ _ _ _ _ _ _ _ _ _ _ _ _ _ _ _ _ _ _ _ _ _ _ _ _ _ _ _ _ _ _ _ _ _ _ _ _ (by omega) (by have := HNEXT.out; omega) (fun _ => hx2) (fds_next HH.out HB1.out HM2.out HW3.out HW4.out (by rw [HX.out, hGb.out]) (hGb.out ▸ HD.out) HLT.out)
    · have PGb : Hid (Calls Tryz.prog 48 #[.string ⟨G.toArray⟩, .int .i64 10, .int .i64 64] W fun e w' => Below W.heap.size W w' ∧ ∃ t u, e = .returned (.tuple #[.int .u64 0, .iface t u])) := PG.out.mono fun e w' ⟨h1, h2⟩ => ⟨h1, by
        rcases h2 with ⟨h2, _⟩ | ⟨_, h2⟩
        · exact absurd h2 hd
        · exact h2⟩
      have HD := Lib.hid hd
      clear PG hd hM
      conv => arg 2; whnf
      go_wp2_with (go_at_call 48; refine PGb.out.mono ?_; rintro e w1 ⟨hb1, t, u, rfl⟩; have HB1 := Lib.hid hb1; clear hb1)
      exact HB.out _ _ _ _ _ _ _ _ _ _ _ _ _ _ _ _ _ _ _ _ _ _ _ _ _ _ _ _ _ _ _ _ _ _ _ _ _ _ _ _ _ _ _ _ _ _ _ _ _ _ _ _ _ _ _ _ _ (fun h => HD.out (hGb.out ▸ grp_sub s j h)) ⟨t, u, rfl⟩ (HH.out.but.trans (But.of_bel HB1.out))
  · have h19i : ¬ (19 : Int) < (L.length : Int) := by omega
    have hGq := hGL.out (by omega)
    have HLAST : Hid (¬ 19 * (j + 1) < s.length) := by show ¬ _; have := HI.out; omega
    have HNEXT : Hid ((L.length : Int) - 19 = (s.length : Int) - 19 * ((j + 1 : Nat) : Int)) := by show (_ : Int) = _; have := HI.out; omega
    subst hGq
    by_cases hd : Decs G
    · have PGo : Hid (Calls Tryz.prog 48 #[.string ⟨G.toArray⟩, .int .i64 10, .int .i64 64] W fun e w' => Below W.heap.size W w' ∧ e = .returned (.tuple #[V X, .nilIface])) := PG.out.mono fun e w' ⟨h1, h2⟩ => ⟨h1, by
        rcases h2 with ⟨_, h2⟩ | ⟨h2, _⟩
        · exact h2
        · exact absurd hd h2⟩
      have HD := Lib.hid hd
      clear PG hd
      by_cases hj0 : j = 0
      · have HJ0 := Lib.hid hj0
        have hj0i : ((j : Int) == 0) = true := by simp; omega
        clear hM hj0
        conv => arg 2; whnf
        go_wp2_with (first
          | (go_at_call 48; refine PGo.out.mono ?_; rintro e w1 ⟨hb1, rfl⟩; have HB1 := Lib.hid hb1; clear hb1)
          | (go_at_call 38; refine (setUint64_any b 0 (ofN (dv (tailD s j))) X _ (HH.out.at4.bel HB1.out) (HH.out.free.bel HH.out.at4.lt HB1.out)).mono ?_; rintro e w2 ⟨rfl, n2, hw2⟩; have HW2 := Lib.hid hw2; clear hw2))
        exact HN.out _ _ _ _ _ _ _ _ _ _ _ _ _ _ _ _ _ _ _ _ _ _ _ _ _ _ _ _ _ _ _ _ _ _ _ _ _ _ _ _ _ _ _ _ _ _ _ _ _ _ _ _ _ _ _ _ (by omega) (by have := HNEXT.out; omega) (fun h => absurd h HLAST.out) (fds_next0 HJ0.out HH.out HB1.out HW2.out (by rw [HX.out, hGb.out]) (hGb.out ▸ HD.out) HLT.out)
      · obtain ⟨g, o, rfl, hm4, hgb⟩ := hM hj0
        have HM4 := Lib.hid hm4
        have HGB := Lib.hid hgb
        have HJ0 := Lib.hid hj0
        have hj0i : ((j : Int) == 0) = false := by simp; omega
        clear hm4 hgb hM hj0
        conv => arg 2; whnf
        go_wp2_with (first
          | (go_at_call 48; refine PGo.out.mono ?_; rintro e w1 ⟨hb1, rfl⟩; have HB1 := Lib.hid hb1; clear hb1)
          | (go_at_call 29; refine (newInt_any X _).mono ?_; rintro e w2 ⟨B2, rfl, m2⟩; have HM2 := Lib.hid m2; clear m2)
          | (go_at_call 50; refine (mulInt_any B2 0 B2 0 g o _ ⟨X, 0#64, 0#64, 0#64⟩ (ofN (10 ^ (19 * j))) _ HM2.out.at4 HM2.out.free HM2.out.at4 (fds_mult HH.out HM4.out HGB.out HB1.out HM2.out)).mono ?_; rintro e w3 ⟨rfl, n3, hw3⟩; have HW3 := Lib.hid hw3; clear hw3)
          | (go_at_call 49; refine (add_any b 0 b 0 B2 0 (ofN (dv (tailD s j))) (ofN (dv (tailD s j))) ((⟨X, 0#64, 0#64, 0#64⟩ : N4).mul (ofN (10 ^ (19 * j)))) _ (fds_z HH.out HB1.out HM2.out HW3.out) (fds_zf HH.out HB1.out HM2.out HW3.out) (fds_z HH.out HB1.out HM2.out HW3.out) (fds_base HM2.out HW3.out) (fds_sep b) (fds_sep2 HH.out HB1.out HM2.out)).mono ?_; rintro e w4 ⟨rfl, n4, hw4⟩; have HW4 := Lib.hid hw4; clear hw4))
        exact HN.out _ _ _ _ _ _ _ _ _ _ _ _ _ _ _ _ _ _ _ _ _ _ _ _ _ _ _ _ _ _ _ _ _ _ _ _ _ _ _ _ _ _ _ _ _ _ _ _ _ _ _ _ _ _ _ _ (by omega) (by have := HNEXT.out; omega) (fun h => absurd h HLAST.out) (fds_next HH.out HB1.out HM2.out HW3.out HW4.out (by rw [HX.out, hGb.out]) (hGb.out ▸ HD.out) HLT.out)
    · have PGb : Hid (Calls Tryz.prog 48 #[.string ⟨G.toArray⟩, .int .i64 10, .int .i64 64] W fun e w' => Below W.heap.size W w' ∧ ∃ t u, e = .returned (.tuple #[.int .u64 0, .iface t u])) := PG.out.mono fun e w' ⟨h1, h2⟩ => ⟨h1, by
        rcases h2 with ⟨h2, _⟩ | ⟨_, h2⟩
        · exact absurd h2 hd
        · exact h2⟩
      have HD := Lib.hid hd
      clear PG hd hM
      conv => arg 2; whnf
      go_wp2_with (go_at_call 48; refine PGb.out.mono ?_; rintro e w1 ⟨hb1, t, u, rfl⟩; have HB1 := Lib.hid hb1; clear hb1)
      exact HB.out _ _ _ _ _ _ _ _ _ _ _ _ _ _ _ _ _ _ _ _ _ _ _ _ _ _ _ _ _ _ _ _ _ _ _ _ _ _ _ _ _ _ _ _ _ _ _ _ _ _ _ _ _ _ _ _ _ (fun h => HD.out (hGb.out ▸ grp_sub s j h)) ⟨t, u, rfl⟩ (HH.out.but.trans (But.of_bel HB1.out))
set_option maxHeartbeats 4000000 in
set_option maxRecDepth 20000 in
/-- A round behind the last group. -/
theorem fd_done (w0 : World) (b : Nat) (s : List UInt8) (j : Nat) (I : Int) (B : ByteArray) (MS : Array Value) (Mv : Value) (W : World) (Q : Exit → Act → World → Prop) (c2 c3 c11 c12 c13 c14 c15 c16 c17 v5 v6 v8 v9 v10 v20 v21 v22 v23 v24 v25 v26 v27 v28 v29 v30 v31 v32 v33 v34 v35 v36 v37 v38 v39 v40 v41 v42 v43 v44 v45 v46 v47 v48 v49 v50 v51 v52 v53 v54 v55 v56 v57 v58 v59 v60 v61 v62 v63 v64 v65 v66 : Value)
    (H : FdS w0 b s j W) (hj : j ≤ 4) (hI : I ≤ 0) (hle : s.length ≤ 19 * j)
    (hidx : ∀ w, (Instr.index 69 (.agg MS) (.int .i64 (j : Int))).run Tryz.prog w = .ok Mv w)
    (HD : Hid (∀ (J I : Int) (B : ByteArray) (W' : World) (u5 u6 u8 u9 u10 u20 u21 u22 u23 u24 u25 u26 u27 u28 u29 u30 u31 u32 u33 u34 u35 u36 u37 u38 u39 u40 u41 u42 u43 u44 u45 u46 u47 u48 u49 u50 u51 u52 u53 u54 u55 u56 u57 u58 u59 u60 u61 u62 u63 u64 u65 u66 : Value), FdS w0 b s j W' → Q .ret ⟨List.toArray (.pointer (some ⟨b, 0, none⟩) :: .string B :: c2 :: c3 :: .nilIface :: u5 :: u6 :: .int .i64 I :: u8 :: u9 :: u10 :: c11 :: c12 :: c13 :: c14 :: c15 :: c16 :: c17 :: .agg MS :: .int .i64 J :: u20 :: u21 :: u22 :: u23 :: u24 :: u25 :: u26 :: u27 :: u28 :: u29 :: u30 :: u31 :: u32 :: u33 :: u34 :: u35 :: u36 :: u37 :: u38 :: u39 :: u40 :: u41 :: u42 :: u43 :: u44 :: u45 :: u46 :: u47 :: u48 :: u49 :: u50 :: u51 :: u52 :: u53 :: u54 :: u55 :: u56 :: u57 :: u58 :: u59 :: u60 :: u61 :: u62 :: u63 :: u64 :: u65 :: u66 :: []), []⟩ W')) :
    Code.wp Tryz.prog fdBody Q ⟨List.toArray (.pointer (some ⟨b, 0, none⟩) :: .string B :: c2 :: c3 :: .nilIface :: v5 :: v6 :: .int .i64 I :: v8 :: v9 :: v10 :: c11 :: c12 :: c13 :: c14 :: c15 :: c16 :: c17 :: .agg MS :: .int .i64 (j : Int) :: v20 :: v21 :: v22 :: v23 :: v24 :: v25 :: v26 :: v27 :: v28 :: v29 :: v30 :: v31 :: v32 :: v33 :: v34 :: v35 :: v36 :: v37 :: v38 :: v39 :: v40 :: v41 :: v42 :: v43 :: v44 :: v45 :: v46 :: v47 :: v48 :: v49 :: v50 :: v51 :: v52 :: v53 :: v54 :: v55 :: v56 :: v57 :: v58 :: v59 :: v60 :: v61 :: v62 :: v63 :: v64 :: v65 :: v66 :: []), []⟩ W := by
  have HH := Lib.hid H
  have hj5 : (j : Int) < 5 := by omega
  clear H
  conv => arg 2; whnf
  go_wp2
  exact HD.out _ _ _ _ _ _ _ _ _ _ _ _ _ _ _ _ _ _ _ _ _ _ _ _ _ _ _ _ _ _ _ _ _ _ _ _ _ _ _ _ _ _ _ _ _ _ _ _ _ _ _ _ _ _ _ _ HH.out
set_option maxHeartbeats 4000000 in
set_option maxRecDepth 20000 in
theorem fd_exit (w0 : World) (b : Nat) (s : List UInt8) (I : Int) (B : ByteArray) (MS : Array Value) (W : World) (Q : Exit → Act → World → Prop) (c2 c3 c11 c12 c13 c14 c15 c16 c17 v5 v6 v8 v9 v10 v20 v21 v22 v23 v24 v25 v26 v27 v28 v29 v30 v31 v32 v33 v34 v35 v36 v37 v38 v39 v40 v41 v42 v43 v44 v45 v46 v47 v48 v49 v50 v51 v52 v53 v54 v55 v56 v57 v58 v59 v60 v61 v62 v63 v64 v65 v66 : Value)
    (H : FdS w0 b s 5 W)
    (HX : Hid (∀ (J I : Int) (B : ByteArray) (W' : World) (u5 u6 u8 u9 u10 u20 u21 u22 u23 u24 u25 u26 u27 u28 u29 u30 u31 u32 u33 u34 u35 u36 u37 u38 u39 u40 u41 u42 u43 u44 u45 u46 u47 u48 u49 u50 u51 u52 u53 u54 u55 u56 u57 u58 u59 u60 u61 u62 u63 u64 u65 u66 : Value), FdS w0 b s 5 W' → Q (.exit 0) ⟨List.toArray (.pointer (some ⟨b, 0, none⟩) :: .string B :: c2 :: c3 :: .nilIface :: u5 :: u6 :: .int .i64 I :: u8 :: u9 :: u10 :: c11 :: c12 :: c13 :: c14 :: c15 :: c16 :: c17 :: .agg MS :: .int .i64 J :: u20 :: u21 :: u22 :: u23 :: u24 :: u25 :: u26 :: u27 :: u28 :: u29 :: u30 :: u31 :: u32 :: u33 :: u34 :: u35 :: u36 :: u37 :: u38 :: u39 :: u40 :: u41 :: u42 :: u43 :: u44 :: u45 :: u46 :: u47 :: u48 :: u49 :: u50 :: u51 :: u52 :: u53 :: u54 :: u55 :: u56 :: u57 :: u58 :: u59 :: u60 :: u61 :: u62 :: u63 :: u64 :: u65 :: u66 :: []), []⟩ W')) :
    Code.wp Tryz.prog fdBody Q ⟨List.toArray (.pointer (some ⟨b, 0, none⟩) :: .string B :: c2 :: c3 :: .nilIface :: v5 :: v6 :: .int .i64 I :: v8 :: v9 :: v10 :: c11 :: c12 :: c13 :: c14 :: c15 :: c16 :: c17 :: .agg MS :: .int .i64 5 :: v20 :: v21 :: v22 :: v23 :: v24 :: v25 :: v26 :: v27 :: v28 :: v29 :: v30 :: v31 :: v32 :: v33 :: v34 :: v35 :: v36 :: v37 :: v38 :: v39 :: v40 :: v41 :: v42 :: v43 :: v44 :: v45 :: v46 :: v47 :: v48 :: v49 :: v50 :: v51 :: v52 :: v53 :: v54 :: v55 :: v56 :: v57 :: v58 :: v59 :: v60 :: v61 :: v62 :: v63 :: v64 :: v65 :: v66 :: []), []⟩ W := by
  have HH := Lib.hid H
  clear H
  conv => arg 2; whnf
  go_wp2
  exact HX.out _ _ _ _ _ _ _ _ _ _ _ _ _ _ _ _ _ _ _ _ _ _ _ _ _ _ _ _ _ _ _ _ _ _ _ _ _ _ _ _ _ _ _ _ _ _ _ _ _ _ _ _ _ _ _ _ HH.out
/-- The loop. -/
def FdI (w0 : World) (b : Nat) (s : List UInt8) (MS : Array Value) (c2 c3 c11 c12 c13 c14 c15 c16 c17 : Value) (a : Act) (W : World) : Prop :=
  ∃ (u5 u6 u8 u9 u10 u20 u21 u22 u23 u24 u25 u26 u27 u28 u29 u30 u31 u32 u33 u34 u35 u36 u37 u38 u39 u40 u41 u42 u43 u44 u45 u46 u47 u48 u49 u50 u51 u52 u53 u54 u55 u56 u57 u58 u59 u60 u61 u62 u63 u64 u65 u66 : Value), ∃ (j : Nat) (J I : Int) (B : ByteArray), J = (j : Int) ∧ I = (s.length : Int) - 19 * (j : Int) ∧ (19 * j < s.length → B = ⟨(headD s j).toArray⟩) ∧ j ≤ 5 ∧ FdS w0 b s j W ∧ a = ⟨List.toArray (.pointer (some ⟨b, 0, none⟩) :: .string B :: c2 :: c3 :: .nilIface :: u5 :: u6 :: .int .i64 I :: u8 :: u9 :: u10 :: c11 :: c12 :: c13 :: c14 :: c15 :: c16 :: c17 :: .agg MS :: .int .i64 J :: u20 :: u21 :: u22 :: u23 :: u24 :: u25 :: u26 :: u27 :: u28 :: u29 :: u30 :: u31 :: u32 :: u33 :: u34 :: u35 :: u36 :: u37 :: u38 :: u39 :: u40 :: u41 :: u42 :: u43 :: u44 :: u45 :: u46 :: u47 :: u48 :: u49 :: u50 :: u51 :: u52 :: u53 :: u54 :: u55 :: u56 :: u57 :: u58 :: u59 :: u60 :: u61 :: u62 :: u63 :: u64 :: u65 :: u66 :: []), []⟩
def muFd (a : Act) (_ : World) : Nat := (5 - RowKit.intOf (a.tmps[19]?.getD undef)).toNat
set_option maxHeartbeats 4000000 in
set_option maxRecDepth 20000 in
theorem fd_loop (w0 : World) (a : Nat → Addr) (b : Nat) (s : List UInt8) (MS : Array Value) (J I : Int) (B : ByteArray) (W : World) (Q : Exit → Act → World → Prop) (c2 c3 c11 c12 c13 c14 c15 c16 c17 v5 v6 v8 v9 v10 v20 v21 v22 v23 v24 v25 v26 v27 v28 v29 v30 v31 v32 v33 v34 v35 v36 v37 v38 v39 v40 v41 v42 v43 v44 v45 v46 v47 v48 v49 v50 v51 v52 v53 v54 v55 v56 v57 v58 v59 v60 v61 v62 v63 v64 v65 v66 : Value)
    (H : FdS w0 b s 0 W) (hJ : J = 0) (hI : I = (s.length : Int)) (hB : B = ⟨s.toArray⟩) (hMS : MS = mulMS a) (hs : s.length ≤ 78) (hes : SynE w0) (hbe : 9 < b) (hT : MulT a w0) (hab : ∀ j, 1 ≤ j → j ≤ 4 → (a j).block ≠ b)
    (HB : Hid (∀ (ev : Value) (J I : Int) (B : ByteArray) (W' : World) (u5 u6 u8 u9 u10 u20 u21 u22 u23 u24 u25 u26 u27 u28 u29 u30 u31 u32 u33 u34 u35 u36 u37 u38 u39 u40 u41 u42 u43 u44 u45 u46 u47 u48 u49 u50 u51 u52 u53 u54 u55 u56 u57 u58 u59 u60 u61 u62 u63 u64 u65 u66 : Value), ¬ Decs s → IsErr ev → But [b] w0 W' → Q .ret ⟨List.toArray (.pointer (some ⟨b, 0, none⟩) :: .string B :: c2 :: c3 :: ev :: u5 :: u6 :: .int .i64 I :: u8 :: u9 :: u10 :: c11 :: c12 :: c13 :: c14 :: c15 :: c16 :: c17 :: .agg MS :: .int .i64 J :: u20 :: u21 :: u22 :: u23 :: u24 :: u25 :: u26 :: u27 :: u28 :: u29 :: u30 :: u31 :: u32 :: u33 :: u34 :: u35 :: u36 :: u37 :: u38 :: u39 :: u40 :: u41 :: u42 :: u43 :: u44 :: u45 :: u46 :: u47 :: u48 :: u49 :: u50 :: u51 :: u52 :: u53 :: u54 :: u55 :: u56 :: u57 :: u58 :: u59 :: u60 :: u61 :: u62 :: u63 :: u64 :: u65 :: u66 :: []), []⟩ W'))
    (HD : Hid (∀ (J I : Int) (B : ByteArray) (W' : World) (u5 u6 u8 u9 u10 u20 u21 u22 u23 u24 u25 u26 u27 u28 u29 u30 u31 u32 u33 u34 u35 u36 u37 u38 u39 u40 u41 u42 u43 u44 u45 u46 u47 u48 u49 u50 u51 u52 u53 u54 u55 u56 u57 u58 u59 u60 u61 u62 u63 u64 u65 u66 : Value), Decs s → At4 W' b 0 (ofN (dv s)) → Free4 W' b 0 → But [b] w0 W' → Q .ret ⟨List.toArray (.pointer (some ⟨b, 0, none⟩) :: .string B :: c2 :: c3 :: .nilIface :: u5 :: u6 :: .int .i64 I :: u8 :: u9 :: u10 :: c11 :: c12 :: c13 :: c14 :: c15 :: c16 :: c17 :: .agg MS :: .int .i64 J :: u20 :: u21 :: u22 :: u23 :: u24 :: u25 :: u26 :: u27 :: u28 :: u29 :: u30 :: u31 :: u32 :: u33 :: u34 :: u35 :: u36 :: u37 :: u38 :: u39 :: u40 :: u41 :: u42 :: u43 :: u44 :: u45 :: u46 :: u47 :: u48 :: u49 :: u50 :: u51 :: u52 :: u53 :: u54 :: u55 :: u56 :: u57 :: u58 :: u59 :: u60 :: u61 :: u62 :: u63 :: u64 :: u65 :: u66 :: []), []⟩ W'))
    (HX : Hid (∀ (J I : Int) (B : ByteArray) (W' : World) (u5 u6 u8 u9 u10 u20 u21 u22 u23 u24 u25 u26 u27 u28 u29 u30 u31 u32 u33 u34 u35 u36 u37 u38 u39 u40 u41 u42 u43 u44 u45 u46 u47 u48 u49 u50 u51 u52 u53 u54 u55 u56 u57 u58 u59 u60 u61 u62 u63 u64 u65 u66 : Value), Decs s → At4 W' b 0 (ofN (dv s)) → Free4 W' b 0 → But [b] w0 W' → Q (.exit 0) ⟨List.toArray (.pointer (some ⟨b, 0, none⟩) :: .string B :: c2 :: c3 :: .nilIface :: u5 :: u6 :: .int .i64 I :: u8 :: u9 :: u10 :: c11 :: c12 :: c13 :: c14 :: c15 :: c16 :: c17 :: .agg MS :: .int .i64 J :: u20 :: u21 :: u22 :: u23 :: u24 :: u25 :: u26 :: u27 :: u28 :: u29 :: u30 :: u31 :: u32 :: u33 :: u34 :: u35 :: u36 :: u37 :: u38 :: u39 :: u40 :: u41 :: u42 :: u43 :: u44 :: u45 :: u46 :: u47 :: u48 :: u49 :: u50 :: u51 :: u52 :: u53 :: u54 :: u55 :: u56 :: u57 :: u58 :: u59 :: u60 :: u61 :: u62 :: u63 :: u64 :: u65 :: u66 :: []), []⟩ W')) :
    Code.wp Tryz.prog (.loop fdBody) Q ⟨List.toArray (.pointer (some ⟨b, 0, none⟩) :: .string B :: c2 :: c3 :: .nilIface :: v5 :: v6 :: .int .i64 I :: v8 :: v9 :: v10 :: c11 :: c12 :: c13 :: c14 :: c15 :: c16 :: c17 :: .agg MS :: .int .i64 J :: v20 :: v21 :: v22 :: v23 :: v24 :: v25 :: v26 :: v27 :: v28 :: v29 :: v30 :: v31 :: v32 :: v33 :: v34 :: v35 :: v36 :: v37 :: v38 :: v39 :: v40 :: v41 :: v42 :: v43 :: v44 :: v45 :: v46 :: v47 :: v48 :: v49 :: v50 :: v51 :: v52 :: v53 :: v54 :: v55 :: v56 :: v57 :: v58 :: v59 :: v60 :: v61 :: v62 :: v63 :: v64 :: v65 :: v66 :: []), []⟩ W := by
  refine wp_loop (FdI w0 b s MS c2 c3 c11 c12 c13 c14 c15 c16 c17) muFd ?_ ?_
  · exact ⟨v5, v6, v8, v9, v10, v20, v21, v22, v23, v24, v25, v26, v27, v28, v29, v30, v31, v32, v33, v34, v35, v36, v37, v38, v39, v40, v41, v42, v43, v44, v45, v46, v47, v48, v49, v50, v51, v52, v53, v54, v55, v56, v57, v58, v59, v60, v61, v62, v63, v64, v65, v66, 0, J, I, B, hJ, by rw [hI]; simp, fun _ => by rw [hB, headD_zero], by omega, H, rfl⟩
  · intro A W1 hI
    obtain ⟨u5, hI⟩ := hI
    obtain ⟨u6, hI⟩ := hI
    obtain ⟨u8, hI⟩ := hI
    obtain ⟨u9, hI⟩ := hI
    obtain ⟨u10, hI⟩ := hI
    obtain ⟨u20, hI⟩ := hI
    obtain ⟨u21, hI⟩ := hI
    obtain ⟨u22, hI⟩ := hI
    obtain ⟨u23, hI⟩ := hI
    obtain ⟨u24, hI⟩ := hI
    obtain ⟨u25, hI⟩ := hI
    obtain ⟨u26, hI⟩ := hI
    obtain ⟨u27, hI⟩ := hI
    obtain ⟨u28, hI⟩ := hI
    obtain ⟨u29, hI⟩ := hI
    obtain ⟨u30, hI⟩ := hI
    obtain ⟨u31, hI⟩ := hI
    obtain ⟨u32, hI⟩ := hI
    obtain ⟨u33, hI⟩ := hI
    obtain ⟨u34, hI⟩ := hI
    obtain ⟨u35, hI⟩ := hI
    obtain ⟨u36, hI⟩ := hI
    obtain ⟨u37, hI⟩ := hI
    obtain ⟨u38, hI⟩ := hI
    obtain ⟨u39, hI⟩ := hI
    obtain ⟨u40, hI⟩ := hI
    obtain ⟨u41, hI⟩ := hI
    obtain ⟨u42, hI⟩ := hI
    obtain ⟨u43, hI⟩ := hI
    obtain ⟨u44, hI⟩ := hI
    obtain ⟨u45, hI⟩ := hI
    obtain ⟨u46, hI⟩ := hI
    obtain ⟨u47, hI⟩ := hI
    obtain ⟨u48, hI⟩ := hI
    obtain ⟨u49, hI⟩ := hI
    obtain ⟨u50, hI⟩ := hI
    obtain ⟨u51, hI⟩ := hI
    obtain ⟨u52, hI⟩ := hI
    obtain ⟨u53, hI⟩ := hI
    obtain ⟨u54, hI⟩ := hI
    obtain ⟨u55, hI⟩ := hI
    obtain ⟨u56, hI⟩ := hI
    obtain ⟨u57, hI⟩ := hI
    obtain ⟨u58, hI⟩ := hI
    obtain ⟨u59, hI⟩ := hI
    obtain ⟨u60, hI⟩ := hI
    obtain ⟨u61, hI⟩ := hI
    obtain ⟨u62, hI⟩ := hI
    obtain ⟨u63, hI⟩ := hI
    obtain ⟨u64, hI⟩ := hI
    obtain ⟨u65, hI⟩ := hI
    obtain ⟨u66, hI⟩ := hI
    obtain ⟨j, J, I, B, rfl, hI2, hB, hj, H, rfl⟩ := hI
    rcases Nat.eq_or_lt_of_le hj with hj5 | hj5
    · subst hj5
      refine fd_exit w0 b s I B MS W1 _ c2 c3 c11 c12 c13 c14 c15 c16 c17 _ _ _ _ _ _ _ _ _ _ _ _ _ _ _ _ _ _ _ _ _ _ _ _ _ _ _ _ _ _ _ _ _ _ _ _ _ _ _ _ _ _ _ _ _ _ _ _ _ _ _ _ H ?_
      show ∀ _, _
      intro J I B W2 u5 u6 u8 u9 u10 u20 u21 u22 u23 u24 u25 u26 u27 u28 u29 u30 u31 u32 u33 u34 u35 u36 u37 u38 u39 u40 u41 u42 u43 u44 u45 u46 u47 u48 u49 u50 u51 u52 u53 u54 u55 u56 u57 u58 u59 u60 u61 u62 u63 u64 u65 u66 HW
      have hd := HW.decs
      have h4 := HW.at4
      rw [tailD_all s 5 (by omega)] at hd h4
      exact HX.out J I B W2 u5 u6 u8 u9 u10 u20 u21 u22 u23 u24 u25 u26 u27 u28 u29 u30 u31 u32 u33 u34 u35 u36 u37 u38 u39 u40 u41 u42 u43 u44 u45 u46 u47 u48 u49 u50 u51 u52 u53 u54 u55 u56 u57 u58 u59 u60 u61 u62 u63 u64 u65 u66 hd h4 HW.free HW.but
    · obtain ⟨Mv, hidx, hM⟩ := idxMul a j (by omega)
      have hidx2 : ∀ w, (Instr.index 69 (.agg MS) (.int .i64 (j : Int))).run Tryz.prog w = .ok Mv w := fun w => by rw [hMS]; exact hidx w
      by_cases hle : s.length ≤ 19 * j
      · refine fd_done w0 b s j I B MS Mv W1 _ c2 c3 c11 c12 c13 c14 c15 c16 c17 _ _ _ _ _ _ _ _ _ _ _ _ _ _ _ _ _ _ _ _ _ _ _ _ _ _ _ _ _ _ _ _ _ _ _ _ _ _ _ _ _ _ _ _ _ _ _ _ _ _ _ _ H (by omega) (by omega) hle hidx2 ?_
        show ∀ _, _
        intro J I B W2 u5 u6 u8 u9 u10 u20 u21 u22 u23 u24 u25 u26 u27 u28 u29 u30 u31 u32 u33 u34 u35 u36 u37 u38 u39 u40 u41 u42 u43 u44 u45 u46 u47 u48 u49 u50 u51 u52 u53 u54 u55 u56 u57 u58 u59 u60 u61 u62 u63 u64 u65 u66 HW
        have hd := HW.decs
        have h4 := HW.at4
        rw [tailD_all s j hle] at hd h4
        exact HD.out J I B W2 u5 u6 u8 u9 u10 u20 u21 u22 u23 u24 u25 u26 u27 u28 u29 u30 u31 u32 u33 u34 u35 u36 u37 u38 u39 u40 u41 u42 u43 u44 u45 u46 u47 u48 u49 u50 u51 u52 u53 u54 u55 u56 u57 u58 u59 u60 u61 u62 u63 u64 u65 u66 hd h4 HW.free HW.but
      · have hlt : 19 * j < s.length := by omega
        have hB2 := hB hlt
        subst hB2
        have hII : I = ((headD s j).length : Int) := by rw [headD_length]; omega
        subst hII
        refine fd_round w0 b s (headD s j) (grpD s j) (headD s (j + 1)) j MS Mv W1 _ c2 c3 c11 c12 c13 c14 c15 c16 c17 _ _ _ _ _ _ _ _ _ _ _ _ _ _ _ _ _ _ _ _ _ _ _ _ _ _ _ _ _ _ _ _ _ _ _ _ _ _ _ _ _ _ _ _ _ _ _ _ _ _ _ _ H rfl rfl rfl (by omega) hlt hs hes hbe hidx2 ?_ ?_ ?_
        · intro h0
          exact ⟨_, _, hM h0, hT.at4 j (by omega) (by omega), hab j (by omega) (by omega)⟩
        · show ∀ _, _
          intro J2 I2 B2 W2 u5 u6 u8 u9 u10 u20 u21 u22 u23 u24 u25 u26 u27 u28 u29 u30 u31 u32 u33 u34 u35 u36 u37 u38 u39 u40 u41 u42 u43 u44 u45 u46 u47 u48 u49 u50 u51 u52 u53 u54 u55 u56 u57 u58 u59 u60 u61 u62 u63 u64 u65 u66 hJ2 hI2 hB2 HW
          refine ⟨⟨u5, u6, u8, u9, u10, u20, u21, u22, u23, u24, u25, u26, u27, u28, u29, u30, u31, u32, u33, u34, u35, u36, u37, u38, u39, u40, u41, u42, u43, u44, u45, u46, u47, u48, u49, u50, u51, u52, u53, u54, u55, u56, u57, u58, u59, u60, u61, u62, u63, u64, u65, u66, j + 1, J2, I2, B2, hJ2, by rw [hI2, hJ2], hB2, by omega, HW, rfl⟩, ?_⟩
          show (5 - RowKit.intOf (.int .i64 J2)).toNat < (5 - RowKit.intOf (.int .i64 (j : Int))).toNat
          simp only [RowKit.intOf]
          omega
        · exact HB
theorem but_clear {w w2 : World} {b n : Nat} {z : N4} (h : w2 = (put4 w b 0 z).drewN n) : But [b] w w2 := by
  subst h
  exact ((But.refl [b] w).put4 (by simp) _ _).drewN _
theorem mulT_but {a : Nat → Addr} {w w2 : World} {b : Nat} (h : MulT a w) (k : But [b] w w2) (hab : ∀ j, 1 ≤ j → j ≤ 4 → (a j).block ≠ b) (hbm : 7 < b) : MulT a w2 :=
  ⟨k.cell (by simp; omega) h.c0, fun j h1 h2 => k.cell (by simp; omega) (h.cp j h1 h2), fun j h1 h2 => (h.at4 j h1 h2).but k (by simpa using hab j h1 h2)⟩
set_option maxHeartbeats 4000000 in
set_option maxRecDepth 20000 in
/-- fromDecimal: the number of the digits, or an error. -/
theorem fromDecimal_any (a : Nat → Addr) (b : Nat) (z : N4) (s : List UInt8) (w : World) (hz : At4 w b 0 z) (fz : Free4 w b 0) (hs : s.length ≤ 78) (hes : SynE w) (hbe : 9 < b) (hT : MulT a w) (hab : ∀ j, 1 ≤ j → j ≤ 4 → (a j).block ≠ b)
    (heof : ∃ t u, w.cell? ⟨6, 0, none⟩ = some (.iface t u)) (hbo : 6 < b) (hbm : 7 < b) :
    Calls Tryz.prog 36 #[.pointer (some ⟨b, 0, none⟩), .string ⟨s.toArray⟩] w fun e w' => But [b] w w' ∧ ((s ≠ [] ∧ Decs s ∧ e = .returned .nilIface ∧ At4 w' b 0 (ofN (dv s)) ∧ Free4 w' b 0) ∨ (¬ (s ≠ [] ∧ Decs s) ∧ ∃ v, e = .returned v ∧ IsErr v)) := by
  have hZ := clear_any b 0 z w hz fz
  by_cases h0 : s = []
  · subst h0
    obtain ⟨t, u, he⟩ := heof
    have e1 : ∀ n, ((put4 w b 0 ⟨0#64, 0#64, 0#64, 0#64⟩).drewN n).cell? ⟨6, 0, none⟩ = some (.iface t u) := fun n => by
      rw [World.cell?_drewN, put4_cell _ _ _ _ _ _ (fun e => by omega)]
      exact he
    have HZ := Lib.hid hZ
    clear hZ he hz fz hes hT hab
    go_enter Tryz.func36, Tryz.ntmps36
    go_wp2_with (go_at_call 44; refine HZ.out.mono ?_; rintro e w2 ⟨rfl, n2, rfl⟩; have e2 := e1 n2)
    go_ret
    exact ⟨((But.refl [b] w).put4 (by simp) _ _).drewN _, .inr ⟨fun h => h.1 rfl, _, rfl, _, _, rfl⟩⟩
  · have HZ := Lib.hid hZ
    have HZ4 := Lib.hid hz
    have HZF := Lib.hid fz
    have HES := Lib.hid hes
    have HT := Lib.hid hT
    have HS0 := Lib.hid h0
    have hl0 : ((s.length : Int) == 0) = false := by
      have : s.length ≠ 0 := fun e => h0 (List.length_eq_zero_iff.1 e)
      simp; omega
    clear hz fz hes hT h0 hZ heof
    go_enter Tryz.func36, Tryz.ntmps36
    go_wp2_with (go_at_call 44; refine HZ.out.mono ?_; rintro e w2 ⟨rfl, n2, hw2⟩; have HW2 := Lib.hid hw2; have hT2 := mulT_but HT.out (but_clear hw2) hab hbm; have g0 := hT2.c0; have g1 := hT2.cp 1 (by omega) (by omega); have g2 := hT2.cp 2 (by omega) (by omega); have g3 := hT2.cp 3 (by omega) (by omega); have g4 := hT2.cp 4 (by omega) (by omega); clear hw2 hT2)
    have hw2 := HW2.out
    have hb2 := but_clear hw2
    refine fd_loop w2 a b s (mulMS a) 0 _ _ w2 _ _ _ _ _ _ _ _ _ _ _ _ _ _ _ _ _ _ _ _ _ _ _ _ _ _ _ _ _ _ _ _ _ _ _ _ _ _ _ _ _ _ _ _ _ _ _ _ _ _ _ _ _ _ _ _ _ _ _ _ _ _ ⟨?_, ?_, But.refl _ _, ?_⟩ rfl rfl rfl rfl hs (HES.out.but hb2 hbe) hbe (mulT_but HT.out hb2 hab hbm) hab ?_ ?_ ?_
    · rw [tailD_zero, dv_nil, ofN_zero, hw2]
      exact (put4_at _ _ _ _ _ HZ4.out).drewN _
    · rw [hw2]
      exact (Free4.put _ HZF.out).drewN _
    · rw [tailD_zero]
      intro c hc
      cases hc
    · show ∀ _, _
      intro ev J I B W' u5 u6 u8 u9 u10 u20 u21 u22 u23 u24 u25 u26 u27 u28 u29 u30 u31 u32 u33 u34 u35 u36 u37 u38 u39 u40 u41 u42 u43 u44 u45 u46 u47 u48 u49 u50 u51 u52 u53 u54 u55 u56 u57 u58 u59 u60 u61 u62 u63 u64 u65 u66 hnd hev hbut
      have HN := Lib.hid (And.intro (hb2.trans hbut) hev)
      have HND := Lib.hid hnd
      clear hbut hnd hev hb2 hw2
      go_wp2
      go_ret
      exact ⟨HN.out.1, .inr ⟨fun h => HND.out h.2, _, rfl, HN.out.2⟩⟩
    · show ∀ _, _
      intro J I B W' u5 u6 u8 u9 u10 u20 u21 u22 u23 u24 u25 u26 u27 u28 u29 u30 u31 u32 u33 u34 u35 u36 u37 u38 u39 u40 u41 u42 u43 u44 u45 u46 u47 u48 u49 u50 u51 u52 u53 u54 u55 u56 u57 u58 u59 u60 u61 u62 u63 u64 u65 u66 hd h4 hf hbut
      have HN := Lib.hid (And.intro (hb2.trans hbut) (And.intro hd (And.intro h4 hf)))
      clear hbut hd h4 hf hb2 hw2
      go_wp2
      go_ret
      exact ⟨HN.out.1, .inl ⟨HS0.out, HN.out.2.1, rfl, HN.out.2.2.1, HN.out.2.2.2⟩⟩
    · show ∀ _, _
      intro J I B W' u5 u6 u8 u9 u10 u20 u21 u22 u23 u24 u25 u26 u27 u28 u29 u30 u31 u32 u33 u34 u35 u36 u37 u38 u39 u40 u41 u42 u43 u44 u45 u46 u47 u48 u49 u50 u51 u52 u53 u54 u55 u56 u57 u58 u59 u60 u61 u62 u63 u64 u65 u66 hd h4 hf hbut
      have HN := Lib.hid (And.intro (hb2.trans hbut) (And.intro hd (And.intro h4 hf)))
      clear hbut hd h4 hf hb2 hw2
      go_wp2
      go_ret
      exact ⟨HN.out.1, .inl ⟨HS0.out, HN.out.2.1, rfl, HN.out.2.2.1, HN.out.2.2.2⟩⟩
end Go.Proofs.YtfaocjcpnjmfiaaGreatDoor

set_option linter.unusedVariables false
set_option linter.unusedSimpArgs false
namespace Go.Proofs.YtfaocjcpnjmfiaaGreatDoor
open Go.RowKit
theorem stripZ_at (u : List UInt8) (i : Nat) (h : i < u.length) (h1 : ∀ k, k < i → u[k]? = some 48) (h2 : i + 1 < u.length → u[i]? ≠ some 48) : stripZ u = u.drop i := by
  obtain ⟨n, e, hn, k1, k2⟩ := stripZ_drop u
  have hne : n = i := by
    rcases Nat.lt_trichotomy n i with k | k | k
    · exact absurd (h1 n k) (k2 (by omega))
    · exact k
    · exact absurd (k1 i k) (h2 (by omega))
  rw [e, hne]
theorem get_list (u : List UInt8) (p : Nat) (h : p < (⟨u.toArray⟩ : ByteArray).size) : u[p]? = some ((⟨u.toArray⟩ : ByteArray)[p]'h) := by
  show u[p]? = some (u.toArray[p]'h)
  rw [List.getElem_toArray]
  exact List.getElem?_eq_getElem _
theorem dec_48 (u : List UInt8) (p : Nat) (h : u[p]? = some 48) : Utf8.decode ⟨u.toArray⟩ p = (48, 1) := by
  have hp : p < (⟨u.toArray⟩ : ByteArray).size := (List.getElem?_eq_some_iff.1 h).1
  have e := get_list u p hp
  rw [h] at e
  have e2 : (⟨u.toArray⟩ : ByteArray)[p]'hp = 48 := (Option.some.inj e).symm
  rw [decode_ascii _ p hp (by rw [e2]; decide), e2]
  rfl
theorem dec_not (u : List UInt8) (p : Nat) (hp : p < u.length) (h : u[p]? ≠ some 48) : (Utf8.decode ⟨u.toArray⟩ p).1 ≠ 48 := by
  have hp2 : p < (⟨u.toArray⟩ : ByteArray).size := hp
  have e := get_list u p hp2
  by_cases ha : ((⟨u.toArray⟩ : ByteArray)[p]'hp2).toNat < 128
  · rw [decode_ascii _ p hp2 ha]
    intro k
    exact h (by rw [e]; congr 1; exact UInt8.toNat.inj k)
  · have := (decode_high _ p hp2 (by omega)).1
    omega
/-- Where the noughts ahead end. -/
def Lead (u : List UInt8) (i : Nat) : Prop := i < u.length ∧ (∀ k, k < i → u[k]? = some 48) ∧ (i + 1 < u.length → u[i]? ≠ some 48)
/-- The loops' bodies in a code, not those within them. -/
def loopsSD : Code → List Code
  | .loop c => [c]
  | .seq a b => loopsSD a ++ loopsSD b
  | .block _ c => loopsSD c
  | .scope c => loopsSD c
  | .cond _ a b => loopsSD a ++ loopsSD b
  | _ => []
noncomputable def sdBody : Code := ((Tryz.f24.body.map loopsSD).getD []).headD .skip
set_option maxHeartbeats 4000000 in
set_option maxRecDepth 20000 in
theorem sd_round (w : World) (u : List UInt8) (p : Nat) (I : Int) (Q : Exit → Act → World → Prop) (c0 c2 c3 c4 c7 c8 c9 c10 c11 c12 c13 c14 c15 c16 c17 c18 c19 c20 c21 c22 c23 c24 c25 c33 c34 c35 c36 c37 c38 c39 c40 c41 c42 c43 c44 c45 c46 c47 c48 c49 c50 c51 v6 v27 v28 v29 v30 v31 v32 : Value)
    (hp : p ≤ u.length) (hu : 0 < u.length) (hz : ∀ k, k < p → u[k]? = some 48) (hI : 0 < p → I = (p : Int) - 1)
    (HN : Hid (∀ (I2 : Int) (u6 u27 u28 u29 u30 u31 u32 : Value), p < u.length → u[p]? = some 48 → I2 = (p : Int) → Q .normal ⟨List.toArray (c0 :: .string ⟨u.toArray⟩ :: c2 :: c3 :: c4 :: .int .i64 I2 :: u6 :: c7 :: c8 :: c9 :: c10 :: c11 :: c12 :: c13 :: c14 :: c15 :: c16 :: c17 :: c18 :: c19 :: c20 :: c21 :: c22 :: c23 :: c24 :: c25 :: .pointer (some ⟨w.heap.size, 0, none⟩) :: u27 :: u28 :: u29 :: u30 :: u31 :: u32 :: c33 :: c34 :: c35 :: c36 :: c37 :: c38 :: c39 :: c40 :: c41 :: c42 :: c43 :: c44 :: c45 :: c46 :: c47 :: c48 :: c49 :: c50 :: c51 :: []), []⟩ (w.iter ⟨u.toArray⟩ (p + 1))))
    (HX : Hid (∀ (I2 : Int) (p' : Nat) (u6 u27 u28 u29 u30 u31 u32 : Value), (∃ i : Nat, I2 = (i : Int) ∧ Lead u i) → Q (.exit 0) ⟨List.toArray (c0 :: .string ⟨u.toArray⟩ :: c2 :: c3 :: c4 :: .int .i64 I2 :: u6 :: c7 :: c8 :: c9 :: c10 :: c11 :: c12 :: c13 :: c14 :: c15 :: c16 :: c17 :: c18 :: c19 :: c20 :: c21 :: c22 :: c23 :: c24 :: c25 :: .pointer (some ⟨w.heap.size, 0, none⟩) :: u27 :: u28 :: u29 :: u30 :: u31 :: u32 :: c33 :: c34 :: c35 :: c36 :: c37 :: c38 :: c39 :: c40 :: c41 :: c42 :: c43 :: c44 :: c45 :: c46 :: c47 :: c48 :: c49 :: c50 :: c51 :: []), []⟩ (w.iter ⟨u.toArray⟩ p'))) :
    Code.wp Tryz.prog sdBody Q ⟨List.toArray (c0 :: .string ⟨u.toArray⟩ :: c2 :: c3 :: c4 :: .int .i64 I :: v6 :: c7 :: c8 :: c9 :: c10 :: c11 :: c12 :: c13 :: c14 :: c15 :: c16 :: c17 :: c18 :: c19 :: c20 :: c21 :: c22 :: c23 :: c24 :: c25 :: .pointer (some ⟨w.heap.size, 0, none⟩) :: v27 :: v28 :: v29 :: v30 :: v31 :: v32 :: c33 :: c34 :: c35 :: c36 :: c37 :: c38 :: c39 :: c40 :: c41 :: c42 :: c43 :: c44 :: c45 :: c46 :: c47 :: c48 :: c49 :: c50 :: c51 :: []), []⟩ (w.iter ⟨u.toArray⟩ p) := by
  rcases Nat.eq_or_lt_of_le hp with h0 | h0
  · have hnx : ∀ ty, (Instr.next (.pointer (some ⟨w.heap.size, 0, none⟩)) true ty).run Tryz.prog (w.iter ⟨u.toArray⟩ p) = _ := fun ty => run_next_end (P := Tryz.prog) w ⟨u.toArray⟩ p ty (by show ¬ p < u.length; omega)
    have HII := Lib.hid (hI (by omega))
    have HZ := Lib.hid hz
    have HP := Lib.hid h0
    clear hz hI hp h0
    conv => arg 2; whnf
    go_wp2
    exact HX.out _ _ _ _ _ _ _ _ _ ⟨p - 1, by have := HII.out; have := HP.out; omega, by have := HP.out; omega, fun k hk => HZ.out k (by omega), fun h => by have := HP.out; omega⟩
  · have hnx : ∀ ty, (Instr.next (.pointer (some ⟨w.heap.size, 0, none⟩)) true ty).run Tryz.prog (w.iter ⟨u.toArray⟩ p) = _ := fun ty => run_next_any (P := Tryz.prog) w ⟨u.toArray⟩ p ty (by show p < u.length; omega)
    have HZ := Lib.hid hz
    have HLT := Lib.hid h0
    by_cases h48 : u[p]? = some 48
    · rw [dec_48 u p h48] at hnx
      have H48 := Lib.hid h48
      clear hz hI hp h0 h48
      conv => arg 2; whnf
      go_wp2
      exact HN.out _ _ _ _ _ _ _ _ HLT.out H48.out rfl
    · have hd := dec_not u p h0 h48
      have hdi : (((Utf8.decode ⟨u.toArray⟩ p).1 : Int) != 48) = true := by simp; omega
      have hle := decode_le ⟨u.toArray⟩ p
      have H48 := Lib.hid h48
      generalize Utf8.decode ⟨u.toArray⟩ p = d at *
      obtain ⟨d1, d2⟩ := d
      clear hz hI hp h0 h48 hd
      conv => arg 2; whnf
      go_wp2
      exact HX.out _ _ _ _ _ _ _ _ _ ⟨p, rfl, HLT.out, HZ.out, fun _ => H48.out⟩
/-- The loop. -/
def SdI (w : World) (u : List UInt8) (c0 c2 c3 c4 c7 c8 c9 c10 c11 c12 c13 c14 c15 c16 c17 c18 c19 c20 c21 c22 c23 c24 c25 c33 c34 c35 c36 c37 c38 c39 c40 c41 c42 c43 c44 c45 c46 c47 c48 c49 c50 c51 : Value) (a : Act) (W : World) : Prop :=
  ∃ (u6 u27 u28 u29 u30 u31 u32 : Value), ∃ (p : Nat) (I2 : Int), p ≤ u.length ∧ (∀ k, k < p → u[k]? = some 48) ∧ (0 < p → I2 = (p : Int) - 1) ∧ W = w.iter ⟨u.toArray⟩ p ∧ a = ⟨List.toArray (c0 :: .string ⟨u.toArray⟩ :: c2 :: c3 :: c4 :: .int .i64 I2 :: u6 :: c7 :: c8 :: c9 :: c10 :: c11 :: c12 :: c13 :: c14 :: c15 :: c16 :: c17 :: c18 :: c19 :: c20 :: c21 :: c22 :: c23 :: c24 :: c25 :: .pointer (some ⟨w.heap.size, 0, none⟩) :: u27 :: u28 :: u29 :: u30 :: u31 :: u32 :: c33 :: c34 :: c35 :: c36 :: c37 :: c38 :: c39 :: c40 :: c41 :: c42 :: c43 :: c44 :: c45 :: c46 :: c47 :: c48 :: c49 :: c50 :: c51 :: []), []⟩
def muSd (w : World) (n : Nat) (_ : Act) (W : World) : Nat := n - W.iterPos w.heap.size
set_option maxHeartbeats 4000000 in
set_option maxRecDepth 20000 in
theorem sd_loop (w : World) (u : List UInt8) (I : Int) (Q : Exit → Act → World → Prop) (c0 c2 c3 c4 c7 c8 c9 c10 c11 c12 c13 c14 c15 c16 c17 c18 c19 c20 c21 c22 c23 c24 c25 c33 c34 c35 c36 c37 c38 c39 c40 c41 c42 c43 c44 c45 c46 c47 c48 c49 c50 c51 v6 v27 v28 v29 v30 v31 v32 : Value) (hu : 0 < u.length)
    (HX : Hid (∀ (I2 : Int) (p' : Nat) (u6 u27 u28 u29 u30 u31 u32 : Value), (∃ i : Nat, I2 = (i : Int) ∧ Lead u i) → Q (.exit 0) ⟨List.toArray (c0 :: .string ⟨u.toArray⟩ :: c2 :: c3 :: c4 :: .int .i64 I2 :: u6 :: c7 :: c8 :: c9 :: c10 :: c11 :: c12 :: c13 :: c14 :: c15 :: c16 :: c17 :: c18 :: c19 :: c20 :: c21 :: c22 :: c23 :: c24 :: c25 :: .pointer (some ⟨w.heap.size, 0, none⟩) :: u27 :: u28 :: u29 :: u30 :: u31 :: u32 :: c33 :: c34 :: c35 :: c36 :: c37 :: c38 :: c39 :: c40 :: c41 :: c42 :: c43 :: c44 :: c45 :: c46 :: c47 :: c48 :: c49 :: c50 :: c51 :: []), []⟩ (w.iter ⟨u.toArray⟩ p'))) :
    Code.wp Tryz.prog (.loop sdBody) Q ⟨List.toArray (c0 :: .string ⟨u.toArray⟩ :: c2 :: c3 :: c4 :: .int .i64 I :: v6 :: c7 :: c8 :: c9 :: c10 :: c11 :: c12 :: c13 :: c14 :: c15 :: c16 :: c17 :: c18 :: c19 :: c20 :: c21 :: c22 :: c23 :: c24 :: c25 :: .pointer (some ⟨w.heap.size, 0, none⟩) :: v27 :: v28 :: v29 :: v30 :: v31 :: v32 :: c33 :: c34 :: c35 :: c36 :: c37 :: c38 :: c39 :: c40 :: c41 :: c42 :: c43 :: c44 :: c45 :: c46 :: c47 :: c48 :: c49 :: c50 :: c51 :: []), []⟩ (w.iter ⟨u.toArray⟩ 0) := by
  refine wp_loop (SdI w u c0 c2 c3 c4 c7 c8 c9 c10 c11 c12 c13 c14 c15 c16 c17 c18 c19 c20 c21 c22 c23 c24 c25 c33 c34 c35 c36 c37 c38 c39 c40 c41 c42 c43 c44 c45 c46 c47 c48 c49 c50 c51) (muSd w u.length) ?_ ?_
  · exact ⟨v6, v27, v28, v29, v30, v31, v32, 0, I, by omega, fun k hk => by omega, fun h => by omega, rfl, rfl⟩
  · intro A W1 hI
    obtain ⟨u6, hI⟩ := hI
    obtain ⟨u27, hI⟩ := hI
    obtain ⟨u28, hI⟩ := hI
    obtain ⟨u29, hI⟩ := hI
    obtain ⟨u30, hI⟩ := hI
    obtain ⟨u31, hI⟩ := hI
    obtain ⟨u32, hI⟩ := hI
    obtain ⟨p, I2, hp, hz, hI2, rfl, rfl⟩ := hI
    refine sd_round w u p I2 _ c0 c2 c3 c4 c7 c8 c9 c10 c11 c12 c13 c14 c15 c16 c17 c18 c19 c20 c21 c22 c23 c24 c25 c33 c34 c35 c36 c37 c38 c39 c40 c41 c42 c43 c44 c45 c46 c47 c48 c49 c50 c51 _ _ _ _ _ _ _ hp hu hz hI2 ?_ ?_
    · show ∀ _, _
      intro I3 u6 u27 u28 u29 u30 u31 u32 hlt h48 hI3
      refine ⟨⟨u6, u27, u28, u29, u30, u31, u32, p + 1, I3, by omega, fun k hk => ?_, fun _ => by rw [hI3]; omega, rfl, rfl⟩, ?_⟩
      · rcases Nat.eq_or_lt_of_le (Nat.le_of_lt_succ hk) with e | e
        · rw [e]; exact h48
        · exact hz k e
      · show u.length - (w.iter ⟨u.toArray⟩ (p + 1)).iterPos w.heap.size < u.length - (w.iter ⟨u.toArray⟩ p).iterPos w.heap.size
        rw [World.iterPos_iter, World.iterPos_iter]
        omega
    · exact HX
theorem stripZ_id (u : List UInt8) (h : 0 < u.length → u[0]? ≠ some 48) : stripZ u = u := by
  rcases Nat.eq_zero_or_pos u.length with h0 | h0
  · rw [List.length_eq_zero_iff.1 h0]; rfl
  · have := stripZ_at u 0 h0 (fun k hk => by omega) (fun _ => h h0)
    simpa using this
theorem cmp_big (t : List UInt8) : (!(Op.bytesLess t maxD || t == maxD)) = bigD t := rfl
/-- A number read from a text into the receiver, or an error. -/
def RetTxt (ok : Prop) (n b : Nat) (w : World) (e : Ending) (w' : World) : Prop :=
  ∃ v, e = .returned v ∧ But [b] w w' ∧ ((ok ∧ v = .nilIface ∧ At4 w' b 0 (ofN n) ∧ Free4 w' b 0) ∨ (¬ ok ∧ IsErr v))
/-- What the decimal readers ask of the memory. -/
structure DecE (a : Nat → Addr) (b : Nat) (w : World) : Prop where
  syn : SynE w
  mul : MulT a w
  far : ∀ j, 1 ≤ j → j ≤ 4 → (a j).block ≠ b
  eof : ∃ t u, w.cell? ⟨6, 0, none⟩ = some (.iface t u)
  big : ∃ t u, w.cell? ⟨5, 0, none⟩ = some (.iface t u)
  g1 : 9 < b
  g2 : 6 < b
  g3 : 7 < b
theorem DecE.bel {a : Nat → Addr} {b : Nat} {w w' : World} (h : DecE a b w) (k : Below w.heap.size w w') : DecE a b w' := by
  obtain ⟨h1, h2, h3, ⟨t, u, h4⟩, ⟨t2, u2, h5⟩, h6, h7, h8⟩ := h
  exact ⟨h1.bel k, h2.bel k, h3, ⟨t, u, bel_cell k h4⟩, ⟨t2, u2, bel_cell k h5⟩, h6, h7, h8⟩
theorem fd_tail (a : Nat → Addr) (b : Nat) (z : N4) (s t : List UInt8) (w W : World) (hz : At4 w b 0 z) (fz : Free4 w b 0) (hE : DecE a b w) (ht : t = stripZ (unplus s)) (hc : t.length < 78 ∨ (t.length = 78 ∧ bigD t = false)) (hb : Below w.heap.size w W) :
    Calls Tryz.prog 36 #[.pointer (some ⟨b, 0, none⟩), .string ⟨t.toArray⟩] W (RetTxt (DecOk s) (dv (unplus s)) b w) := by
  have hE2 := hE.bel hb
  refine (fromDecimal_any a b z t W (hz.bel hb) (fz.bel hz.lt hb) (by omega) hE2.syn hE2.g1 hE2.mul hE2.far hE2.eof hE2.g2 hE2.g3).mono ?_
  rintro e w' ⟨hbut, h⟩
  have hiff : (t ≠ [] ∧ Decs t) ↔ DecOk s := by
    rw [← fineD_iff s, ← ht]
    exact ⟨fun h => ⟨h.1, h.2, hc⟩, fun h => ⟨h.1, h.2.1⟩⟩
  have hdv : dv t = dv (unplus s) := by rw [ht, stripZ_dv]
  have hbb : But [b] w w' := (But.of_bel hb).trans hbut
  rw [← hdv]
  rcases h with ⟨h0, h1, rfl, h4, hf⟩ | ⟨h0, v, rfl, hv⟩
  · exact ⟨_, rfl, hbb, .inl ⟨hiff.1 ⟨h0, h1⟩, rfl, h4, hf⟩⟩
  · exact ⟨_, rfl, hbb, .inr ⟨fun h => h0 (hiff.2 h), hv⟩⟩
set_option maxHeartbeats 8000000 in
set_option maxRecDepth 20000 in
theorem setFromDecimal_any (a : Nat → Addr) (b : Nat) (z : N4) (s : List UInt8) (w : World) (hz : At4 w b 0 z) (fz : Free4 w b 0) (hE : DecE a b w) :
    Calls Tryz.prog 24 #[.pointer (some ⟨b, 0, none⟩), .string ⟨s.toArray⟩] w (RetTxt (DecOk s) (dv (unplus s)) b w) := by
  obtain ⟨ok, hok⟩ : ∃ ok, ok = DecOk s := ⟨_, rfl⟩
  obtain ⟨n, hn⟩ : ∃ n, n = dv (unplus s) := ⟨_, rfl⟩
  have FT : Hid (∀ t W, t = stripZ (unplus s) → (t.length < 78 ∨ (t.length = 78 ∧ bigD t = false)) → Below w.heap.size w W → Calls Tryz.prog 36 #[.pointer (some ⟨b, 0, none⟩), .string ⟨t.toArray⟩] W (RetTxt ok n b w)) := fun t W h1 h2 h3 => by
    rw [hok, hn]; exact fd_tail a b z s t w W hz fz hE h1 h2 h3
  have FN : Hid (∀ t, t = stripZ (unplus s) → ¬ (t.length < 78 ∨ (t.length = 78 ∧ bigD t = false)) → ¬ ok) := fun t h1 h2 => by
    rw [hok, ← fineD_iff s, ← h1]; exact fun h => h2 h.2.2
  obtain ⟨te, ue, hbig⟩ := hE.big
  have hbigI : ∀ S p, (w.iter S p).cell? ⟨5, 0, none⟩ = some (.iface te ue) := fun S p => bel_cell (bel_alloc (bel_refl w) _) hbig
  rw [← hok, ← hn]
  clear hz fz hE hok hn
  rcases hs0 : s[0]? with _ | c0
  · obtain rfl : s = [] := by
      rcases s with _ | ⟨x, s⟩
      · rfl
      · cases hs0
    have hstrip : Hid (([] : List UInt8) = stripZ (unplus [])) := by show _ = _; rfl
    clear hs0
    go_enter Tryz.func24, Tryz.ntmps24
    go_wp2_with (go_at_call 36; refine (FT.out [] _ hstrip.out (.inl (by simp)) (bel_refl w)).mono ?_; rintro e w1 ⟨v, rfl, hb, h⟩; have HP := Lib.hid (And.intro hb h); clear hb h)
    go_ret
    exact ⟨v, rfl, HP.out.1, HP.out.2⟩
  · by_cases h43 : c0 = 43
    · obtain ⟨u, hu⟩ : ∃ u, u = s.drop 1 := ⟨_, rfl⟩
      have HU : Hid (unplus s = u) := by show _ = _; unfold unplus; rw [if_pos (by rw [hs0, h43]), hu]
      obtain ⟨S, hS⟩ : ∃ S : ByteArray, S = ⟨s.toArray⟩ := ⟨_, rfl⟩
      have hsl : 0 < s.length := (List.getElem?_eq_some_iff.1 hs0).1
      have hSz : S.size = s.length := by rw [hS]; rfl
      have hSi : (0 : Int) < (S.size : Int) := by omega
      have hS1 : (1 : Int) ≤ (S.size : Int) := by omega
      have hg0 : ∀ h, S[0]'h = c0 := by subst hS; exact fun h => (Option.some.inj ((get_list s 0 h).symm.trans hs0))
      have c43 : ((c0.toNat : Int) == 43) = true := by rw [h43]; rfl
      have hext : S.extract 1 S.size = ⟨u.toArray⟩ := by
        apply ByteArray.ext
        rw [ByteArray.data_extract, hSz, hS, hu]
        simp
        exact List.take_of_length_le (by simp)
      rw [← hS]
      clear hs0 h43 hsl hSz hS hu
      rcases hu0 : u[0]? with _ | c
      · obtain rfl : u = [] := by
          rcases u with _ | ⟨x, u⟩
          · rfl
          · cases hu0
        have hstrip : Hid (([] : List UInt8) = stripZ (unplus s)) := by show _ = _; rw [HU.out]; rfl
        clear hu0
        go_enter Tryz.func24, Tryz.ntmps24
        go_wp2_with (go_at_call 36; refine (FT.out [] _ hstrip.out (.inl (by simp)) (bel_refl w)).mono ?_; rintro e w1 ⟨v, rfl, hb, h⟩; have HP := Lib.hid (And.intro hb h); clear hb h)
        go_ret
        exact ⟨v, rfl, HP.out.1, HP.out.2⟩
      · have hul : 0 < u.length := (List.getElem?_eq_some_iff.1 hu0).1
        have huli : (0 : Int) < (u.length : Int) := by omega
        have hgu0 : ∀ h, (⟨u.toArray⟩ : ByteArray)[0]'h = c := fun h => (Option.some.inj ((get_list u 0 h).symm.trans hu0))
        by_cases h48 : c = 48
        · have c48 : ((c.toNat : Int) == 48) = true := by rw [h48]; rfl
          clear hu0 h48
          go_enter Tryz.func24, Tryz.ntmps24
          go_wp2_with fail
          refine sd_loop w u 0 _ _ _ _ _ _ _ _ _ _ _ _ _ _ _ _ _ _ _ _ _ _ _ _ _ _ _ _ _ _ _ _ _ _ _ _ _ _ _ _ _ _ _ _ _ _ _ _ _ _ (by omega) ?_
          show ∀ _, _
          intro I2 p' u6 u27 u28 u29 u30 u31 u32 hI2
          obtain ⟨i, rfl, hld⟩ := hI2
          have hstrip : Hid (u.drop i = stripZ (unplus s)) := by show _ = _; rw [HU.out]; exact (stripZ_at u i hld.1 hld.2.1 hld.2.2).symm
          have hile : (i : Int) ≤ (u.length : Int) := by have := hld.1; omega
          have hext2 : (⟨u.toArray⟩ : ByteArray).extract i u.length = ⟨(u.drop i).toArray⟩ := by
            apply ByteArray.ext
            rw [ByteArray.data_extract]
            simp
            exact List.take_of_length_le (by rw [List.length_drop]; omega)
          obtain ⟨t, ht⟩ : ∃ t, t = u.drop i := ⟨_, rfl⟩
          rw [← ht] at hext2 hstrip
          clear ht hld
          by_cases c1 : t.length < 78
          · have c1i : (t.length : Int) < 78 := by omega
            have C := Lib.hid c1
            clear c1
            go_wp2_with (go_at_call 36; refine (FT.out t _ hstrip.out (.inl C.out) (bel_alloc (bel_refl w) _)).mono ?_; rintro e w1 ⟨v, rfl, hb, h⟩; have HP := Lib.hid (And.intro hb h); clear hb h)
            go_ret
            exact ⟨v, rfl, HP.out.1, HP.out.2⟩
          · have c1i : ¬ (t.length : Int) < 78 := by omega
            by_cases c2 : t.length = 78
            · have c2i : ((t.length : Int) == 78) = true := by simp; omega
              cases b1 : Op.bytesLess t maxD
              · cases b2 : (t == maxD)
                · have b1i : Op.bytesLess t [49, 49, 53, 55, 57, 50, 48, 56, 57, 50, 51, 55, 51, 49, 54, 49, 57, 53, 52, 50, 51, 53, 55, 48, 57, 56, 53, 48, 48, 56, 54, 56, 55, 57, 48, 55, 56, 53, 51, 50, 54, 57, 57, 56, 52, 54, 54, 53, 54, 52, 48, 53, 54, 52, 48, 51, 57, 52, 53, 55, 53, 56, 52, 48, 48, 55, 57, 49, 51, 49, 50, 57, 54, 51, 57, 57, 51, 53] = false := b1
                  have b2i : (t == ([49, 49, 53, 55, 57, 50, 48, 56, 57, 50, 51, 55, 51, 49, 54, 49, 57, 53, 52, 50, 51, 53, 55, 48, 57, 56, 53, 48, 48, 56, 54, 56, 55, 57, 48, 55, 56, 53, 51, 50, 54, 57, 57, 56, 52, 54, 54, 53, 54, 52, 48, 53, 54, 52, 48, 51, 57, 52, 53, 55, 53, 56, 52, 48, 48, 55, 57, 49, 51, 49, 50, 57, 54, 51, 57, 57, 51, 53] : List UInt8)) = false := b2
                  have c3 := cmp_big t
                  rw [b1, b2] at c3
                  have HNOT := Lib.hid (FN.out t hstrip.out (by rintro (h | ⟨_, h⟩); exact c1 h; rw [h] at c3; cases c3))
                  clear c1 c2 c3 b1 b2
                  go_wp2
                  go_ret
                  exact ⟨_, rfl, But.of_bel (bel_alloc (bel_refl w) _), .inr ⟨HNOT.out, _, _, rfl⟩⟩
                · have b1i : Op.bytesLess t [49, 49, 53, 55, 57, 50, 48, 56, 57, 50, 51, 55, 51, 49, 54, 49, 57, 53, 52, 50, 51, 53, 55, 48, 57, 56, 53, 48, 48, 56, 54, 56, 55, 57, 48, 55, 56, 53, 51, 50, 54, 57, 57, 56, 52, 54, 54, 53, 54, 52, 48, 53, 54, 52, 48, 51, 57, 52, 53, 55, 53, 56, 52, 48, 48, 55, 57, 49, 51, 49, 50, 57, 54, 51, 57, 57, 51, 53] = false := b1
                  have b2i : (t == ([49, 49, 53, 55, 57, 50, 48, 56, 57, 50, 51, 55, 51, 49, 54, 49, 57, 53, 52, 50, 51, 53, 55, 48, 57, 56, 53, 48, 48, 56, 54, 56, 55, 57, 48, 55, 56, 53, 51, 50, 54, 57, 57, 56, 52, 54, 54, 53, 54, 52, 48, 53, 54, 52, 48, 51, 57, 52, 53, 55, 53, 56, 52, 48, 48, 55, 57, 49, 51, 49, 50, 57, 54, 51, 57, 57, 51, 53] : List UInt8)) = true := b2
                  have c3 := cmp_big t
                  rw [b1, b2] at c3
                  have C := Lib.hid (And.intro c2 c3.symm)
                  clear c1 c2 c3 b1 b2
                  go_wp2_with (go_at_call 36; refine (FT.out t _ hstrip.out (.inr C.out) (bel_alloc (bel_refl w) _)).mono ?_; rintro e w1 ⟨v, rfl, hb, h⟩; have HP := Lib.hid (And.intro hb h); clear hb h)
                  go_ret
                  exact ⟨v, rfl, HP.out.1, HP.out.2⟩
              · have b1i : Op.bytesLess t [49, 49, 53, 55, 57, 50, 48, 56, 57, 50, 51, 55, 51, 49, 54, 49, 57, 53, 52, 50, 51, 53, 55, 48, 57, 56, 53, 48, 48, 56, 54, 56, 55, 57, 48, 55, 56, 53, 51, 50, 54, 57, 57, 56, 52, 54, 54, 53, 54, 52, 48, 53, 54, 52, 48, 51, 57, 52, 53, 55, 53, 56, 52, 48, 48, 55, 57, 49, 51, 49, 50, 57, 54, 51, 57, 57, 51, 53] = true := b1
                have c3 := cmp_big t
                rw [b1] at c3
                have C := Lib.hid (And.intro c2 c3.symm)
                clear c1 c2 c3 b1
                go_wp2_with (go_at_call 36; refine (FT.out t _ hstrip.out (.inr C.out) (bel_alloc (bel_refl w) _)).mono ?_; rintro e w1 ⟨v, rfl, hb, h⟩; have HP := Lib.hid (And.intro hb h); clear hb h)
                go_ret
                exact ⟨v, rfl, HP.out.1, HP.out.2⟩
            · have c2i : ((t.length : Int) == 78) = false := by simp; omega
              have HNOT := Lib.hid (FN.out t hstrip.out (by rintro (h | ⟨h, _⟩); exact c1 h; exact c2 h))
              clear c1 c2
              go_wp2
              go_ret
              exact ⟨_, rfl, But.of_bel (bel_alloc (bel_refl w) _), .inr ⟨HNOT.out, _, _, rfl⟩⟩
        · have c48 : ((c.toNat : Int) == 48) = false := by
            have : c.toNat ≠ 48 := fun e => h48 (UInt8.toNat.inj e)
            simp; omega
          have hstrip : Hid (u = stripZ (unplus s)) := by
            show _ = _
            rw [HU.out, stripZ_id u (fun _ => by rw [hu0]; simpa using h48)]
          clear hu0 h48
          go_enter Tryz.func24, Tryz.ntmps24
          by_cases c1 : u.length < 78
          · have c1i : (u.length : Int) < 78 := by omega
            have C := Lib.hid c1
            clear c1
            go_wp2_with (go_at_call 36; refine (FT.out u _ hstrip.out (.inl C.out) (bel_refl w)).mono ?_; rintro e w1 ⟨v, rfl, hb, h⟩; have HP := Lib.hid (And.intro hb h); clear hb h)
            go_ret
            exact ⟨v, rfl, HP.out.1, HP.out.2⟩
          · have c1i : ¬ (u.length : Int) < 78 := by omega
            by_cases c2 : u.length = 78
            · have c2i : ((u.length : Int) == 78) = true := by simp; omega
              cases b1 : Op.bytesLess u maxD
              · cases b2 : (u == maxD)
                · have b1i : Op.bytesLess u [49, 49, 53, 55, 57, 50, 48, 56, 57, 50, 51, 55, 51, 49, 54, 49, 57, 53, 52, 50, 51, 53, 55, 48, 57, 56, 53, 48, 48, 56, 54, 56, 55, 57, 48, 55, 56, 53, 51, 50, 54, 57, 57, 56, 52, 54, 54, 53, 54, 52, 48, 53, 54, 52, 48, 51, 57, 52, 53, 55, 53, 56, 52, 48, 48, 55, 57, 49, 51, 49, 50, 57, 54, 51, 57, 57, 51, 53] = false := b1
                  have b2i : (u == ([49, 49, 53, 55, 57, 50, 48, 56, 57, 50, 51, 55, 51, 49, 54, 49, 57, 53, 52, 50, 51, 53, 55, 48, 57, 56, 53, 48, 48, 56, 54, 56, 55, 57, 48, 55, 56, 53, 51, 50, 54, 57, 57, 56, 52, 54, 54, 53, 54, 52, 48, 53, 54, 52, 48, 51, 57, 52, 53, 55, 53, 56, 52, 48, 48, 55, 57, 49, 51, 49, 50, 57, 54, 51, 57, 57, 51, 53] : List UInt8)) = false := b2
                  have c3 := cmp_big u
                  rw [b1, b2] at c3
                  have HNOT := Lib.hid (FN.out u hstrip.out (by rintro (h | ⟨_, h⟩); exact c1 h; rw [h] at c3; cases c3))
                  clear c1 c2 c3 b1 b2
                  go_wp2
                  go_ret
                  exact ⟨_, rfl, But.of_bel (bel_refl w), .inr ⟨HNOT.out, _, _, rfl⟩⟩
                · have b1i : Op.bytesLess u [49, 49, 53, 55, 57, 50, 48, 56, 57, 50, 51, 55, 51, 49, 54, 49, 57, 53, 52, 50, 51, 53, 55, 48, 57, 56, 53, 48, 48, 56, 54, 56, 55, 57, 48, 55, 56, 53, 51, 50, 54, 57, 57, 56, 52, 54, 54, 53, 54, 52, 48, 53, 54, 52, 48, 51, 57, 52, 53, 55, 53, 56, 52, 48, 48, 55, 57, 49, 51, 49, 50, 57, 54, 51, 57, 57, 51, 53] = false := b1
                  have b2i : (u == ([49, 49, 53, 55, 57, 50, 48, 56, 57, 50, 51, 55, 51, 49, 54, 49, 57, 53, 52, 50, 51, 53, 55, 48, 57, 56, 53, 48, 48, 56, 54, 56, 55, 57, 48, 55, 56, 53, 51, 50, 54, 57, 57, 56, 52, 54, 54, 53, 54, 52, 48, 53, 54, 52, 48, 51, 57, 52, 53, 55, 53, 56, 52, 48, 48, 55, 57, 49, 51, 49, 50, 57, 54, 51, 57, 57, 51, 53] : List UInt8)) = true := b2
                  have c3 := cmp_big u
                  rw [b1, b2] at c3
                  have C := Lib.hid (And.intro c2 c3.symm)
                  clear c1 c2 c3 b1 b2
                  go_wp2_with (go_at_call 36; refine (FT.out u _ hstrip.out (.inr C.out) (bel_refl w)).mono ?_; rintro e w1 ⟨v, rfl, hb, h⟩; have HP := Lib.hid (And.intro hb h); clear hb h)
                  go_ret
                  exact ⟨v, rfl, HP.out.1, HP.out.2⟩
              · have b1i : Op.bytesLess u [49, 49, 53, 55, 57, 50, 48, 56, 57, 50, 51, 55, 51, 49, 54, 49, 57, 53, 52, 50, 51, 53, 55, 48, 57, 56, 53, 48, 48, 56, 54, 56, 55, 57, 48, 55, 56, 53, 51, 50, 54, 57, 57, 56, 52, 54, 54, 53, 54, 52, 48, 53, 54, 52, 48, 51, 57, 52, 53, 55, 53, 56, 52, 48, 48, 55, 57, 49, 51, 49, 50, 57, 54, 51, 57, 57, 51, 53] = true := b1
                have c3 := cmp_big u
                rw [b1] at c3
                have C := Lib.hid (And.intro c2 c3.symm)
                clear c1 c2 c3 b1
                go_wp2_with (go_at_call 36; refine (FT.out u _ hstrip.out (.inr C.out) (bel_refl w)).mono ?_; rintro e w1 ⟨v, rfl, hb, h⟩; have HP := Lib.hid (And.intro hb h); clear hb h)
                go_ret
                exact ⟨v, rfl, HP.out.1, HP.out.2⟩
            · have c2i : ((u.length : Int) == 78) = false := by simp; omega
              have HNOT := Lib.hid (FN.out u hstrip.out (by rintro (h | ⟨h, _⟩); exact c1 h; exact c2 h))
              clear c1 c2
              go_wp2
              go_ret
              exact ⟨_, rfl, But.of_bel (bel_refl w), .inr ⟨HNOT.out, _, _, rfl⟩⟩
    · obtain ⟨u, hu⟩ : ∃ u, u = s := ⟨_, rfl⟩
      have HU : Hid (unplus s = u) := by show _ = _; unfold unplus; rw [if_neg (by rw [hs0]; simpa using h43), hu]
      have hsl : 0 < s.length := (List.getElem?_eq_some_iff.1 hs0).1
      have c43 : ((c0.toNat : Int) == 43) = false := by
        have : c0.toNat ≠ 43 := fun e => h43 (UInt8.toNat.inj e)
        simp; omega
      rw [← hu] at hs0 hsl ⊢
      clear h43 hu
      rcases hu0 : u[0]? with _ | c
      · exfalso
        rw [hu0] at hs0
        cases hs0
      · obtain rfl : c0 = c := by rw [hu0] at hs0; exact (Option.some.inj hs0).symm
        have hul : 0 < u.length := (List.getElem?_eq_some_iff.1 hu0).1
        have huli : (0 : Int) < (u.length : Int) := by omega
        have hgu0 : ∀ h, (⟨u.toArray⟩ : ByteArray)[0]'h = c0 := fun h => (Option.some.inj ((get_list u 0 h).symm.trans hu0))
        by_cases h48 : c0 = 48
        · have c48 : ((c0.toNat : Int) == 48) = true := by rw [h48]; rfl
          clear hu0 hs0 h48
          go_enter Tryz.func24, Tryz.ntmps24
          go_wp2_with fail
          refine sd_loop w u 0 _ _ _ _ _ _ _ _ _ _ _ _ _ _ _ _ _ _ _ _ _ _ _ _ _ _ _ _ _ _ _ _ _ _ _ _ _ _ _ _ _ _ _ _ _ _ _ _ _ _ (by omega) ?_
          show ∀ _, _
          intro I2 p' u6 u27 u28 u29 u30 u31 u32 hI2
          obtain ⟨i, rfl, hld⟩ := hI2
          have hstrip : Hid (u.drop i = stripZ (unplus s)) := by show _ = _; rw [HU.out]; exact (stripZ_at u i hld.1 hld.2.1 hld.2.2).symm
          have hile : (i : Int) ≤ (u.length : Int) := by have := hld.1; omega
          have hext2 : (⟨u.toArray⟩ : ByteArray).extract i u.length = ⟨(u.drop i).toArray⟩ := by
            apply ByteArray.ext
            rw [ByteArray.data_extract]
            simp
            exact List.take_of_length_le (by rw [List.length_drop]; omega)
          obtain ⟨t, ht⟩ : ∃ t, t = u.drop i := ⟨_, rfl⟩
          rw [← ht] at hext2 hstrip
          clear ht hld
          by_cases c1 : t.length < 78
          · have c1i : (t.length : Int) < 78 := by omega
            have C := Lib.hid c1
            clear c1
            go_wp2_with (go_at_call 36; refine (FT.out t _ hstrip.out (.inl C.out) (bel_alloc (bel_refl w) _)).mono ?_; rintro e w1 ⟨v, rfl, hb, h⟩; have HP := Lib.hid (And.intro hb h); clear hb h)
            go_ret
            exact ⟨v, rfl, HP.out.1, HP.out.2⟩
          · have c1i : ¬ (t.length : Int) < 78 := by omega
            by_cases c2 : t.length = 78
            · have c2i : ((t.length : Int) == 78) = true := by simp; omega
              cases b1 : Op.bytesLess t maxD
              · cases b2 : (t == maxD)
                · have b1i : Op.bytesLess t [49, 49, 53, 55, 57, 50, 48, 56, 57, 50, 51, 55, 51, 49, 54, 49, 57, 53, 52, 50, 51, 53, 55, 48, 57, 56, 53, 48, 48, 56, 54, 56, 55, 57, 48, 55, 56, 53, 51, 50, 54, 57, 57, 56, 52, 54, 54, 53, 54, 52, 48, 53, 54, 52, 48, 51, 57, 52, 53, 55, 53, 56, 52, 48, 48, 55, 57, 49, 51, 49, 50, 57, 54, 51, 57, 57, 51, 53] = false := b1
                  have b2i : (t == ([49, 49, 53, 55, 57, 50, 48, 56, 57, 50, 51, 55, 51, 49, 54, 49, 57, 53, 52, 50, 51, 53, 55, 48, 57, 56, 53, 48, 48, 56, 54, 56, 55, 57, 48, 55, 56, 53, 51, 50, 54, 57, 57, 56, 52, 54, 54, 53, 54, 52, 48, 53, 54, 52, 48, 51, 57, 52, 53, 55, 53, 56, 52, 48, 48, 55, 57, 49, 51, 49, 50, 57, 54, 51, 57, 57, 51, 53] : List UInt8)) = false := b2
                  have c3 := cmp_big t
                  rw [b1, b2] at c3
                  have HNOT := Lib.hid (FN.out t hstrip.out (by rintro (h | ⟨_, h⟩); exact c1 h; rw [h] at c3; cases c3))
                  clear c1 c2 c3 b1 b2
                  go_wp2
                  go_ret
                  exact ⟨_, rfl, But.of_bel (bel_alloc (bel_refl w) _), .inr ⟨HNOT.out, _, _, rfl⟩⟩
                · have b1i : Op.bytesLess t [49, 49, 53, 55, 57, 50, 48, 56, 57, 50, 51, 55, 51, 49, 54, 49, 57, 53, 52, 50, 51, 53, 55, 48, 57, 56, 53, 48, 48, 56, 54, 56, 55, 57, 48, 55, 56, 53, 51, 50, 54, 57, 57, 56, 52, 54, 54, 53, 54, 52, 48, 53, 54, 52, 48, 51, 57, 52, 53, 55, 53, 56, 52, 48, 48, 55, 57, 49, 51, 49, 50, 57, 54, 51, 57, 57, 51, 53] = false := b1
                  have b2i : (t == ([49, 49, 53, 55, 57, 50, 48, 56, 57, 50, 51, 55, 51, 49, 54, 49, 57, 53, 52, 50, 51, 53, 55, 48, 57, 56, 53, 48, 48, 56, 54, 56, 55, 57, 48, 55, 56, 53, 51, 50, 54, 57, 57, 56, 52, 54, 54, 53, 54, 52, 48, 53, 54, 52, 48, 51, 57, 52, 53, 55, 53, 56, 52, 48, 48, 55, 57, 49, 51, 49, 50, 57, 54, 51, 57, 57, 51, 53] : List UInt8)) = true := b2
                  have c3 := cmp_big t
                  rw [b1, b2] at c3
                  have C := Lib.hid (And.intro c2 c3.symm)
                  clear c1 c2 c3 b1 b2
                  go_wp2_with (go_at_call 36; refine (FT.out t _ hstrip.out (.inr C.out) (bel_alloc (bel_refl w) _)).mono ?_; rintro e w1 ⟨v, rfl, hb, h⟩; have HP := Lib.hid (And.intro hb h); clear hb h)
                  go_ret
                  exact ⟨v, rfl, HP.out.1, HP.out.2⟩
              · have b1i : Op.bytesLess t [49, 49, 53, 55, 57, 50, 48, 56, 57, 50, 51, 55, 51, 49, 54, 49, 57, 53, 52, 50, 51, 53, 55, 48, 57, 56, 53, 48, 48, 56, 54, 56, 55, 57, 48, 55, 56, 53, 51, 50, 54, 57, 57, 56, 52, 54, 54, 53, 54, 52, 48, 53, 54, 52, 48, 51, 57, 52, 53, 55, 53, 56, 52, 48, 48, 55, 57, 49, 51, 49, 50, 57, 54, 51, 57, 57, 51, 53] = true := b1
                have c3 := cmp_big t
                rw [b1] at c3
                have C := Lib.hid (And.intro c2 c3.symm)
                clear c1 c2 c3 b1
                go_wp2_with (go_at_call 36; refine (FT.out t _ hstrip.out (.inr C.out) (bel_alloc (bel_refl w) _)).mono ?_; rintro e w1 ⟨v, rfl, hb, h⟩; have HP := Lib.hid (And.intro hb h); clear hb h)
                go_ret
                exact ⟨v, rfl, HP.out.1, HP.out.2⟩
            · have c2i : ((t.length : Int) == 78) = false := by simp; omega
              have HNOT := Lib.hid (FN.out t hstrip.out (by rintro (h | ⟨h, _⟩); exact c1 h; exact c2 h))
              clear c1 c2
              go_wp2
              go_ret
              exact ⟨_, rfl, But.of_bel (bel_alloc (bel_refl w) _), .inr ⟨HNOT.out, _, _, rfl⟩⟩
        · have c48 : ((c0.toNat : Int) == 48) = false := by
            have : c0.toNat ≠ 48 := fun e => h48 (UInt8.toNat.inj e)
            simp; omega
          have hstrip : Hid (u = stripZ (unplus s)) := by
            show _ = _
            rw [HU.out, stripZ_id u (fun _ => by rw [hu0]; simpa using h48)]
          clear hu0 hs0 h48
          go_enter Tryz.func24, Tryz.ntmps24
          by_cases c1 : u.length < 78
          · have c1i : (u.length : Int) < 78 := by omega
            have C := Lib.hid c1
            clear c1
            go_wp2_with (go_at_call 36; refine (FT.out u _ hstrip.out (.inl C.out) (bel_refl w)).mono ?_; rintro e w1 ⟨v, rfl, hb, h⟩; have HP := Lib.hid (And.intro hb h); clear hb h)
            go_ret
            exact ⟨v, rfl, HP.out.1, HP.out.2⟩
          · have c1i : ¬ (u.length : Int) < 78 := by omega
            by_cases c2 : u.length = 78
            · have c2i : ((u.length : Int) == 78) = true := by simp; omega
              cases b1 : Op.bytesLess u maxD
              · cases b2 : (u == maxD)
                · have b1i : Op.bytesLess u [49, 49, 53, 55, 57, 50, 48, 56, 57, 50, 51, 55, 51, 49, 54, 49, 57, 53, 52, 50, 51, 53, 55, 48, 57, 56, 53, 48, 48, 56, 54, 56, 55, 57, 48, 55, 56, 53, 51, 50, 54, 57, 57, 56, 52, 54, 54, 53, 54, 52, 48, 53, 54, 52, 48, 51, 57, 52, 53, 55, 53, 56, 52, 48, 48, 55, 57, 49, 51, 49, 50, 57, 54, 51, 57, 57, 51, 53] = false := b1
                  have b2i : (u == ([49, 49, 53, 55, 57, 50, 48, 56, 57, 50, 51, 55, 51, 49, 54, 49, 57, 53, 52, 50, 51, 53, 55, 48, 57, 56, 53, 48, 48, 56, 54, 56, 55, 57, 48, 55, 56, 53, 51, 50, 54, 57, 57, 56, 52, 54, 54, 53, 54, 52, 48, 53, 54, 52, 48, 51, 57, 52, 53, 55, 53, 56, 52, 48, 48, 55, 57, 49, 51, 49, 50, 57, 54, 51, 57, 57, 51, 53] : List UInt8)) = false := b2
                  have c3 := cmp_big u
                  rw [b1, b2] at c3
                  have HNOT := Lib.hid (FN.out u hstrip.out (by rintro (h | ⟨_, h⟩); exact c1 h; rw [h] at c3; cases c3))
                  clear c1 c2 c3 b1 b2
                  go_wp2
                  go_ret
                  exact ⟨_, rfl, But.of_bel (bel_refl w), .inr ⟨HNOT.out, _, _, rfl⟩⟩
                · have b1i : Op.bytesLess u [49, 49, 53, 55, 57, 50, 48, 56, 57, 50, 51, 55, 51, 49, 54, 49, 57, 53, 52, 50, 51, 53, 55, 48, 57, 56, 53, 48, 48, 56, 54, 56, 55, 57, 48, 55, 56, 53, 51, 50, 54, 57, 57, 56, 52, 54, 54, 53, 54, 52, 48, 53, 54, 52, 48, 51, 57, 52, 53, 55, 53, 56, 52, 48, 48, 55, 57, 49, 51, 49, 50, 57, 54, 51, 57, 57, 51, 53] = false := b1
                  have b2i : (u == ([49, 49, 53, 55, 57, 50, 48, 56, 57, 50, 51, 55, 51, 49, 54, 49, 57, 53, 52, 50, 51, 53, 55, 48, 57, 56, 53, 48, 48, 56, 54, 56, 55, 57, 48, 55, 56, 53, 51, 50, 54, 57, 57, 56, 52, 54, 54, 53, 54, 52, 48, 53, 54, 52, 48, 51, 57, 52, 53, 55, 53, 56, 52, 48, 48, 55, 57, 49, 51, 49, 50, 57, 54, 51, 57, 57, 51, 53] : List UInt8)) = true := b2
                  have c3 := cmp_big u
                  rw [b1, b2] at c3
                  have C := Lib.hid (And.intro c2 c3.symm)
                  clear c1 c2 c3 b1 b2
                  go_wp2_with (go_at_call 36; refine (FT.out u _ hstrip.out (.inr C.out) (bel_refl w)).mono ?_; rintro e w1 ⟨v, rfl, hb, h⟩; have HP := Lib.hid (And.intro hb h); clear hb h)
                  go_ret
                  exact ⟨v, rfl, HP.out.1, HP.out.2⟩
              · have b1i : Op.bytesLess u [49, 49, 53, 55, 57, 50, 48, 56, 57, 50, 51, 55, 51, 49, 54, 49, 57, 53, 52, 50, 51, 53, 55, 48, 57, 56, 53, 48, 48, 56, 54, 56, 55, 57, 48, 55, 56, 53, 51, 50, 54, 57, 57, 56, 52, 54, 54, 53, 54, 52, 48, 53, 54, 52, 48, 51, 57, 52, 53, 55, 53, 56, 52, 48, 48, 55, 57, 49, 51, 49, 50, 57, 54, 51, 57, 57, 51, 53] = true := b1
                have c3 := cmp_big u
                rw [b1] at c3
                have C := Lib.hid (And.intro c2 c3.symm)
                clear c1 c2 c3 b1
                go_wp2_with (go_at_call 36; refine (FT.out u _ hstrip.out (.inr C.out) (bel_refl w)).mono ?_; rintro e w1 ⟨v, rfl, hb, h⟩; have HP := Lib.hid (And.intro hb h); clear hb h)
                go_ret
                exact ⟨v, rfl, HP.out.1, HP.out.2⟩
            · have c2i : ((u.length : Int) == 78) = false := by simp; omega
              have HNOT := Lib.hid (FN.out u hstrip.out (by rintro (h | ⟨h, _⟩); exact c1 h; exact c2 h))
              clear c1 c2
              go_wp2
              go_ret
              exact ⟨_, rfl, But.of_bel (bel_refl w), .inr ⟨HNOT.out, _, _, rfl⟩⟩
end Go.Proofs.YtfaocjcpnjmfiaaGreatDoor

set_option linter.unusedVariables false
set_option linter.unusedSimpArgs false
namespace Go.Proofs.YtfaocjcpnjmfiaaGreatDoor
open Go.RowKit
theorem RetTxt.yes {ok : Prop} {n b : Nat} {w w' : World} {e : Ending} (h : RetTxt ok n b w e w') (k : ok) : e = .returned .nilIface ∧ But [b] w w' ∧ At4 w' b 0 (ofN n) ∧ Free4 w' b 0 := by
  obtain ⟨v, rfl, hb, h | h⟩ := h
  · obtain ⟨_, rfl, h1, h2⟩ := h
    exact ⟨rfl, hb, h1, h2⟩
  · exact absurd k h.1
theorem RetTxt.no {ok : Prop} {n b : Nat} {w w' : World} {e : Ending} (h : RetTxt ok n b w e w') (k : ¬ ok) : But [b] w w' ∧ ∃ t u, e = .returned (.iface t u) := by
  obtain ⟨v, rfl, hb, h | h⟩ := h
  · exact absurd h.1 k
  · obtain ⟨_, t, u, rfl⟩ := h
    exact ⟨hb, t, u, rfl⟩
/-- What the decimal readers ask of the memory, no receiver in sight. -/
structure DecM (a : Nat → Addr) (w : World) : Prop where
  syn : SynE w
  mul : MulT a w
  eof : ∃ t u, w.cell? ⟨6, 0, none⟩ = some (.iface t u)
  big : ∃ t u, w.cell? ⟨5, 0, none⟩ = some (.iface t u)
theorem DecM.bel {a : Nat → Addr} {w w' : World} (h : DecM a w) (k : Below w.heap.size w w') : DecM a w' := by
  obtain ⟨h1, h2, ⟨t, u, h4⟩, ⟨t2, u2, h5⟩⟩ := h
  exact ⟨h1.bel k, h2.bel k, ⟨t, u, bel_cell k h4⟩, ⟨t2, u2, bel_cell k h5⟩⟩
theorem DecM.away {a : Nat → Addr} {w w' : World} (h : DecM a w) (k : Below w.heap.size w w') (b : Nat) (hb : w.heap.size ≤ b) : DecE a b w' := by
  have h' := h.bel k
  obtain ⟨t0, u0, h1⟩ := h.syn
  obtain ⟨t, u, h4⟩ := h.eof
  have l1 := World.block_lt_of_cell? w _ h1
  have l2 := World.block_lt_of_cell? w _ h4
  have l3 := World.block_lt_of_cell? w _ h.mul.c0
  exact ⟨h'.syn, h'.mul, fun j h1 h2 => by have := (h.mul.at4 j h1 h2).lt; omega, h'.eof, h'.big, Nat.lt_of_lt_of_le l1 hb, Nat.lt_of_lt_of_le l2 hb, Nat.lt_of_lt_of_le l3 hb⟩
abbrev Z4I : Obj := .cells #[.int .u64 0, .int .u64 0, .int .u64 0, .int .u64 0] 41
theorem z4_at (w : World) : At4 (w.alloc Z4I) w.heap.size 0 ⟨0#64, 0#64, 0#64, 0#64⟩ := by constructor <;> simp [go_sem] <;> rfl
theorem z4_free (w : World) : Free4 (w.alloc Z4I) w.heap.size 0 := by constructor <;> simp [go_sem]
set_option maxHeartbeats 2000000 in
/-- FromDecimal: a new number, or an error. -/
theorem fromDecNew_ok (a : Nat → Addr) (s : List UInt8) (w : World) (hE : DecM a w) (h0 : DecOk s) :
    Calls Tryz.prog 12 #[.string ⟨s.toArray⟩] w fun e w' => Below w.heap.size w w' ∧ ∃ B, e = .returned (.tuple #[.pointer (some ⟨B, 0, none⟩), .nilIface]) ∧ At4 w' B 0 (ofN (dv (unplus s))) := by
  have FH := Lib.hid ((setFromDecimal_any a w.heap.size _ s _ (z4_at w) (z4_free w) (hE.away (bel_alloc (bel_refl w) _) _ (Nat.le_refl _))).mono fun e w' h => h.yes h0)
  clear hE h0
  go_enter Tryz.func12, Tryz.ntmps12
  go_wp2_with fail
  refine FH.out.mono ?_
  rintro e w1 ⟨rfl, hb, h4, _⟩
  have HB := Lib.hid (hb.bel (bel_alloc (bel_refl w) _) (fun x hx => by simp at hx; omega))
  have H4 := Lib.hid h4
  clear hb h4 FH
  go_wp2
  go_ret2
  exact ⟨HB.out, _, rfl, H4.out⟩
set_option maxHeartbeats 2000000 in
theorem fromDecNew_bad (a : Nat → Addr) (s : List UInt8) (w : World) (hE : DecM a w) (h0 : ¬ DecOk s) :
    Calls Tryz.prog 12 #[.string ⟨s.toArray⟩] w fun e w' => Below w.heap.size w w' ∧ ∃ t u, e = .returned (.tuple #[.pointer none, .iface t u]) := by
  have FH := Lib.hid ((setFromDecimal_any a w.heap.size _ s _ (z4_at w) (z4_free w) (hE.away (bel_alloc (bel_refl w) _) _ (Nat.le_refl _))).mono fun e w' h => h.no h0)
  clear hE h0
  go_enter Tryz.func12, Tryz.ntmps12
  go_wp2_with fail
  refine FH.out.mono ?_
  rintro e w1 ⟨hb, t, u, rfl⟩
  have HB := Lib.hid (hb.bel (bel_alloc (bel_refl w) _) (fun x hx => by simp at hx; omega))
  clear hb FH
  go_wp2
  go_ret2
  exact ⟨HB.out, _, _, rfl⟩
set_option maxHeartbeats 1000000 in
theorem implFromDec_ok (a : Nat → Addr) (s : List UInt8) (w : World) (hE : DecM a w) (h0 : DecOk s) :
    Calls Tryz.prog 4 #[.string ⟨s.toArray⟩] w fun e w' => e = .returned (.tuple #[(ofN (dv (unplus s))).v, .bool true]) ∧ Below w.heap.size w w' := by
  have hth := thereR_z w
  have NE := Lib.hid (fromDecNew_ok a s (w.alloc Z4R) (hE.bel (bel_alloc (bel_refl w) _)) h0)
  generalize ofN (dv (unplus s)) = x at *
  clear h0 hE
  go_enter Tryz.func4, Tryz.ntmps4
  go_wp2_with fail
  refine NE.out.mono ?_
  rintro e w2 ⟨hb2, B, rfl, h4⟩
  have H4 := Lib.hid h4
  have hth2 := thereR_bel hth (by omega) hb2
  clear h4
  go_wp2_with fail
  refine (numOf_any B 0 x _ H4.out).mono ?_
  rintro e w3 ⟨rfl, hb3⟩
  have hth3 := thereR_bel hth2 (by omega) hb3
  go_wp2_with (show wpList _ _ _ (⟨none, Op.store 24 _ _, _, _, _, _⟩ :: _) _ _; refine wpList_store_mid (op := ⟨none, Op.store 24 (.tmp 2) (.tmp 15), _, _, _, _⟩) rfl 24 _ _ rfl w.heap.size 0 [V x.a, V x.b, V x.c, V x.d].toArray rfl rfl hth3 (by kernel_rfl) (by simp [Value.oneCell']) ?_)
  go_wp2
  refine bodyPost_ret (v := .tuple #[x.v, .bool true]) (resultsR_slot rfl _ _ w.heap.size [V x.a, V x.b, V x.c, V x.d] _ rfl (World.rangeAt_setCells_same _ _ 0 _ hth3) Tryz.underlying24 rfl (by kernel_rfl) rfl) rfl ⟨rfl, ?_⟩
  exact setCellsR_bel (bel_trans (bel_trans (bel_alloc (bel_refl w) _) hb2) hb3) (Nat.le_refl _)
set_option maxHeartbeats 1000000 in
theorem implFromDec_bad (a : Nat → Addr) (s : List UInt8) (w : World) (hE : DecM a w) (h0 : ¬ DecOk s) :
    Calls Tryz.prog 4 #[.string ⟨s.toArray⟩] w fun e w' => e = .returned (.tuple #[zeroR.v, .bool false]) ∧ Below w.heap.size w w' := by
  have hth := thereR_z w
  have NE := Lib.hid (fromDecNew_bad a s (w.alloc Z4R) (hE.bel (bel_alloc (bel_refl w) _)) h0)
  clear h0 hE
  go_enter Tryz.func4, Tryz.ntmps4
  go_wp2_with fail
  refine NE.out.mono ?_
  rintro e w2 ⟨hb2, t, u, rfl⟩
  have hth2 := thereR_bel hth (by omega) hb2
  go_wp2_with (show wpList _ _ _ (⟨none, Op.store 24 _ _, _, _, _, _⟩ :: _) _ _; refine wpList_store_mid (op := ⟨none, Op.store 24 (.tmp 2) (.tmp 13), _, _, _, _⟩) rfl 24 _ _ rfl w.heap.size 0 [V zeroR.a, V zeroR.b, V zeroR.c, V zeroR.d].toArray rfl rfl hth2 (by kernel_rfl) (by simp [Value.oneCell']) ?_)
  go_wp2
  refine bodyPost_ret (v := .tuple #[zeroR.v, .bool false]) (resultsR_slot rfl _ _ w.heap.size [V zeroR.a, V zeroR.b, V zeroR.c, V zeroR.d] _ rfl (World.rangeAt_setCells_same _ _ 0 _ hth2) Tryz.underlying24 rfl (by kernel_rfl) rfl) rfl ⟨rfl, ?_⟩
  exact setCellsR_bel (bel_trans (bel_alloc (bel_refl w) _) hb2) (Nat.le_refl _)
end Go.Proofs.YtfaocjcpnjmfiaaGreatDoor

namespace Go.Proofs.YtfaocjcpnjmfiaaGreatDoor
open Go.RowKit Go.Extern.Stop Go.Stop Go.Extern
set_option linter.unusedVariables false
set_option linter.unusedSimpArgs false
set_option maxRecDepth 20000
/-- The six sentinels: what the variables hold. -/
structure HexE (a : Nat → Addr) (w : World) : Prop where
  e1 : w.cell? ⟨0, 0, none⟩ = some (.iface 116 (.pointer (some (a 1))))
  e2 : w.cell? ⟨1, 0, none⟩ = some (.iface 116 (.pointer (some (a 2))))
  e3 : w.cell? ⟨2, 0, none⟩ = some (.iface 116 (.pointer (some (a 3))))
  e4 : w.cell? ⟨3, 0, none⟩ = some (.iface 116 (.pointer (some (a 4))))
  e5 : w.cell? ⟨4, 0, none⟩ = some (.iface 116 (.pointer (some (a 5))))
  e6 : w.cell? ⟨5, 0, none⟩ = some (.iface 116 (.pointer (some (a 6))))
theorem HexE.bel {a : Nat → Addr} {w w' : World} (h : HexE a w) (k : Below w.heap.size w w') : HexE a w' :=
  ⟨bel_cell k h.e1, bel_cell k h.e2, bel_cell k h.e3, bel_cell k h.e4, bel_cell k h.e5, bel_cell k h.e6⟩
/-- The error of a code (0: none). -/
def errV (a : Nat → Addr) (k : Nat) : Value := if k = 0 then .nilIface else .iface 116 (.pointer (some (a k)))
theorem errV_zero (a : Nat → Addr) : errV a 0 = .nilIface := rfl
/-- What checkNumberS tells (0: nothing). -/
def chkFault (s : List UInt8) : Nat := if s = [] then 1 else if isPre s = false then 3 else if s.length = 2 then 4 else if 3 < s.length ∧ s[2]? = some 48 then 5 else 0
set_option maxHeartbeats 2000000 in
theorem checkNumberS_any (a : Nat → Addr) (s : List UInt8) (w : World) (hE : HexE a w) :
    Calls Tryz.prog 43 #[.string ⟨s.toArray⟩] w fun e w' => e = .returned (errV a (chkFault s)) ∧ w' = w := by
  obtain ⟨e1, e2, e3, e4, e5, e6⟩ := hE
  rcases s with _ | ⟨c0, _ | ⟨c1, t⟩⟩
  · go_enter Tryz.func43, Tryz.ntmps43
    go_wp2
    go_ret
    exact ⟨rfl, rfl⟩
  · go_enter Tryz.func43, Tryz.ntmps43
    go_wp2
    go_ret
    exact ⟨rfl, rfl⟩
  · have hg0 : ∀ h, (⟨(c0 :: c1 :: t).toArray⟩ : ByteArray)[0]'h = c0 := fun _ => rfl
    have hg1 : ∀ h, (⟨(c0 :: c1 :: t).toArray⟩ : ByteArray)[1]'h = c1 := fun _ => rfl
    have n1 : ¬ ((t.length : Int) + 1 + 1 < 2) := by omega
    have n2 : ¬ ((t.length : Int) + 1 + 1 = 0) := by omega
    have n2' : (((t.length : Int) + 1 + 1) == 0) = false := by simp; omega
    have nib : ∀ (c d : UInt8), c ≠ d → ¬ ((c.toNat : Int) = (d.toNat : Int)) := fun c d h e => h (UInt8.toNat.inj (by omega))
    cases hp : isPre (c0 :: c1 :: t)
    · have hv : errV a (chkFault (c0 :: c1 :: t)) = errV a 3 := by unfold chkFault; rw [if_neg (by simp), if_pos hp]
      rw [hv]
      unfold isPre at hp
      by_cases k0 : c0 = 48
      · subst k0
        have k1 : c1 ≠ 120 := fun e => by subst e; simp at hp
        have k2 : c1 ≠ 88 := fun e => by subst e; simp at hp
        have m1 : ((c1.toNat : Int) != 120) = true := by simpa using nib c1 120 k1
        have m2 : ((c1.toNat : Int) != 88) = true := by simpa using nib c1 88 k2
        have m0 : (((48 : UInt8).toNat : Int) != 48) = false := by decide
        clear hp k1 k2 hv
        go_enter Tryz.func43, Tryz.ntmps43
        go_wp2
        go_ret
        exact ⟨rfl, rfl⟩
      · have m0 : ((c0.toNat : Int) != 48) = true := by simpa using nib c0 48 k0
        clear hp hv k0
        go_enter Tryz.func43, Tryz.ntmps43
        go_wp2
        go_ret
        exact ⟨rfl, rfl⟩
    · have hp2 := hp
      unfold isPre at hp
      simp only [Bool.and_eq_true, Bool.or_eq_true, beq_iff_eq] at hp
      obtain ⟨rfl, k1⟩ := hp
      have m0 : (((48 : UInt8).toNat : Int) != 48) = false := by decide
      have m12 : ((c1.toNat : Int) != 120) = false ∨ (((c1.toNat : Int) != 120) = true ∧ ((c1.toNat : Int) != 88) = false) := by
        rcases k1 with rfl | rfl
        · exact .inl (by decide)
        · exact .inr ⟨by decide, by decide⟩
      clear k1
      rcases t with _ | ⟨c2, t⟩
      · have hv : chkFault [48, c1] = 4 := by unfold chkFault; rw [if_neg (by simp), if_neg (by rw [hp2]; simp)]; rfl
        rw [hv]
        clear hv hp2
        rcases m12 with m1 | ⟨m1, m2⟩
        · go_enter Tryz.func43, Tryz.ntmps43
          go_wp2
          go_ret
          exact ⟨rfl, rfl⟩
        · go_enter Tryz.func43, Tryz.ntmps43
          go_wp2
          go_ret
          exact ⟨rfl, rfl⟩
      · have hg2 : ∀ h, (⟨(48 :: c1 :: c2 :: t).toArray⟩ : ByteArray)[2]'h = c2 := fun _ => rfl
        have hv : chkFault (48 :: c1 :: c2 :: t) = if t ≠ [] ∧ c2 = 48 then 5 else 0 := by
          unfold chkFault
          rw [if_neg (by simp), if_neg (by rw [hp2]; simp), if_neg (by simp)]
          by_cases h : t ≠ [] ∧ c2 = 48
          · have : 0 < t.length := by rcases t with _ | _; exact absurd rfl h.1; simp
            rw [if_pos h, if_pos ⟨by simp; omega, by simp [h.2]⟩]
          · rw [if_neg h, if_neg]
            rintro ⟨h1, h2⟩
            refine h ⟨fun e => ?_, by simpa using h2⟩
            subst e
            simp at h1
        rw [hv]
        clear hv hp2 n1 n2 n2'
        have n1 : ¬ ((t.length : Int) + 1 + 1 + 1 < 2) := by omega
        have n2 : (((t.length : Int) + 1 + 1 + 1) == 0) = false := by simp; omega
        have n3 : (((t.length : Int) + 1 + 1 + 1) == 2) = false := by simp; omega
        rcases t with _ | ⟨c3, t⟩
        · rw [if_neg (by simp)]
          rcases m12 with m1 | ⟨m1, m2⟩
          · go_enter Tryz.func43, Tryz.ntmps43
            go_wp2
            go_ret
            exact ⟨rfl, rfl⟩
          · go_enter Tryz.func43, Tryz.ntmps43
            go_wp2
            go_ret
            exact ⟨rfl, rfl⟩
        · have n4 : (3 : Int) < (t.length : Int) + 1 + 1 + 1 + 1 := by omega
          have n5 : ¬ ((t.length : Int) + 1 + 1 + 1 + 1 < 2) := by omega
          have n6 : (((t.length : Int) + 1 + 1 + 1 + 1) == 0) = false := by simp; omega
          have n7 : (((t.length : Int) + 1 + 1 + 1 + 1) == 2) = false := by simp; omega
          by_cases k2 : c2 = 48
          · subst k2
            rw [if_pos ⟨by simp, rfl⟩]
            have q2 : (((48 : UInt8).toNat : Int) == 48) = true := by decide
            rcases m12 with m1 | ⟨m1, m2⟩
            · go_enter Tryz.func43, Tryz.ntmps43
              go_wp2
              go_ret
              exact ⟨rfl, rfl⟩
            · go_enter Tryz.func43, Tryz.ntmps43
              go_wp2
              go_ret
              exact ⟨rfl, rfl⟩
          · rw [if_neg (fun h => k2 h.2)]
            have q2 : ((c2.toNat : Int) == 48) = false := by simpa using nib c2 48 k2
            rcases m12 with m1 | ⟨m1, m2⟩
            · go_enter Tryz.func43, Tryz.ntmps43
              go_wp2
              go_ret
              exact ⟨rfl, rfl⟩
            · go_enter Tryz.func43, Tryz.ntmps43
              go_wp2
              go_ret
              exact ⟨rfl, rfl⟩
end Go.Proofs.YtfaocjcpnjmfiaaGreatDoor

set_option linter.unusedVariables false
set_option linter.unusedSimpArgs false
namespace Go.Proofs.YtfaocjcpnjmfiaaGreatDoor
open Go.RowKit
/-- The loops' bodies in a code, not those within them. -/
def loopsIn : Code → List Code
  | .loop c => [c]
  | .seq a b => loopsIn a ++ loopsIn b
  | .block _ c => loopsIn c
  | .scope c => loopsIn c
  | .cond _ a b => loopsIn a ++ loopsIn b
  | _ => []
noncomputable def hexBody : Code := ((Tryz.f33.body.map loopsIn).getD []).headD .skip
noncomputable def hexIn : Code := (loopsIn hexBody).headD .skip
def opsOf : Code → List Oper
  | .region _ ops _ => ops.toList
  | .loop c => opsOf c
  | .seq a b => opsOf a ++ opsOf b
  | .block _ c => opsOf c
  | .scope c => opsOf c
  | .cond _ a b => opsOf a ++ opsOf b
  | _ => []
def tabOf (o : Oper) : Option ByteArray := match o.op with
  | .index _ (.const (.string v)) _ => some v
  | _ => none
/-- The table of digits. -/
noncomputable def binS : ByteArray := ((opsOf hexIn).findSome? tabOf).getD ByteArray.empty
theorem bin_list : binS.data.toList = (List.range 256).map fun n => UInt8.ofNat (nibOf (UInt8.ofNat n)) := by kernel_rfl
theorem bin_nib (c : UInt8) (S : ByteArray) (h : c.toNat < S.size) (hS : S = binS) : (S[c.toNat]'h).toNat = nibOf c := by
  subst hS
  have e : binS.data.toList[c.toNat]? = some (UInt8.ofNat (nibOf c)) := by
    rw [bin_list, List.getElem?_map, List.getElem?_range c.toNat_lt]
    simp
  have e2 : binS[c.toNat]'h = UInt8.ofNat (nibOf c) := by
    show binS.data[c.toNat]'h = _
    rw [← Array.getElem_toList]
    exact (List.getElem?_eq_some_iff.1 e).2
  rw [e2, UInt8.toNat_ofNat']
  rcases nibOf_two c with h | h <;> omega
/-- A number with one word turned. -/
def wset (t : N4) : Nat → W64 → N4
  | 0, v => ⟨v, t.b, t.c, t.d⟩
  | 1, v => ⟨t.a, v, t.c, t.d⟩
  | 2, v => ⟨t.a, t.b, v, t.d⟩
  | _, v => ⟨t.a, t.b, t.c, v⟩
theorem at4_wset {W : World} {b : Nat} {t : N4} (h : At4 W b 0 t) (i : Nat) (hi : i < 4) (v : W64) : At4 (W.setCell ⟨b, i, none⟩ (V v)) b 0 (wset t i v) := by
  obtain ⟨h0, h1, h2, h3⟩ := h
  simp only [Nat.zero_add] at h1 h2 h3
  match i, hi with
  | 0, _ | 1, _ | 2, _ | 3, _ => constructor <;> simp [go_sem, wset, h0, h1, h2, h3]
theorem free4_wset {W : World} {c p : Nat} (h : Free4 W c p) (b i : Nat) (v : Value) : Free4 (W.setCell ⟨b, i, none⟩ v) c p := by
  obtain ⟨h0, h1, h2, h3⟩ := h
  constructor <;> simp [go_sem, h0, h1, h2, h3]
theorem wset_wset (t : N4) (i : Nat) (u v : W64) : wset (wset t i u) i v = wset t i v := by
  match i with
  | 0 | 1 | 2 | _ + 3 => rfl
/-- The digits from st on, so many. -/
def seg (s : List UInt8) (st n : Nat) : List UInt8 := (s.drop st).take n
/-- What holds in the inner loop: k digits of the word are read. -/
structure HexI (w0 : World) (b : Nat) (z : N4) (s : List UInt8) (i st k : Nat) (W : World) : Prop where
  at4 : At4 W b 0 (wset z i (BitVec.ofNat 64 (hv (seg s st k))))
  free : Free4 W b 0
  but : But [b] w0 W
  nibs : Nibs (seg s st k)
theorem HexE.but {a : Nat → Addr} {w w' : World} {b : Nat} (h : HexE a w) (k : But [b] w w') (hb : 5 < b) : HexE a w' :=
  ⟨k.cell (by simp; omega) h.e1, k.cell (by simp; omega) h.e2, k.cell (by simp; omega) h.e3, k.cell (by simp; omega) h.e4, k.cell (by simp; omega) h.e5, k.cell (by simp; omega) h.e6⟩
theorem hex_word (h n : Nat) : BitVec.ofNat 64 (16 * h + n) = (BitVec.ofNat 64 h <<< 4) + BitVec.ofNat 64 n := by
  apply BitVec.eq_of_toNat_eq
  rw [BitVec.toNat_add, BitVec.toNat_shiftLeft, BitVec.toNat_ofNat, BitVec.toNat_ofNat, BitVec.toNat_ofNat, Nat.shiftLeft_eq]
  omega
theorem nib_u64 (n : Nat) (h : n < 16) : IntKind.u64.wrap (n : Int) = U (BitVec.ofNat 64 n) := by
  unfold U
  rw [BitVec.toNat_ofNat, IntKind.wrap_u64]
  omega
theorem seg_snoc (s : List UInt8) (st k : Nat) (c : UInt8) (h : s[st + k]? = some c) : seg s st (k + 1) = seg s st k ++ [c] := by
  unfold seg
  rw [List.take_add_one, List.getElem?_drop, h]
  rfl
/-- A region of a code by its number. -/
def findReg (n : Nat) : Code → Option Code
  | .region id ops dr => if id = n then some (.region id ops dr) else none
  | .loop c => findReg n c
  | .seq a b => (findReg n a).or (findReg n b)
  | .block _ c => findReg n c
  | .scope c => findReg n c
  | .cond _ a b => (findReg n a).or (findReg n b)
  | _ => none
noncomputable def hexShl : Code := (findReg 20 hexIn).getD .skip
noncomputable def hexAdd : Code := (findReg 21 hexIn).getD .skip
set_option maxHeartbeats 8000000 in
set_option maxRecDepth 20000 in
theorem hex_shl (b i : Nat) (s : List UInt8) (st en r : Nat) (nb : Value) (X Y : W64) (W1 : World) (Q : Exit → Act → World → Prop) (c2 c3 c5 c11 c12 c13 c14 c15 c16 c17 c18 c19 c20 c21 c22 c23 c24 c25 c26 c27 c28 c29 c30 c31 c32 c65 v33 v34 v35 v36 v37 v38 v39 v40 v41 v42 v43 v44 v45 v46 v47 v48 v49 v50 v51 v52 v53 v54 v55 v56 v57 v58 v59 v60 v61 v62 v63 v64 : Value) (hi : i < 4) (hc : W1.cell? ⟨b, i, none⟩ = some (V X)) (hf : W1.frozen? ⟨b, i, none⟩ = false)
    (hsh : IntKind.u64.wrap (U X * 16) = U Y) (HN : Hid (∀ (u33 u34 u35 u36 u37 u38 u39 u40 u41 u42 u43 u44 u45 u46 u47 u48 u49 u50 u51 u52 u53 u54 u55 u56 u57 u58 u59 u60 u61 u62 u63 u64 : Value), Q .normal ⟨List.toArray (.pointer (some ⟨b, 0, none⟩) :: .string ⟨s.toArray⟩ :: c2 :: c3 :: .nilIface :: c5 :: .int .i64 (en : Int) :: .int .i64 (i : Int) :: .int .i64 (st : Int) :: .int .i64 (r : Int) :: nb :: c11 :: c12 :: c13 :: c14 :: c15 :: c16 :: c17 :: c18 :: c19 :: c20 :: c21 :: c22 :: c23 :: c24 :: c25 :: c26 :: c27 :: c28 :: c29 :: c30 :: c31 :: c32 :: u33 :: u34 :: u35 :: u36 :: u37 :: u38 :: u39 :: u40 :: u41 :: u42 :: u43 :: u44 :: u45 :: u46 :: u47 :: u48 :: u49 :: u50 :: u51 :: u52 :: u53 :: u54 :: u55 :: u56 :: u57 :: u58 :: u59 :: u60 :: u61 :: u62 :: u63 :: u64 :: c65 :: []), []⟩ ((W1.setCell ⟨b, i, none⟩ (V Y)).drew))) : Code.wp Tryz.prog hexShl Q ⟨List.toArray (.pointer (some ⟨b, 0, none⟩) :: .string ⟨s.toArray⟩ :: c2 :: c3 :: .nilIface :: c5 :: .int .i64 (en : Int) :: .int .i64 (i : Int) :: .int .i64 (st : Int) :: .int .i64 (r : Int) :: nb :: c11 :: c12 :: c13 :: c14 :: c15 :: c16 :: c17 :: c18 :: c19 :: c20 :: c21 :: c22 :: c23 :: c24 :: c25 :: c26 :: c27 :: c28 :: c29 :: c30 :: c31 :: c32 :: v33 :: v34 :: v35 :: v36 :: v37 :: v38 :: v39 :: v40 :: v41 :: v42 :: v43 :: v44 :: v45 :: v46 :: v47 :: v48 :: v49 :: v50 :: v51 :: v52 :: v53 :: v54 :: v55 :: v56 :: v57 :: v58 :: v59 :: v60 :: v61 :: v62 :: v63 :: v64 :: c65 :: []), []⟩ W1 := by
  rcases (by omega : i = 0 ∨ i = 1 ∨ i = 2 ∨ i = 3) with rfl | rfl | rfl | rfl
  · conv => arg 2; whnf
    rw [show ((0 : Nat) : Int) = 0 by rfl]
    go_region
    exact HN.out _ _ _ _ _ _ _ _ _ _ _ _ _ _ _ _ _ _ _ _ _ _ _ _ _ _ _ _ _ _ _ _
  · conv => arg 2; whnf
    rw [show ((1 : Nat) : Int) = 1 by rfl]
    go_region
    exact HN.out _ _ _ _ _ _ _ _ _ _ _ _ _ _ _ _ _ _ _ _ _ _ _ _ _ _ _ _ _ _ _ _
  · conv => arg 2; whnf
    rw [show ((2 : Nat) : Int) = 2 by rfl]
    go_region
    exact HN.out _ _ _ _ _ _ _ _ _ _ _ _ _ _ _ _ _ _ _ _ _ _ _ _ _ _ _ _ _ _ _ _
  · conv => arg 2; whnf
    rw [show ((3 : Nat) : Int) = 3 by rfl]
    go_region
    exact HN.out _ _ _ _ _ _ _ _ _ _ _ _ _ _ _ _ _ _ _ _ _ _ _ _ _ _ _ _ _ _ _ _
set_option maxHeartbeats 8000000 in
set_option maxRecDepth 20000 in
theorem hex_add (b i : Nat) (s : List UInt8) (st en r nn : Nat) (Y T : W64) (W1 : World) (Q : Exit → Act → World → Prop) (c2 c3 c5 c11 c12 c13 c14 c15 c16 c17 c18 c19 c20 c21 c22 c23 c24 c25 c26 c27 c28 c29 c30 c31 c32 c65 v33 v34 v35 v36 v37 v38 v39 v40 v41 v42 v43 v44 v45 v46 v47 v48 v49 v50 v51 v52 v53 v54 v55 v56 v57 v58 v59 v60 v61 v62 v63 v64 : Value) (hi : i < 4) (hc : W1.cell? ⟨b, i, none⟩ = some (V Y)) (hf : W1.frozen? ⟨b, i, none⟩ = false)
    (hwr : IntKind.u64.wrap (nn : Int) = U T) (hn : nn < 16) (HN : Hid (∀ (u33 u34 u35 u36 u37 u38 u39 u40 u41 u42 u43 u44 u45 u46 u47 u48 u49 u50 u51 u52 u53 u54 u55 u56 u57 u58 u59 u60 u61 u62 u63 u64 : Value), Q .normal ⟨List.toArray (.pointer (some ⟨b, 0, none⟩) :: .string ⟨s.toArray⟩ :: c2 :: c3 :: .nilIface :: c5 :: .int .i64 (en : Int) :: .int .i64 (i : Int) :: .int .i64 (st : Int) :: .int .i64 (r : Int) :: (.int .u8 (nn : Int)) :: c11 :: c12 :: c13 :: c14 :: c15 :: c16 :: c17 :: c18 :: c19 :: c20 :: c21 :: c22 :: c23 :: c24 :: c25 :: c26 :: c27 :: c28 :: c29 :: c30 :: c31 :: c32 :: u33 :: u34 :: u35 :: u36 :: u37 :: u38 :: u39 :: u40 :: u41 :: u42 :: u43 :: u44 :: u45 :: u46 :: u47 :: u48 :: u49 :: u50 :: u51 :: u52 :: u53 :: u54 :: u55 :: u56 :: u57 :: u58 :: u59 :: u60 :: u61 :: u62 :: u63 :: u64 :: c65 :: []), []⟩ ((W1.setCell ⟨b, i, none⟩ (V (Y + T))).drew))) : Code.wp Tryz.prog hexAdd Q ⟨List.toArray (.pointer (some ⟨b, 0, none⟩) :: .string ⟨s.toArray⟩ :: c2 :: c3 :: .nilIface :: c5 :: .int .i64 (en : Int) :: .int .i64 (i : Int) :: .int .i64 (st : Int) :: .int .i64 (r : Int) :: (.int .u8 (nn : Int)) :: c11 :: c12 :: c13 :: c14 :: c15 :: c16 :: c17 :: c18 :: c19 :: c20 :: c21 :: c22 :: c23 :: c24 :: c25 :: c26 :: c27 :: c28 :: c29 :: c30 :: c31 :: c32 :: v33 :: v34 :: v35 :: v36 :: v37 :: v38 :: v39 :: v40 :: v41 :: v42 :: v43 :: v44 :: v45 :: v46 :: v47 :: v48 :: v49 :: v50 :: v51 :: v52 :: v53 :: v54 :: v55 :: v56 :: v57 :: v58 :: v59 :: v60 :: v61 :: v62 :: v63 :: v64 :: c65 :: []), []⟩ W1 := by
  rcases (by omega : i = 0 ∨ i = 1 ∨ i = 2 ∨ i = 3) with rfl | rfl | rfl | rfl
  · conv => arg 2; whnf
    rw [show ((0 : Nat) : Int) = 0 by rfl]
    go_region
    exact HN.out _ _ _ _ _ _ _ _ _ _ _ _ _ _ _ _ _ _ _ _ _ _ _ _ _ _ _ _ _ _ _ _
  · conv => arg 2; whnf
    rw [show ((1 : Nat) : Int) = 1 by rfl]
    go_region
    exact HN.out _ _ _ _ _ _ _ _ _ _ _ _ _ _ _ _ _ _ _ _ _ _ _ _ _ _ _ _ _ _ _ _
  · conv => arg 2; whnf
    rw [show ((2 : Nat) : Int) = 2 by rfl]
    go_region
    exact HN.out _ _ _ _ _ _ _ _ _ _ _ _ _ _ _ _ _ _ _ _ _ _ _ _ _ _ _ _ _ _ _ _
  · conv => arg 2; whnf
    rw [show ((3 : Nat) : Int) = 3 by rfl]
    go_region
    exact HN.out _ _ _ _ _ _ _ _ _ _ _ _ _ _ _ _ _ _ _ _ _ _ _ _ _ _ _ _ _ _ _ _
theorem wset_cell {W : World} {b i : Nat} {z : N4} {v : W64} (h : At4 W b 0 (wset z i v)) (hi : i < 4) : W.cell? ⟨b, i, none⟩ = some (V v) := by
  obtain ⟨h0, h1, h2, h3⟩ := h
  simp only [Nat.zero_add] at h1 h2 h3
  match i, hi with
  | 0, _ => exact h0
  | 1, _ => exact h1
  | 2, _ => exact h2
  | 3, _ => exact h3
theorem free_cell {W : World} {b i : Nat} (h : Free4 W b 0) (hi : i < 4) : W.frozen? ⟨b, i, none⟩ = false := by
  obtain ⟨h0, h1, h2, h3⟩ := h
  simp only [Nat.zero_add] at h1 h2 h3
  match i, hi with
  | 0, _ => exact h0
  | 1, _ => exact h1
  | 2, _ => exact h2
  | 3, _ => exact h3
set_option maxHeartbeats 8000000 in
set_option maxRecDepth 20000 in
theorem hexin_round (w0 : World) (a : Nat → Addr) (b : Nat) (z : N4) (s : List UInt8) (i st en k : Nat) (nb : Value) (W : World) (Q : Exit → Act → World → Prop) (c2 c3 c5 c11 c12 c13 c14 c15 c16 c17 c18 c19 c20 c21 c22 c23 c24 c25 c26 c27 c28 c29 c30 c31 c32 c65 v33 v34 v35 v36 v37 v38 v39 v40 v41 v42 v43 v44 v45 v46 v47 v48 v49 v50 v51 v52 v53 v54 v55 v56 v57 v58 v59 v60 v61 v62 v63 v64 : Value)
    (H : HexI w0 b z s i st k W) (hE : HexE a w0) (hbg : 5 < b) (hi : i < 4) (hk : st + k ≤ en) (hen : en ≤ s.length) (hs : s.length ≤ 66)
    (HN : Hid (∀ (R : Int) (nb : Value) (W' : World) (u33 u34 u35 u36 u37 u38 u39 u40 u41 u42 u43 u44 u45 u46 u47 u48 u49 u50 u51 u52 u53 u54 u55 u56 u57 u58 u59 u60 u61 u62 u63 u64 : Value), st + k < en → R = ((st + k + 1 : Nat) : Int) → HexI w0 b z s i st (k + 1) W' → Q .normal ⟨List.toArray (.pointer (some ⟨b, 0, none⟩) :: .string ⟨s.toArray⟩ :: c2 :: c3 :: .nilIface :: c5 :: .int .i64 (en : Int) :: .int .i64 (i : Int) :: .int .i64 (st : Int) :: .int .i64 R :: nb :: c11 :: c12 :: c13 :: c14 :: c15 :: c16 :: c17 :: c18 :: c19 :: c20 :: c21 :: c22 :: c23 :: c24 :: c25 :: c26 :: c27 :: c28 :: c29 :: c30 :: c31 :: c32 :: u33 :: u34 :: u35 :: u36 :: u37 :: u38 :: u39 :: u40 :: u41 :: u42 :: u43 :: u44 :: u45 :: u46 :: u47 :: u48 :: u49 :: u50 :: u51 :: u52 :: u53 :: u54 :: u55 :: u56 :: u57 :: u58 :: u59 :: u60 :: u61 :: u62 :: u63 :: u64 :: c65 :: []), []⟩ W'))
    (HB : Hid (∀ (R : Int) (nb : Value) (W' : World) (u33 u34 u35 u36 u37 u38 u39 u40 u41 u42 u43 u44 u45 u46 u47 u48 u49 u50 u51 u52 u53 u54 u55 u56 u57 u58 u59 u60 u61 u62 u63 u64 : Value), (∃ c ∈ s.drop st, ¬ nibOf c < 16) → But [b] w0 W' → Q .ret ⟨List.toArray (.pointer (some ⟨b, 0, none⟩) :: .string ⟨s.toArray⟩ :: c2 :: c3 :: (errV a 2) :: c5 :: .int .i64 (en : Int) :: .int .i64 (i : Int) :: .int .i64 (st : Int) :: .int .i64 R :: nb :: c11 :: c12 :: c13 :: c14 :: c15 :: c16 :: c17 :: c18 :: c19 :: c20 :: c21 :: c22 :: c23 :: c24 :: c25 :: c26 :: c27 :: c28 :: c29 :: c30 :: c31 :: c32 :: u33 :: u34 :: u35 :: u36 :: u37 :: u38 :: u39 :: u40 :: u41 :: u42 :: u43 :: u44 :: u45 :: u46 :: u47 :: u48 :: u49 :: u50 :: u51 :: u52 :: u53 :: u54 :: u55 :: u56 :: u57 :: u58 :: u59 :: u60 :: u61 :: u62 :: u63 :: u64 :: c65 :: []), []⟩ W'))
    (HX : Hid (∀ (R : Int) (nb : Value) (W' : World) (u33 u34 u35 u36 u37 u38 u39 u40 u41 u42 u43 u44 u45 u46 u47 u48 u49 u50 u51 u52 u53 u54 u55 u56 u57 u58 u59 u60 u61 u62 u63 u64 : Value), st + k = en → HexI w0 b z s i st k W' → Q (.exit 2) ⟨List.toArray (.pointer (some ⟨b, 0, none⟩) :: .string ⟨s.toArray⟩ :: c2 :: c3 :: .nilIface :: c5 :: .int .i64 (en : Int) :: .int .i64 (i : Int) :: .int .i64 (st : Int) :: .int .i64 R :: nb :: c11 :: c12 :: c13 :: c14 :: c15 :: c16 :: c17 :: c18 :: c19 :: c20 :: c21 :: c22 :: c23 :: c24 :: c25 :: c26 :: c27 :: c28 :: c29 :: c30 :: c31 :: c32 :: u33 :: u34 :: u35 :: u36 :: u37 :: u38 :: u39 :: u40 :: u41 :: u42 :: u43 :: u44 :: u45 :: u46 :: u47 :: u48 :: u49 :: u50 :: u51 :: u52 :: u53 :: u54 :: u55 :: u56 :: u57 :: u58 :: u59 :: u60 :: u61 :: u62 :: u63 :: u64 :: c65 :: []), []⟩ W')) :
    Code.wp Tryz.prog hexIn Q ⟨List.toArray (.pointer (some ⟨b, 0, none⟩) :: .string ⟨s.toArray⟩ :: c2 :: c3 :: .nilIface :: c5 :: .int .i64 (en : Int) :: .int .i64 (i : Int) :: .int .i64 (st : Int) :: .int .i64 ((st + k : Nat) : Int) :: nb :: c11 :: c12 :: c13 :: c14 :: c15 :: c16 :: c17 :: c18 :: c19 :: c20 :: c21 :: c22 :: c23 :: c24 :: c25 :: c26 :: c27 :: c28 :: c29 :: c30 :: c31 :: c32 :: v33 :: v34 :: v35 :: v36 :: v37 :: v38 :: v39 :: v40 :: v41 :: v42 :: v43 :: v44 :: v45 :: v46 :: v47 :: v48 :: v49 :: v50 :: v51 :: v52 :: v53 :: v54 :: v55 :: v56 :: v57 :: v58 :: v59 :: v60 :: v61 :: v62 :: v63 :: v64 :: c65 :: []), []⟩ W := by
  rcases Nat.eq_or_lt_of_le hk with h0 | h0
  · have hri : ¬ (((st + k : Nat) : Int) < (en : Int)) := by omega
    have HH := Lib.hid H
    clear H hk
    conv => arg 2; whnf
    go_wp2
    exact HX.out _ _ _ _ _ _ _ _ _ _ _ _ _ _ _ _ _ _ _ _ _ _ _ _ _ _ _ _ _ _ _ _ _ _ _ h0 HH.out
  · obtain ⟨c, hc⟩ : ∃ c, s[st + k]? = some c := ⟨_, List.getElem?_eq_getElem (by omega)⟩
    have hgd : ∀ h, (⟨s.toArray⟩ : ByteArray)[st + k]'h = c := by
      intro h
      show (s.toArray[st + k]'h) = c
      rw [List.getElem_toArray]
      exact (List.getElem?_eq_some_iff.1 hc).2
    have hlt : st + k < s.length := by omega
    obtain ⟨r, hr⟩ : ∃ r, r = st + k := ⟨_, rfl⟩
    rw [← hr] at hgd hlt ⊢
    have HR := Lib.hid hr
    have hri : (r : Int) < (en : Int) := by omega
    have hrl : (r : Int) < (s.length : Int) := by omega
    have hc256 : (c.toNat : Int) < 256 := by have := c.toNat_lt; omega
    clear hr
    have HH := Lib.hid H
    have HEE := Lib.hid hE
    have e2 := (hE.but H.but hbg).e2
    clear H hE hk
    conv => arg 2; whnf
    go_upto_region 18 with fail
    rw [bin_nib c]
    rotate_left
    · kernel_rfl
    rcases nibOf_two c with hn | hn
    · have hne : ((nibOf c : Int) == 255) = false := by simp; omega
      have hwr := nib_u64 (nibOf c) hn
      have HSEG := Lib.hid (seg_snoc s st k c hc)
      obtain ⟨h, hh⟩ : ∃ h, h = hv (seg s st k) := ⟨_, rfl⟩
      have HHE := Lib.hid hh
      have HNI := Lib.hid (HH.out.nibs.snoc hn)
      have A4 := HH.out.at4
      rw [← hh] at A4
      have hsh : IntKind.u64.wrap (U (BitVec.ofNat 64 h) * 16) = U (BitVec.ofNat 64 h <<< (4 : Nat)) := by
        unfold U
        rw [BitVec.toNat_shiftLeft, Nat.shiftLeft_eq, IntKind.wrap_u64]
        omega
      obtain ⟨X, hX⟩ : ∃ X, X = BitVec.ofNat 64 h := ⟨_, rfl⟩
      obtain ⟨Y, hY⟩ : ∃ Y, Y = X <<< (4 : Nat) := ⟨_, rfl⟩
      obtain ⟨T, hT⟩ : ∃ T, T = BitVec.ofNat 64 (nibOf c) := ⟨_, rfl⟩
      have hXYT : Hid (Y + T = BitVec.ofNat 64 (hv (seg s st (k + 1)))) := by
        show _ = _
        rw [HSEG.out, hv_snoc, ← HHE.out, hex_word, hY, hT, hX]
      rw [← hX] at A4 hsh
      rw [← hY] at hsh
      rw [← hT] at hwr
      clear hX hY hT
      have HA4 := Lib.hid A4
      have HHB := Lib.hid HH.out.but
      have HHF := Lib.hid HH.out.free
      clear hh hc hgd
      generalize nibOf c = nn at *
      have hcell := wset_cell A4 hi
      have hfroz := free_cell HH.out.free hi
      clear A4
      go_upto_region 20 with fail
      refine hex_shl b i s st en r _ X Y W _ _ _ _ _ _ _ _ _ _ _ _ _ _ _ _ _ _ _ _ _ _ _ _ _ _ _ _ _ _ _ _ _ _ _ _ _ _ _ _ _ _ _ _ _ _ _ _ _ _ _ _ _ _ _ _ _ _ _ hi hcell hfroz hsh ?_
      show ∀ _, _
      intro u33 u34 u35 u36 u37 u38 u39 u40 u41 u42 u43 u44 u45 u46 u47 u48 u49 u50 u51 u52 u53 u54 u55 u56 u57 u58 u59 u60 u61 u62 u63 u64
      have A1 := (at4_wset HA4.out i hi Y)
      rw [wset_wset] at A1
      have HA1 := Lib.hid (show At4 (W.setCell ⟨b, i, none⟩ (V Y)).drew b 0 _ from A1.drewN 1)
      have HF1 := Lib.hid (show Free4 (W.setCell ⟨b, i, none⟩ (V Y)).drew b 0 from (free4_wset HHF.out b i (V Y)).drewN 1)
      have B1 := Lib.hid (HHB.out.set (b := b) (by simp) i (V Y)).drew
      generalize (W.setCell ⟨b, i, none⟩ (V Y)).drew = W1 at *
      clear A1 hcell hfroz HA4 HHF HHB hsh
      have hcell := wset_cell HA1.out hi
      have hfroz := free_cell HF1.out hi
      go_upto_region 21 with fail
      refine hex_add b i s st en r nn Y T W1 _ _ _ _ _ _ _ _ _ _ _ _ _ _ _ _ _ _ _ _ _ _ _ _ _ _ _ _ _ _ _ _ _ _ _ _ _ _ _ _ _ _ _ _ _ _ _ _ _ _ _ _ _ _ _ _ _ _ _ hi hcell hfroz hwr hn ?_
      show ∀ _, _
      intro t33 t34 t35 t36 t37 t38 t39 t40 t41 t42 t43 t44 t45 t46 t47 t48 t49 t50 t51 t52 t53 t54 t55 t56 t57 t58 t59 t60 t61 t62 t63 t64
      have A2 := (at4_wset HA1.out i hi (Y + T))
      rw [wset_wset, hXYT.out] at A2
      have HF2 := Lib.hid (show Free4 (W1.setCell ⟨b, i, none⟩ (V (Y + T))).drew b 0 from (free4_wset HF1.out b i (V (Y + T))).drewN 1)
      have B2 := Lib.hid (B1.out.set (b := b) (by simp) i (V (Y + T))).drew
      rw [hXYT.out] at HF2 B2 ⊢
      have HA2 := Lib.hid (show At4 (W1.setCell ⟨b, i, none⟩ (V (BitVec.ofNat 64 (hv (seg s st (k + 1)))))).drew b 0 _ from A2.drewN 1)
      generalize (W1.setCell ⟨b, i, none⟩ (V (BitVec.ofNat 64 (hv (seg s st (k + 1)))))).drew = W2 at *
      clear A2 hcell hfroz HA1 HF1 B1 hwr
      go_wp2
      exact HN.out _ _ _ _ _ _ _ _ _ _ _ _ _ _ _ _ _ _ _ _ _ _ _ _ _ _ _ _ _ _ _ _ _ _ _ h0 (by have := HR.out; omega) ⟨HA2.out, HF2.out, B2.out, by rw [HSEG.out]; exact HNI.out⟩
    · have hne : ((nibOf c : Int) == 255) = true := by simp; omega
      have hmem : Hid (∃ c ∈ s.drop st, ¬ nibOf c < 16) := by
        refine ⟨c, ?_, by omega⟩
        rw [← List.getElem?_drop] at hc
        exact List.mem_of_getElem? hc
      clear hgd hc
      go_wp2
      exact HB.out _ _ _ _ _ _ _ _ _ _ _ _ _ _ _ _ _ _ _ _ _ _ _ _ _ _ _ _ _ _ _ _ _ _ _ hmem.out HH.out.but
/-- The inner loop. -/
def HexInI (w0 : World) (b : Nat) (z : N4) (s : List UInt8) (i st en : Nat) (c2 c3 c5 c11 c12 c13 c14 c15 c16 c17 c18 c19 c20 c21 c22 c23 c24 c25 c26 c27 c28 c29 c30 c31 c32 c65 : Value) (a : Act) (W : World) : Prop :=
  ∃ (u33 u34 u35 u36 u37 u38 u39 u40 u41 u42 u43 u44 u45 u46 u47 u48 u49 u50 u51 u52 u53 u54 u55 u56 u57 u58 u59 u60 u61 u62 u63 u64 : Value), ∃ (k : Nat) (R : Int) (nb : Value), R = ((st + k : Nat) : Int) ∧ st + k ≤ en ∧ HexI w0 b z s i st k W ∧ a = ⟨List.toArray (.pointer (some ⟨b, 0, none⟩) :: .string ⟨s.toArray⟩ :: c2 :: c3 :: .nilIface :: c5 :: .int .i64 (en : Int) :: .int .i64 (i : Int) :: .int .i64 (st : Int) :: .int .i64 R :: nb :: c11 :: c12 :: c13 :: c14 :: c15 :: c16 :: c17 :: c18 :: c19 :: c20 :: c21 :: c22 :: c23 :: c24 :: c25 :: c26 :: c27 :: c28 :: c29 :: c30 :: c31 :: c32 :: u33 :: u34 :: u35 :: u36 :: u37 :: u38 :: u39 :: u40 :: u41 :: u42 :: u43 :: u44 :: u45 :: u46 :: u47 :: u48 :: u49 :: u50 :: u51 :: u52 :: u53 :: u54 :: u55 :: u56 :: u57 :: u58 :: u59 :: u60 :: u61 :: u62 :: u63 :: u64 :: c65 :: []), []⟩
def muHexIn (a : Act) (_ : World) : Nat := (66 - RowKit.intOf (a.tmps[9]?.getD undef)).toNat
set_option maxHeartbeats 8000000 in
set_option maxRecDepth 20000 in
theorem hex_in (w0 : World) (a : Nat → Addr) (b : Nat) (z : N4) (s : List UInt8) (i st en k : Nat) (R : Int) (nb : Value) (W : World) (Q : Exit → Act → World → Prop) (c2 c3 c5 c11 c12 c13 c14 c15 c16 c17 c18 c19 c20 c21 c22 c23 c24 c25 c26 c27 c28 c29 c30 c31 c32 c65 v33 v34 v35 v36 v37 v38 v39 v40 v41 v42 v43 v44 v45 v46 v47 v48 v49 v50 v51 v52 v53 v54 v55 v56 v57 v58 v59 v60 v61 v62 v63 v64 : Value)
    (H : HexI w0 b z s i st k W) (hR : R = ((st + k : Nat) : Int)) (hE : HexE a w0) (hbg : 5 < b) (hi : i < 4) (hk : st + k ≤ en) (hen : en ≤ s.length) (hs : s.length ≤ 66)
    (HB : Hid (∀ (R : Int) (nb : Value) (W' : World) (u33 u34 u35 u36 u37 u38 u39 u40 u41 u42 u43 u44 u45 u46 u47 u48 u49 u50 u51 u52 u53 u54 u55 u56 u57 u58 u59 u60 u61 u62 u63 u64 : Value), (∃ c ∈ s.drop st, ¬ nibOf c < 16) → But [b] w0 W' → Q .ret ⟨List.toArray (.pointer (some ⟨b, 0, none⟩) :: .string ⟨s.toArray⟩ :: c2 :: c3 :: (errV a 2) :: c5 :: .int .i64 (en : Int) :: .int .i64 (i : Int) :: .int .i64 (st : Int) :: .int .i64 R :: nb :: c11 :: c12 :: c13 :: c14 :: c15 :: c16 :: c17 :: c18 :: c19 :: c20 :: c21 :: c22 :: c23 :: c24 :: c25 :: c26 :: c27 :: c28 :: c29 :: c30 :: c31 :: c32 :: u33 :: u34 :: u35 :: u36 :: u37 :: u38 :: u39 :: u40 :: u41 :: u42 :: u43 :: u44 :: u45 :: u46 :: u47 :: u48 :: u49 :: u50 :: u51 :: u52 :: u53 :: u54 :: u55 :: u56 :: u57 :: u58 :: u59 :: u60 :: u61 :: u62 :: u63 :: u64 :: c65 :: []), []⟩ W'))
    (HX : Hid (∀ (R : Int) (nb : Value) (W' : World) (u33 u34 u35 u36 u37 u38 u39 u40 u41 u42 u43 u44 u45 u46 u47 u48 u49 u50 u51 u52 u53 u54 u55 u56 u57 u58 u59 u60 u61 u62 u63 u64 : Value), HexI w0 b z s i st (en - st) W' → Q (.exit 2) ⟨List.toArray (.pointer (some ⟨b, 0, none⟩) :: .string ⟨s.toArray⟩ :: c2 :: c3 :: .nilIface :: c5 :: .int .i64 (en : Int) :: .int .i64 (i : Int) :: .int .i64 (st : Int) :: .int .i64 R :: nb :: c11 :: c12 :: c13 :: c14 :: c15 :: c16 :: c17 :: c18 :: c19 :: c20 :: c21 :: c22 :: c23 :: c24 :: c25 :: c26 :: c27 :: c28 :: c29 :: c30 :: c31 :: c32 :: u33 :: u34 :: u35 :: u36 :: u37 :: u38 :: u39 :: u40 :: u41 :: u42 :: u43 :: u44 :: u45 :: u46 :: u47 :: u48 :: u49 :: u50 :: u51 :: u52 :: u53 :: u54 :: u55 :: u56 :: u57 :: u58 :: u59 :: u60 :: u61 :: u62 :: u63 :: u64 :: c65 :: []), []⟩ W')) :
    Code.wp Tryz.prog (.loop hexIn) Q ⟨List.toArray (.pointer (some ⟨b, 0, none⟩) :: .string ⟨s.toArray⟩ :: c2 :: c3 :: .nilIface :: c5 :: .int .i64 (en : Int) :: .int .i64 (i : Int) :: .int .i64 (st : Int) :: .int .i64 R :: nb :: c11 :: c12 :: c13 :: c14 :: c15 :: c16 :: c17 :: c18 :: c19 :: c20 :: c21 :: c22 :: c23 :: c24 :: c25 :: c26 :: c27 :: c28 :: c29 :: c30 :: c31 :: c32 :: v33 :: v34 :: v35 :: v36 :: v37 :: v38 :: v39 :: v40 :: v41 :: v42 :: v43 :: v44 :: v45 :: v46 :: v47 :: v48 :: v49 :: v50 :: v51 :: v52 :: v53 :: v54 :: v55 :: v56 :: v57 :: v58 :: v59 :: v60 :: v61 :: v62 :: v63 :: v64 :: c65 :: []), []⟩ W := by
  refine wp_loop (HexInI w0 b z s i st en c2 c3 c5 c11 c12 c13 c14 c15 c16 c17 c18 c19 c20 c21 c22 c23 c24 c25 c26 c27 c28 c29 c30 c31 c32 c65) muHexIn ?_ ?_
  · exact ⟨v33, v34, v35, v36, v37, v38, v39, v40, v41, v42, v43, v44, v45, v46, v47, v48, v49, v50, v51, v52, v53, v54, v55, v56, v57, v58, v59, v60, v61, v62, v63, v64, k, R, nb, hR, hk, H, rfl⟩
  · intro A W1 hI
    obtain ⟨u33, hI⟩ := hI
    obtain ⟨u34, hI⟩ := hI
    obtain ⟨u35, hI⟩ := hI
    obtain ⟨u36, hI⟩ := hI
    obtain ⟨u37, hI⟩ := hI
    obtain ⟨u38, hI⟩ := hI
    obtain ⟨u39, hI⟩ := hI
    obtain ⟨u40, hI⟩ := hI
    obtain ⟨u41, hI⟩ := hI
    obtain ⟨u42, hI⟩ := hI
    obtain ⟨u43, hI⟩ := hI
    obtain ⟨u44, hI⟩ := hI
    obtain ⟨u45, hI⟩ := hI
    obtain ⟨u46, hI⟩ := hI
    obtain ⟨u47, hI⟩ := hI
    obtain ⟨u48, hI⟩ := hI
    obtain ⟨u49, hI⟩ := hI
    obtain ⟨u50, hI⟩ := hI
    obtain ⟨u51, hI⟩ := hI
    obtain ⟨u52, hI⟩ := hI
    obtain ⟨u53, hI⟩ := hI
    obtain ⟨u54, hI⟩ := hI
    obtain ⟨u55, hI⟩ := hI
    obtain ⟨u56, hI⟩ := hI
    obtain ⟨u57, hI⟩ := hI
    obtain ⟨u58, hI⟩ := hI
    obtain ⟨u59, hI⟩ := hI
    obtain ⟨u60, hI⟩ := hI
    obtain ⟨u61, hI⟩ := hI
    obtain ⟨u62, hI⟩ := hI
    obtain ⟨u63, hI⟩ := hI
    obtain ⟨u64, hI⟩ := hI
    obtain ⟨k, R, nb, rfl, hk, H, rfl⟩ := hI
    refine hexin_round w0 a b z s i st en k nb W1 _ c2 c3 c5 c11 c12 c13 c14 c15 c16 c17 c18 c19 c20 c21 c22 c23 c24 c25 c26 c27 c28 c29 c30 c31 c32 c65 _ _ _ _ _ _ _ _ _ _ _ _ _ _ _ _ _ _ _ _ _ _ _ _ _ _ _ _ _ _ _ _ H hE hbg hi hk hen hs ?_ ?_ ?_
    · show ∀ _, _
      intro R2 nb2 W2 u33 u34 u35 u36 u37 u38 u39 u40 u41 u42 u43 u44 u45 u46 u47 u48 u49 u50 u51 u52 u53 u54 u55 u56 u57 u58 u59 u60 u61 u62 u63 u64 hlt hR2 HW
      refine ⟨⟨u33, u34, u35, u36, u37, u38, u39, u40, u41, u42, u43, u44, u45, u46, u47, u48, u49, u50, u51, u52, u53, u54, u55, u56, u57, u58, u59, u60, u61, u62, u63, u64, k + 1, R2, nb2, by rw [hR2]; rfl, ?_, HW, rfl⟩, ?_⟩
      · omega
      · show (66 - RowKit.intOf (.int .i64 R2)).toNat < (66 - RowKit.intOf (.int .i64 ((st + k : Nat) : Int))).toNat
        simp only [RowKit.intOf]
        omega
    · exact HB
    · show ∀ _, _
      intro R2 nb2 W2 u33 u34 u35 u36 u37 u38 u39 u40 u41 u42 u43 u44 u45 u46 u47 u48 u49 u50 u51 u52 u53 u54 u55 u56 u57 u58 u59 u60 u61 u62 u63 u64 hk2 HW
      rw [show k = en - st by omega] at HW
      exact HX.out R2 nb2 W2 u33 u34 u35 u36 u37 u38 u39 u40 u41 u42 u43 u44 u45 u46 u47 u48 u49 u50 u51 u52 u53 u54 u55 u56 u57 u58 u59 u60 u61 u62 u63 u64 HW
theorem wset_add (z : N4) (i : Nat) (hi : i < 4) (v : W64) (h : z.toNat < 2 ^ (64 * i)) : (wset z i v).toNat = z.toNat + v.toNat * 2 ^ (64 * i) := by
  have ha := z.a.isLt
  have hb := z.b.isLt
  have hc := z.c.isLt
  have hd := z.d.isLt
  rcases (by omega : i = 0 ∨ i = 1 ∨ i = 2 ∨ i = 3) with rfl | rfl | rfl | rfl
  · have e : (2 : Nat) ^ (64 * 0) = 1 := by decide
    rw [e] at h ⊢
    unfold N4.toNat at *
    simp only [wset]
    omega
  · have e : (2 : Nat) ^ (64 * 1) = 18446744073709551616 := by decide
    rw [e] at h ⊢
    unfold N4.toNat at *
    simp only [wset]
    omega
  · have e : (2 : Nat) ^ (64 * 2) = 340282366920938463463374607431768211456 := by decide
    rw [e] at h ⊢
    unfold N4.toNat at *
    simp only [wset]
    omega
  · have e : (2 : Nat) ^ (64 * 3) = 6277101735386680763835789423207666416102355444464034512896 := by decide
    rw [e] at h ⊢
    unfold N4.toNat at *
    simp only [wset]
    omega
theorem wset_zero (z : N4) (i : Nat) (hi : i < 4) (h : z.toNat < 2 ^ (64 * i)) : wset z i 0#64 = z := by
  apply toNat_inj
  rw [wset_add z i hi _ h]
  simp
/-- What holds at the outer loop's head: i words are read. -/
structure HexO (w0 : World) (b : Nat) (s : List UInt8) (i en : Nat) (W : World) : Prop where
  ile : i ≤ 4
  enl : en ≤ s.length
  en2 : 2 ≤ en
  enq : en = max 2 (s.length - 16 * i)
  at4 : At4 W b 0 (ofN (hv (s.drop en)))
  free : Free4 W b 0
  but : But [b] w0 W
  nibs : Nibs (s.drop en)
theorem hex_bound {s : List UInt8} {i en : Nat} (hl : s.length ≤ 66) (h : Nibs (s.drop en)) (hi : i ≤ 4) (he : s.length - en ≤ 16 * i) : hv (s.drop en) < 2 ^ (64 * i) := by
  have h1 := hv_lt _ h
  rw [List.length_drop] at h1
  have h2 : 16 ^ (s.length - en) ≤ 16 ^ (16 * i) := Nat.pow_le_pow_right (by omega) he
  have h3 : (16 : Nat) ^ (16 * i) = 2 ^ (64 * i) := by rw [show (16 : Nat) = 2 ^ 4 by rfl, ← Nat.pow_mul]; congr 1; omega
  omega
theorem drop_seg (s : List UInt8) (st en : Nat) (h : st ≤ en) (hl : en ≤ s.length) : s.drop st = seg s st (en - st) ++ s.drop en := by
  unfold seg
  conv => lhs; rw [← List.take_append_drop (en - st) (s.drop st)]
  rw [List.drop_drop]
  congr 2
  omega
theorem seg_len (s : List UInt8) (st en : Nat) (h : st ≤ en) (hl : en ≤ s.length) : (seg s st (en - st)).length = en - st := by unfold seg; simp; omega
theorem hex_next {s : List UInt8} {i st en : Nat} (hs : 2 ≤ s.length) (hl : s.length ≤ 66) (hi : i < 4) (enq : en = max 2 (s.length - 16 * i)) (stq : st = max 2 (en - 16)) (h1 : Nibs (s.drop en)) (h2 : Nibs (seg s st (en - st))) :
    wset (ofN (hv (s.drop en))) i (BitVec.ofNat 64 (hv (seg s st (en - st)))) = ofN (hv (s.drop st)) ∧ Nibs (s.drop st) := by
  have hse : st ≤ en := by omega
  have hel : en ≤ s.length := by omega
  have hb := hex_bound hl h1 (by omega : i ≤ 4) (by omega)
  have hd := drop_seg s st en hse hel
  have hsl := seg_len s st en hse hel
  have hN : Nibs (s.drop st) := by rw [hd]; exact h2.append h1
  have hb2 := hex_bound (i := i + 1) hl hN (by omega) (by omega)
  have h256 : ∀ n, n < 2 ^ (64 * (i + 1)) → n < 2 ^ 256 := fun n h => Nat.lt_of_lt_of_le h (Nat.pow_le_pow_right (by omega) (by omega))
  have hz : (ofN (hv (s.drop en))).toNat = hv (s.drop en) := by
    rw [ofN_toNat, Nat.mod_eq_of_lt]
    exact Nat.lt_of_lt_of_le hb (Nat.pow_le_pow_right (by omega) (by omega))
  refine ⟨?_, hN⟩
  apply toNat_inj
  rw [wset_add _ i hi _ (by rw [hz]; exact hb), hz, ofN_toNat, Nat.mod_eq_of_lt (h256 _ hb2), BitVec.toNat_ofNat]
  have hv16 : hv (seg s st (en - st)) < 2 ^ 64 := by
    have := hv_lt _ h2
    rw [hsl] at this
    have h3 : (16 : Nat) ^ (en - st) ≤ 16 ^ 16 := Nat.pow_le_pow_right (by omega) (by omega)
    have h4 : (16 : Nat) ^ 16 = 2 ^ 64 := by decide
    omega
  rw [Nat.mod_eq_of_lt hv16, hd, hv_append, List.length_drop]
  rcases Nat.eq_or_lt_of_le hse with e | e
  · rw [show en - st = 0 by omega]
    simp [seg, hv]
  · rw [show s.length - en = 16 * i by omega]
    have h3 : (16 : Nat) ^ (16 * i) = 2 ^ (64 * i) := by rw [show (16 : Nat) = 2 ^ 4 by rfl, ← Nat.pow_mul]; congr 1; omega
    rw [h3, Nat.add_comm]
set_option maxHeartbeats 8000000 in
set_option maxRecDepth 20000 in
theorem hexout_round (w0 : World) (a : Nat → Addr) (b : Nat) (s : List UInt8) (i en : Nat) (W : World) (Q : Exit → Act → World → Prop) (c2 c3 c5 c11 c12 c13 c14 c15 c16 c17 c18 c19 c20 c21 c22 c23 v8 v9 v10 v24 v25 v26 v27 v28 v29 v30 v31 v32 v33 v34 v35 v36 v37 v38 v39 v40 v41 v42 v43 v44 v45 v46 v47 v48 v49 v50 v51 v52 v53 v54 v55 v56 v57 v58 v59 v60 v61 v62 v63 v64 v65 : Value)
    (H : HexO w0 b s i en W) (hE : HexE a w0) (hbg : 5 < b) (hs2 : 2 ≤ s.length) (hs : s.length ≤ 66)
    (HN : Hid (∀ (E I : Int) (en : Nat) (W' : World) (u8 u9 u10 u24 u25 u26 u27 u28 u29 u30 u31 u32 u33 u34 u35 u36 u37 u38 u39 u40 u41 u42 u43 u44 u45 u46 u47 u48 u49 u50 u51 u52 u53 u54 u55 u56 u57 u58 u59 u60 u61 u62 u63 u64 u65 : Value), i < 4 → E = (en : Int) → I = ((i + 1 : Nat) : Int) → HexO w0 b s (i + 1) en W' → Q .normal ⟨List.toArray (.pointer (some ⟨b, 0, none⟩) :: .string ⟨s.toArray⟩ :: c2 :: c3 :: .nilIface :: c5 :: .int .i64 E :: .int .i64 I :: u8 :: u9 :: u10 :: c11 :: c12 :: c13 :: c14 :: c15 :: c16 :: c17 :: c18 :: c19 :: c20 :: c21 :: c22 :: c23 :: u24 :: u25 :: u26 :: u27 :: u28 :: u29 :: u30 :: u31 :: u32 :: u33 :: u34 :: u35 :: u36 :: u37 :: u38 :: u39 :: u40 :: u41 :: u42 :: u43 :: u44 :: u45 :: u46 :: u47 :: u48 :: u49 :: u50 :: u51 :: u52 :: u53 :: u54 :: u55 :: u56 :: u57 :: u58 :: u59 :: u60 :: u61 :: u62 :: u63 :: u64 :: u65 :: []), []⟩ W'))
    (HB : Hid (∀ (E I : Int) (W' : World) (u8 u9 u10 u24 u25 u26 u27 u28 u29 u30 u31 u32 u33 u34 u35 u36 u37 u38 u39 u40 u41 u42 u43 u44 u45 u46 u47 u48 u49 u50 u51 u52 u53 u54 u55 u56 u57 u58 u59 u60 u61 u62 u63 u64 u65 : Value), ¬ Nibs (s.drop 2) → But [b] w0 W' → Q .ret ⟨List.toArray (.pointer (some ⟨b, 0, none⟩) :: .string ⟨s.toArray⟩ :: c2 :: c3 :: (errV a 2) :: c5 :: .int .i64 E :: .int .i64 I :: u8 :: u9 :: u10 :: c11 :: c12 :: c13 :: c14 :: c15 :: c16 :: c17 :: c18 :: c19 :: c20 :: c21 :: c22 :: c23 :: u24 :: u25 :: u26 :: u27 :: u28 :: u29 :: u30 :: u31 :: u32 :: u33 :: u34 :: u35 :: u36 :: u37 :: u38 :: u39 :: u40 :: u41 :: u42 :: u43 :: u44 :: u45 :: u46 :: u47 :: u48 :: u49 :: u50 :: u51 :: u52 :: u53 :: u54 :: u55 :: u56 :: u57 :: u58 :: u59 :: u60 :: u61 :: u62 :: u63 :: u64 :: u65 :: []), []⟩ W'))
    (HX : Hid (∀ (E I : Int) (W' : World) (u8 u9 u10 u24 u25 u26 u27 u28 u29 u30 u31 u32 u33 u34 u35 u36 u37 u38 u39 u40 u41 u42 u43 u44 u45 u46 u47 u48 u49 u50 u51 u52 u53 u54 u55 u56 u57 u58 u59 u60 u61 u62 u63 u64 u65 : Value), HexO w0 b s 4 2 W' → Q (.exit 0) ⟨List.toArray (.pointer (some ⟨b, 0, none⟩) :: .string ⟨s.toArray⟩ :: c2 :: c3 :: .nilIface :: c5 :: .int .i64 E :: .int .i64 I :: u8 :: u9 :: u10 :: c11 :: c12 :: c13 :: c14 :: c15 :: c16 :: c17 :: c18 :: c19 :: c20 :: c21 :: c22 :: c23 :: u24 :: u25 :: u26 :: u27 :: u28 :: u29 :: u30 :: u31 :: u32 :: u33 :: u34 :: u35 :: u36 :: u37 :: u38 :: u39 :: u40 :: u41 :: u42 :: u43 :: u44 :: u45 :: u46 :: u47 :: u48 :: u49 :: u50 :: u51 :: u52 :: u53 :: u54 :: u55 :: u56 :: u57 :: u58 :: u59 :: u60 :: u61 :: u62 :: u63 :: u64 :: u65 :: []), []⟩ W')) :
    Code.wp Tryz.prog hexBody Q ⟨List.toArray (.pointer (some ⟨b, 0, none⟩) :: .string ⟨s.toArray⟩ :: c2 :: c3 :: .nilIface :: c5 :: .int .i64 (en : Int) :: .int .i64 (i : Int) :: v8 :: v9 :: v10 :: c11 :: c12 :: c13 :: c14 :: c15 :: c16 :: c17 :: c18 :: c19 :: c20 :: c21 :: c22 :: c23 :: v24 :: v25 :: v26 :: v27 :: v28 :: v29 :: v30 :: v31 :: v32 :: v33 :: v34 :: v35 :: v36 :: v37 :: v38 :: v39 :: v40 :: v41 :: v42 :: v43 :: v44 :: v45 :: v46 :: v47 :: v48 :: v49 :: v50 :: v51 :: v52 :: v53 :: v54 :: v55 :: v56 :: v57 :: v58 :: v59 :: v60 :: v61 :: v62 :: v63 :: v64 :: v65 :: []), []⟩ W := by
  rcases Nat.eq_or_lt_of_le H.ile with h0 | h0
  · subst h0
    have he : en = 2 := by have := H.enq; omega
    subst he
    have HH := Lib.hid H
    clear H
    conv => arg 2; whnf
    go_wp2
    exact HX.out _ _ _ _ _ _ _ _ _ _ _ _ _ _ _ _ _ _ _ _ _ _ _ _ _ _ _ _ _ _ _ _ _ _ _ _ _ _ _ _ _ _ _ _ _ _ _ _ HH.out
  · obtain ⟨st, hst⟩ : ∃ st, st = max 2 (en - 16) := ⟨_, rfl⟩
    have hle : Hid (st ≤ en) := by have := H.en2; show _ ≤ _; omega
    have hst2 : Hid (2 ≤ st) := by show _ ≤ _; omega
    have hle2 := hle.out
    have hii : (i : Int) < 4 := by omega
    have hz : (ofN (hv (s.drop en))).toNat < 2 ^ (64 * i) := by
      have hb := hex_bound hs H.nibs (by omega : i ≤ 4) (by have := H.enq; omega)
      rw [ofN_toNat, Nat.mod_eq_of_lt (Nat.lt_of_lt_of_le hb (Nat.pow_le_pow_right (by omega) (by omega)))]
      exact hb
    have HI : Hid (HexI w0 b (ofN (hv (s.drop en))) s i st 0 W) := by
      refine ⟨?_, H.free, H.but, by simp [seg]; exact Nibs.nil⟩
      rw [show seg s st 0 = [] by simp [seg], hv_nil]
      rw [show (BitVec.ofNat 64 0) = 0#64 by rfl, wset_zero _ i h0 hz]
      exact H.at4
    have enl := H.enl
    have HH := Lib.hid H
    have HST := Lib.hid hst
    have hcase : ((en : Int) - 16 < 2 ∧ st = 2) ∨ (¬ (en : Int) - 16 < 2 ∧ (en : Int) - 16 = (st : Int)) := by
      have := H.en2
      rcases Nat.lt_or_ge en 18 with h | h
      · exact .inl ⟨by omega, by omega⟩
      · exact .inr ⟨by omega, by omega⟩
    clear H hst hz
    conv => arg 2; whnf
    rcases hcase with ⟨k1, k2⟩ | ⟨k1, k2⟩
    · subst k2
      go_wp2_with fail
      have HI2 := HI.out
      refine hex_in w0 a b _ s i 2 en 0 _ _ W _ _ _ _ _ _ _ _ _ _ _ _ _ _ _ _ _ _ _ _ _ _ _ _ _ _ _ _ _ _ _ _ _ _ _ _ _ _ _ _ _ _ _ _ _ _ _ _ _ _ _ _ _ _ _ _ _ _ _ HI2 (by omega) hE hbg h0 (by omega) enl hs ?_ ?_
      · show ∀ _, _
        intro R nb W' t33 t34 t35 t36 t37 t38 t39 t40 t41 t42 t43 t44 t45 t46 t47 t48 t49 t50 t51 t52 t53 t54 t55 t56 t57 t58 t59 t60 t61 t62 t63 t64 hbad hbut
        refine HB.out _ _ _ _ _ _ _ _ _ _ _ _ _ _ _ _ _ _ _ _ _ _ _ _ _ _ _ _ _ _ _ _ _ _ _ _ _ _ _ _ _ _ _ _ _ _ _ _ ?_ hbut
        intro hn
        obtain ⟨c, hc1, hc2⟩ := hbad
        exact hc2 (hn c (by exact hc1))
      · show ∀ _, _
        intro R nb W' t33 t34 t35 t36 t37 t38 t39 t40 t41 t42 t43 t44 t45 t46 t47 t48 t49 t50 t51 t52 t53 t54 t55 t56 t57 t58 t59 t60 t61 t62 t63 t64 HW
        have hnx := hex_next hs2 hs h0 HH.out.enq HST.out HH.out.nibs HW.nibs
        have h4 := HW.at4
        rw [hnx.1] at h4
        have HO : Hid (HexO w0 b s (i + 1) 2 W') := ⟨by omega, by have := hle.out; omega, hst2.out, by have := HST.out; have := HH.out.enq; omega, h4, HW.free, HW.but, hnx.2⟩
        clear HW h4 hnx
        go_wp2
        exact HN.out _ _ _ _ _ _ _ _ _ _ _ _ _ _ _ _ _ _ _ _ _ _ _ _ _ _ _ _ _ _ _ _ _ _ _ _ _ _ _ _ _ _ _ _ _ _ _ _ _ h0 rfl (by omega) HO.out
    · go_wp2_with fail
      have HI2 := HI.out
      refine hex_in w0 a b _ s i st en 0 _ _ W _ _ _ _ _ _ _ _ _ _ _ _ _ _ _ _ _ _ _ _ _ _ _ _ _ _ _ _ _ _ _ _ _ _ _ _ _ _ _ _ _ _ _ _ _ _ _ _ _ _ _ _ _ _ _ _ _ _ _ HI2 (by omega) hE hbg h0 (by omega) enl hs ?_ ?_
      · show ∀ _, _
        intro R nb W' t33 t34 t35 t36 t37 t38 t39 t40 t41 t42 t43 t44 t45 t46 t47 t48 t49 t50 t51 t52 t53 t54 t55 t56 t57 t58 t59 t60 t61 t62 t63 t64 hbad hbut
        refine HB.out _ _ _ _ _ _ _ _ _ _ _ _ _ _ _ _ _ _ _ _ _ _ _ _ _ _ _ _ _ _ _ _ _ _ _ _ _ _ _ _ _ _ _ _ _ _ _ _ ?_ hbut
        intro hn
        obtain ⟨c, hc1, hc2⟩ := hbad
        exact hc2 (hn c (by rw [show st = 2 + (st - 2) by have := hst2.out; omega, ← List.drop_drop] at hc1; exact List.mem_of_mem_drop hc1))
      · show ∀ _, _
        intro R nb W' t33 t34 t35 t36 t37 t38 t39 t40 t41 t42 t43 t44 t45 t46 t47 t48 t49 t50 t51 t52 t53 t54 t55 t56 t57 t58 t59 t60 t61 t62 t63 t64 HW
        have hnx := hex_next hs2 hs h0 HH.out.enq HST.out HH.out.nibs HW.nibs
        have h4 := HW.at4
        rw [hnx.1] at h4
        have HO : Hid (HexO w0 b s (i + 1) st W') := ⟨by omega, by have := hle.out; omega, hst2.out, by have := HST.out; have := HH.out.enq; omega, h4, HW.free, HW.but, hnx.2⟩
        clear HW h4 hnx
        go_wp2
        exact HN.out _ _ _ _ _ _ _ _ _ _ _ _ _ _ _ _ _ _ _ _ _ _ _ _ _ _ _ _ _ _ _ _ _ _ _ _ _ _ _ _ _ _ _ _ _ _ _ _ _ h0 rfl (by omega) HO.out
/-- The outer loop. -/
def HexOI (w0 : World) (b : Nat) (s : List UInt8) (c2 c3 c5 c11 c12 c13 c14 c15 c16 c17 c18 c19 c20 c21 c22 c23 : Value) (a : Act) (W : World) : Prop :=
  ∃ (u8 u9 u10 u24 u25 u26 u27 u28 u29 u30 u31 u32 u33 u34 u35 u36 u37 u38 u39 u40 u41 u42 u43 u44 u45 u46 u47 u48 u49 u50 u51 u52 u53 u54 u55 u56 u57 u58 u59 u60 u61 u62 u63 u64 u65 : Value), ∃ (i en : Nat) (E I : Int), E = (en : Int) ∧ I = (i : Int) ∧ HexO w0 b s i en W ∧ a = ⟨List.toArray (.pointer (some ⟨b, 0, none⟩) :: .string ⟨s.toArray⟩ :: c2 :: c3 :: .nilIface :: c5 :: .int .i64 E :: .int .i64 I :: u8 :: u9 :: u10 :: c11 :: c12 :: c13 :: c14 :: c15 :: c16 :: c17 :: c18 :: c19 :: c20 :: c21 :: c22 :: c23 :: u24 :: u25 :: u26 :: u27 :: u28 :: u29 :: u30 :: u31 :: u32 :: u33 :: u34 :: u35 :: u36 :: u37 :: u38 :: u39 :: u40 :: u41 :: u42 :: u43 :: u44 :: u45 :: u46 :: u47 :: u48 :: u49 :: u50 :: u51 :: u52 :: u53 :: u54 :: u55 :: u56 :: u57 :: u58 :: u59 :: u60 :: u61 :: u62 :: u63 :: u64 :: u65 :: []), []⟩
def muHexOut (a : Act) (_ : World) : Nat := (4 - RowKit.intOf (a.tmps[7]?.getD undef)).toNat
set_option maxHeartbeats 8000000 in
set_option maxRecDepth 20000 in
theorem hex_out (w0 : World) (a : Nat → Addr) (b : Nat) (s : List UInt8) (i en : Nat) (E I : Int) (W : World) (Q : Exit → Act → World → Prop) (c2 c3 c5 c11 c12 c13 c14 c15 c16 c17 c18 c19 c20 c21 c22 c23 v8 v9 v10 v24 v25 v26 v27 v28 v29 v30 v31 v32 v33 v34 v35 v36 v37 v38 v39 v40 v41 v42 v43 v44 v45 v46 v47 v48 v49 v50 v51 v52 v53 v54 v55 v56 v57 v58 v59 v60 v61 v62 v63 v64 v65 : Value)
    (H : HexO w0 b s i en W) (hEn : E = (en : Int)) (hIn : I = (i : Int)) (hE : HexE a w0) (hbg : 5 < b) (hs2 : 2 ≤ s.length) (hs : s.length ≤ 66)
    (HB : Hid (∀ (E I : Int) (W' : World) (u8 u9 u10 u24 u25 u26 u27 u28 u29 u30 u31 u32 u33 u34 u35 u36 u37 u38 u39 u40 u41 u42 u43 u44 u45 u46 u47 u48 u49 u50 u51 u52 u53 u54 u55 u56 u57 u58 u59 u60 u61 u62 u63 u64 u65 : Value), ¬ Nibs (s.drop 2) → But [b] w0 W' → Q .ret ⟨List.toArray (.pointer (some ⟨b, 0, none⟩) :: .string ⟨s.toArray⟩ :: c2 :: c3 :: (errV a 2) :: c5 :: .int .i64 E :: .int .i64 I :: u8 :: u9 :: u10 :: c11 :: c12 :: c13 :: c14 :: c15 :: c16 :: c17 :: c18 :: c19 :: c20 :: c21 :: c22 :: c23 :: u24 :: u25 :: u26 :: u27 :: u28 :: u29 :: u30 :: u31 :: u32 :: u33 :: u34 :: u35 :: u36 :: u37 :: u38 :: u39 :: u40 :: u41 :: u42 :: u43 :: u44 :: u45 :: u46 :: u47 :: u48 :: u49 :: u50 :: u51 :: u52 :: u53 :: u54 :: u55 :: u56 :: u57 :: u58 :: u59 :: u60 :: u61 :: u62 :: u63 :: u64 :: u65 :: []), []⟩ W'))
    (HX : Hid (∀ (E I : Int) (W' : World) (u8 u9 u10 u24 u25 u26 u27 u28 u29 u30 u31 u32 u33 u34 u35 u36 u37 u38 u39 u40 u41 u42 u43 u44 u45 u46 u47 u48 u49 u50 u51 u52 u53 u54 u55 u56 u57 u58 u59 u60 u61 u62 u63 u64 u65 : Value), HexO w0 b s 4 2 W' → Q (.exit 0) ⟨List.toArray (.pointer (some ⟨b, 0, none⟩) :: .string ⟨s.toArray⟩ :: c2 :: c3 :: .nilIface :: c5 :: .int .i64 E :: .int .i64 I :: u8 :: u9 :: u10 :: c11 :: c12 :: c13 :: c14 :: c15 :: c16 :: c17 :: c18 :: c19 :: c20 :: c21 :: c22 :: c23 :: u24 :: u25 :: u26 :: u27 :: u28 :: u29 :: u30 :: u31 :: u32 :: u33 :: u34 :: u35 :: u36 :: u37 :: u38 :: u39 :: u40 :: u41 :: u42 :: u43 :: u44 :: u45 :: u46 :: u47 :: u48 :: u49 :: u50 :: u51 :: u52 :: u53 :: u54 :: u55 :: u56 :: u57 :: u58 :: u59 :: u60 :: u61 :: u62 :: u63 :: u64 :: u65 :: []), []⟩ W')) :
    Code.wp Tryz.prog (.loop hexBody) Q ⟨List.toArray (.pointer (some ⟨b, 0, none⟩) :: .string ⟨s.toArray⟩ :: c2 :: c3 :: .nilIface :: c5 :: .int .i64 E :: .int .i64 I :: v8 :: v9 :: v10 :: c11 :: c12 :: c13 :: c14 :: c15 :: c16 :: c17 :: c18 :: c19 :: c20 :: c21 :: c22 :: c23 :: v24 :: v25 :: v26 :: v27 :: v28 :: v29 :: v30 :: v31 :: v32 :: v33 :: v34 :: v35 :: v36 :: v37 :: v38 :: v39 :: v40 :: v41 :: v42 :: v43 :: v44 :: v45 :: v46 :: v47 :: v48 :: v49 :: v50 :: v51 :: v52 :: v53 :: v54 :: v55 :: v56 :: v57 :: v58 :: v59 :: v60 :: v61 :: v62 :: v63 :: v64 :: v65 :: []), []⟩ W := by
  refine wp_loop (HexOI w0 b s c2 c3 c5 c11 c12 c13 c14 c15 c16 c17 c18 c19 c20 c21 c22 c23) muHexOut ?_ ?_
  · exact ⟨v8, v9, v10, v24, v25, v26, v27, v28, v29, v30, v31, v32, v33, v34, v35, v36, v37, v38, v39, v40, v41, v42, v43, v44, v45, v46, v47, v48, v49, v50, v51, v52, v53, v54, v55, v56, v57, v58, v59, v60, v61, v62, v63, v64, v65, i, en, E, I, hEn, hIn, H, rfl⟩
  · intro A W1 hI
    obtain ⟨u8, hI⟩ := hI
    obtain ⟨u9, hI⟩ := hI
    obtain ⟨u10, hI⟩ := hI
    obtain ⟨u24, hI⟩ := hI
    obtain ⟨u25, hI⟩ := hI
    obtain ⟨u26, hI⟩ := hI
    obtain ⟨u27, hI⟩ := hI
    obtain ⟨u28, hI⟩ := hI
    obtain ⟨u29, hI⟩ := hI
    obtain ⟨u30, hI⟩ := hI
    obtain ⟨u31, hI⟩ := hI
    obtain ⟨u32, hI⟩ := hI
    obtain ⟨u33, hI⟩ := hI
    obtain ⟨u34, hI⟩ := hI
    obtain ⟨u35, hI⟩ := hI
    obtain ⟨u36, hI⟩ := hI
    obtain ⟨u37, hI⟩ := hI
    obtain ⟨u38, hI⟩ := hI
    obtain ⟨u39, hI⟩ := hI
    obtain ⟨u40, hI⟩ := hI
    obtain ⟨u41, hI⟩ := hI
    obtain ⟨u42, hI⟩ := hI
    obtain ⟨u43, hI⟩ := hI
    obtain ⟨u44, hI⟩ := hI
    obtain ⟨u45, hI⟩ := hI
    obtain ⟨u46, hI⟩ := hI
    obtain ⟨u47, hI⟩ := hI
    obtain ⟨u48, hI⟩ := hI
    obtain ⟨u49, hI⟩ := hI
    obtain ⟨u50, hI⟩ := hI
    obtain ⟨u51, hI⟩ := hI
    obtain ⟨u52, hI⟩ := hI
    obtain ⟨u53, hI⟩ := hI
    obtain ⟨u54, hI⟩ := hI
    obtain ⟨u55, hI⟩ := hI
    obtain ⟨u56, hI⟩ := hI
    obtain ⟨u57, hI⟩ := hI
    obtain ⟨u58, hI⟩ := hI
    obtain ⟨u59, hI⟩ := hI
    obtain ⟨u60, hI⟩ := hI
    obtain ⟨u61, hI⟩ := hI
    obtain ⟨u62, hI⟩ := hI
    obtain ⟨u63, hI⟩ := hI
    obtain ⟨u64, hI⟩ := hI
    obtain ⟨u65, hI⟩ := hI
    obtain ⟨i, en, E, I, rfl, rfl, H, rfl⟩ := hI
    refine hexout_round w0 a b s i en W1 _ c2 c3 c5 c11 c12 c13 c14 c15 c16 c17 c18 c19 c20 c21 c22 c23 _ _ _ _ _ _ _ _ _ _ _ _ _ _ _ _ _ _ _ _ _ _ _ _ _ _ _ _ _ _ _ _ _ _ _ _ _ _ _ _ _ _ _ _ _ H hE hbg hs2 hs ?_ ?_ ?_
    · show ∀ _, _
      intro E2 I2 en2 W2 u8 u9 u10 u24 u25 u26 u27 u28 u29 u30 u31 u32 u33 u34 u35 u36 u37 u38 u39 u40 u41 u42 u43 u44 u45 u46 u47 u48 u49 u50 u51 u52 u53 u54 u55 u56 u57 u58 u59 u60 u61 u62 u63 u64 u65 hlt hE2 hI2 HW
      refine ⟨⟨u8, u9, u10, u24, u25, u26, u27, u28, u29, u30, u31, u32, u33, u34, u35, u36, u37, u38, u39, u40, u41, u42, u43, u44, u45, u46, u47, u48, u49, u50, u51, u52, u53, u54, u55, u56, u57, u58, u59, u60, u61, u62, u63, u64, u65, i + 1, en2, E2, I2, hE2, hI2, HW, rfl⟩, ?_⟩
      show (4 - RowKit.intOf (.int .i64 I2)).toNat < (4 - RowKit.intOf (.int .i64 (i : Int))).toNat
      simp only [RowKit.intOf]
      omega
    · exact HB
    · exact HX
set_option maxHeartbeats 8000000 in
set_option maxRecDepth 20000 in
theorem fromHex_any (a : Nat → Addr) (b : Nat) (z : N4) (s : List UInt8) (w : World) (hz : At4 w b 0 z) (fz : Free4 w b 0) (hE : HexE a w) (hbg : 5 < b) :
    Calls Tryz.prog 33 #[.pointer (some ⟨b, 0, none⟩), .string ⟨s.toArray⟩] w fun e w' => e = .returned (errV a (hexFault s)) ∧ But [b] w w' ∧ (hexFault s = 0 → At4 w' b 0 (ofN (hv (s.drop 2)))) := by
  have HZ := Lib.hid hz
  have HF := Lib.hid fz
  have HE := Lib.hid hE
  have e6 := hE.e6
  clear hz fz hE
  by_cases hk : chkFault s = 0
  · have hlen : 3 ≤ s.length ∧ isPre s = true := by
      unfold chkFault at hk
      by_cases h1 : s = []
      · rw [if_pos h1] at hk; omega
      · rw [if_neg h1] at hk
        by_cases h2 : isPre s = false
        · rw [if_pos h2] at hk; omega
        · rw [if_neg h2] at hk
          by_cases h3 : s.length = 2
          · rw [if_pos h3] at hk; omega
          · refine ⟨?_, by simpa using h2⟩
            match s, h1, h2, h3 with
            | [], h1, _, _ => exact absurd rfl h1
            | [_], _, h2, _ => exact absurd rfl h2
            | [_, _], _, _, h3 => exact absurd rfl h3
            | _ :: _ :: _ :: t, _, _, _ => simp
    have hfault : hexFault s = if 66 < s.length then 6 else if Nibs (s.drop 2) then 0 else 2 := by
      unfold hexFault
      unfold chkFault at hk
      by_cases h1 : s = []
      · rw [if_pos h1] at hk; omega
      · rw [if_neg h1] at hk ⊢
        by_cases h2 : isPre s = false
        · rw [if_pos h2] at hk; omega
        · rw [if_neg h2] at hk ⊢
          by_cases h3 : s.length = 2
          · rw [if_pos h3] at hk; omega
          · rw [if_neg h3] at hk ⊢
            by_cases h4 : 3 < s.length ∧ s[2]? = some 48
            · rw [if_pos h4] at hk; omega
            · rw [if_neg h4]
    have hs2 : 2 ≤ s.length := by omega
    by_cases h66 : 66 < s.length
    · have hgt : (66 : Int) < (s.length : Int) := by omega
      rw [hfault, if_pos h66]
      clear hlen hfault h66 hs2
      have CK : Hid (∀ w, HexE a w → Calls Tryz.prog 43 #[.string ⟨s.toArray⟩] w fun e w' => e = .returned .nilIface ∧ w' = w) := fun w h => by
        have h := checkNumberS_any a s w h
        rw [hk] at h
        exact h
      clear hk
      go_enter Tryz.func33, Tryz.ntmps33
      go_wp2_with (go_at_call 43; refine (CK.out _ HE.out).mono ?_; rintro e w1 ⟨rfl, rfl⟩)
      go_ret
      exact ⟨rfl, But.refl _ _, fun h => by cases h⟩
    · rw [hfault, if_neg h66]
      have hgt : ¬ (66 : Int) < (s.length : Int) := by omega
      have CK : Hid (∀ w, HexE a w → Calls Tryz.prog 43 #[.string ⟨s.toArray⟩] w fun e w' => e = .returned .nilIface ∧ w' = w) := fun w h => by
        have h := checkNumberS_any a s w h
        rw [hk] at h
        exact h
      obtain ⟨fv, hfv⟩ : ∃ fv, fv = if Nibs (s.drop 2) then 0 else 2 := ⟨_, rfl⟩
      rw [← hfv]
      have Hfault := Lib.hid hfv
      clear hfv
      have hs66 : Hid (s.length ≤ 66) := by show _ ≤ _; omega
      have hS2 := Lib.hid hs2
      clear hk hfault hlen h66 hs2
      go_enter Tryz.func33, Tryz.ntmps33
      go_wp2_with (first
        | (go_at_call 43; refine (CK.out _ HE.out).mono ?_; rintro e w1 ⟨rfl, hw1⟩; have hw1 := hw1.symm; subst hw1)
        | (go_at_call 44; refine (clear_any b 0 z _ HZ.out HF.out).mono ?_; rintro e w2 ⟨rfl, n2, hw2⟩; have HW2 := Lib.hid hw2; clear hw2))
      have hw2 := HW2.out
      have B2 : But [b] w w2 := by rw [hw2]; exact ((But.refl [b] w).put4 (by simp) _ _).drewN _
      have HO : Hid (HexO w b s 0 s.length w2) := by
        refine ⟨by omega, Nat.le_refl _, hS2.out, by have := hS2.out; omega, ?_, ?_, B2, by rw [List.drop_length]; exact Nibs.nil⟩
        · rw [List.drop_length, hv_nil, ofN_zero, hw2]
          exact (put4_at _ _ _ _ _ HZ.out).drewN _
        · rw [hw2]
          exact (Free4.put _ HF.out).drewN _
      clear hw2 B2 HW2
      refine hex_out w a b s 0 s.length _ _ w2 _ _ _ _ _ _ _ _ _ _ _ _ _ _ _ _ _ _ _ _ _ _ _ _ _ _ _ _ _ _ _ _ _ _ _ _ _ _ _ _ _ _ _ _ _ _ _ _ _ _ _ _ _ _ _ _ _ _ _ _ _ _ HO.out rfl rfl HE.out hbg hS2.out hs66.out ?_ ?_
      · show ∀ _, _
        intro E I W' u8 u9 u10 u24 u25 u26 u27 u28 u29 u30 u31 u32 u33 u34 u35 u36 u37 u38 u39 u40 u41 u42 u43 u44 u45 u46 u47 u48 u49 u50 u51 u52 u53 u54 u55 u56 u57 u58 u59 u60 u61 u62 u63 u64 u65 hn hbut
        have hf2 : fv = 2 := by rw [Hfault.out, if_neg hn]
        subst hf2
        have HN := Lib.hid hbut
        clear hbut hn
        go_wp2
        go_ret
        exact ⟨rfl, HN.out, fun h => by cases h⟩
      · show ∀ _, _
        intro E I W' u8 u9 u10 u24 u25 u26 u27 u28 u29 u30 u31 u32 u33 u34 u35 u36 u37 u38 u39 u40 u41 u42 u43 u44 u45 u46 u47 u48 u49 u50 u51 u52 u53 u54 u55 u56 u57 u58 u59 u60 u61 u62 u63 u64 u65 H4
        have hf2 : fv = 0 := by rw [Hfault.out, if_pos H4.nibs]
        subst hf2
        have HN := Lib.hid H4
        clear H4
        go_wp2
        go_ret
        exact ⟨rfl, HN.out.but, by first | exact HN.out.at4 | exact fun _ => HN.out.at4⟩
  · have hf : hexFault s = chkFault s := by
      unfold hexFault
      unfold chkFault at hk ⊢
      by_cases h1 : s = []
      · rw [if_pos h1, if_pos h1]
      · rw [if_neg h1] at hk ⊢
        rw [if_neg h1]
        by_cases h2 : isPre s = false
        · rw [if_pos h2, if_pos h2]
        · rw [if_neg h2] at hk ⊢
          rw [if_neg h2]
          by_cases h3 : s.length = 2
          · rw [if_pos h3, if_pos h3]
          · rw [if_neg h3] at hk ⊢
            rw [if_neg h3]
            by_cases h4 : 3 < s.length ∧ s[2]? = some 48
            · rw [if_pos h4, if_pos h4]
            · rw [if_neg h4] at hk
              omega
    rw [hf]
    have hev : errV a (chkFault s) = .iface 116 (.pointer (some (a (chkFault s)))) := by unfold errV; rw [if_neg hk]
    rw [hev]
    have CK : Hid (∀ w, HexE a w → Calls Tryz.prog 43 #[.string ⟨s.toArray⟩] w fun e w' => e = .returned (.iface 116 (.pointer (some (a (chkFault s))))) ∧ w' = w) := fun w h => by
      have h := checkNumberS_any a s w h
      rw [hev] at h
      exact h
    have HK := Lib.hid hk
    clear hf hev hk
    generalize chkFault s = k at *
    go_enter Tryz.func33, Tryz.ntmps33
    go_wp2_with (go_at_call 43; refine (CK.out _ HE.out).mono ?_; rintro e w1 ⟨rfl, rfl⟩)
    go_ret
    exact ⟨rfl, But.refl _ _, fun h => absurd h HK.out⟩
end Go.Proofs.YtfaocjcpnjmfiaaGreatDoor

set_option linter.unusedVariables false
set_option linter.unusedSimpArgs false
namespace Go.Proofs.YtfaocjcpnjmfiaaGreatDoor
open Go.RowKit
/-- []byte(s): a slice that reads as the text's bytes, a grown world. -/
theorem conv_str (w : World) (l : List UInt8) : ∃ v w', (convert 9 43 (.string ⟨l.toArray⟩)).run Tryz.prog w = .ok v w' ∧ SlB w' v l ∧ Below w.heap.size w w' := by
  have h := Lib.run_convert_string_bytes w 9 43 5 ⟨l.toArray⟩ Tryz.underlying9 Tryz.underlying43 Tryz.underlying5
  refine ⟨_, _, h, ?_, Lib.bytesWorld_below _ _ _⟩
  refine ⟨some ⟨w.heap.size, 0, none⟩, _, rfl, grownCap_ge _ _ _ _, fun i b hb => ⟨_, _, rfl, ?_⟩⟩
  have hi : i < l.length := (List.getElem?_eq_some_iff.1 hb).1
  have hc := Lib.bytesWorld_cell w 5 ⟨l.toArray⟩ i hi
  rw [Nat.zero_add, hc]
  simp [List.getD, hb]
end Go.Proofs.YtfaocjcpnjmfiaaGreatDoor

set_option linter.unusedVariables false
set_option linter.unusedSimpArgs false
namespace Go.Proofs.YtfaocjcpnjmfiaaGreatDoor
open Go.RowKit
/-- A number read from a text into the receiver, or an error. -/
def RetTx (ok : Prop) (n b : Nat) (w : World) (e : Ending) (w' : World) : Prop :=
  ∃ v, e = .returned v ∧ But [b] w w' ∧ ((ok ∧ v = .nilIface ∧ At4 w' b 0 (ofN n)) ∨ (¬ ok ∧ IsErr v))
theorem RetTxt.tx {ok : Prop} {n b : Nat} {w w' : World} {e : Ending} (h : RetTxt ok n b w e w') : RetTx ok n b w e w' := by
  obtain ⟨v, h1, h2, h⟩ := h
  refine ⟨v, h1, h2, ?_⟩
  rcases h with ⟨k1, k2, k3, _⟩ | h
  · exact .inl ⟨k1, k2, k3⟩
  · exact .inr h
theorem RetTx.yes {ok : Prop} {n b : Nat} {w w' : World} {e : Ending} (h : RetTx ok n b w e w') (k : ok) : e = .returned .nilIface ∧ But [b] w w' ∧ At4 w' b 0 (ofN n) := by
  obtain ⟨v, rfl, hb, h | h⟩ := h
  · obtain ⟨_, rfl, h1⟩ := h
    exact ⟨rfl, hb, h1⟩
  · exact absurd k h.1
theorem RetTx.no {ok : Prop} {n b : Nat} {w w' : World} {e : Ending} (h : RetTx ok n b w e w') (k : ¬ ok) : But [b] w w' ∧ ∃ t u, e = .returned (.iface t u) := by
  obtain ⟨v, rfl, hb, h | h⟩ := h
  · exact absurd h.1 k
  · obtain ⟨_, t, u, rfl⟩ := h
    exact ⟨hb, t, u, rfl⟩
/-- A text that the package takes, and its number. -/
def TxtOk (l : List UInt8) : Prop := if isPre l = true then hexFault l = 0 else DecOk l
instance (l : List UInt8) : Decidable (TxtOk l) := by unfold TxtOk; infer_instance
def txtN (l : List UInt8) : Nat := if isPre l = true then hv (l.drop 2) else dv (unplus l)
/-- What the readers of texts ask of the memory. -/
structure TxtW (a ah : Nat → Addr) (w : World) : Prop where
  dec : DecM a w
  hex : HexE ah w
theorem TxtW.bel {a ah : Nat → Addr} {w w' : World} (h : TxtW a ah w) (k : Below w.heap.size w w') : TxtW a ah w' := ⟨h.dec.bel k, h.hex.bel k⟩
theorem hex_tx (ah : Nat → Addr) (b : Nat) (z : N4) (s : List UInt8) (w : World) (hz : At4 w b 0 z) (fz : Free4 w b 0) (hE : HexE ah w) (hbg : 5 < b) :
    Calls Tryz.prog 33 #[.pointer (some ⟨b, 0, none⟩), .string ⟨s.toArray⟩] w (RetTx (hexFault s = 0) (hv (s.drop 2)) b w) := by
  refine (fromHex_any ah b z s w hz fz hE hbg).mono ?_
  rintro e w' ⟨rfl, hb, h4⟩
  refine ⟨_, rfl, hb, ?_⟩
  by_cases h : hexFault s = 0
  · exact .inl ⟨h, by rw [h, errV_zero], h4 h⟩
  · exact .inr ⟨h, _, _, by unfold errV; rw [if_neg h]⟩
set_option maxHeartbeats 4000000 in
set_option maxRecDepth 20000 in
theorem unmText_any (a ah : Nat → Addr) (b : Nat) (z : N4) (l : List UInt8) (v : Value) (w : World) (hz : At4 w b 0 z) (fz : Free4 w b 0) (hs : SlB w v l) (hE : DecE a b w) (hH : HexE ah w) (hbg : 5 < b) :
    Calls Tryz.prog 19 #[.pointer (some ⟨b, 0, none⟩), v] w (RetTx (TxtOk l) (txtN l) b w) := by
  obtain ⟨ok, hok⟩ : ∃ ok, ok = TxtOk l := ⟨_, rfl⟩
  obtain ⟨n, hn⟩ : ∃ n, n = txtN l := ⟨_, rfl⟩
  have DEC : isPre l = false → Calls Tryz.prog 24 #[.pointer (some ⟨b, 0, none⟩), .string ⟨l.toArray⟩] w (RetTx ok n b w) := fun h => by
    rw [hok, hn]
    unfold TxtOk txtN
    rw [if_neg (by rw [h]; simp), if_neg (by rw [h]; simp)]
    exact (setFromDecimal_any a b z l w hz fz hE).mono fun e w' h => h.tx
  have HEX : isPre l = true → Calls Tryz.prog 33 #[.pointer (some ⟨b, 0, none⟩), .string ⟨l.toArray⟩] w (RetTx ok n b w) := fun h => by
    rw [hok, hn]
    unfold TxtOk txtN
    rw [if_pos h, if_pos h]
    exact hex_tx ah b z l w hz fz hH hbg
  have hcv := conv_slb hs
  rw [← hok, ← hn]
  clear hok hn hz fz hE hH
  obtain ⟨A, cap, rfl, hc, hcell⟩ := hs
  rcases l with _ | ⟨c0, _ | ⟨c1, t⟩⟩
  · have D := Lib.hid (DEC rfl)
    simp only [List.length_cons, List.length_nil, Nat.zero_add] at hcv ⊢
    clear DEC HEX hcell
    go_enter Tryz.func19, Tryz.ntmps19
    go_wp2_with (go_at_call 24; refine D.out.mono ?_; rintro e w1 ⟨v, rfl, hb, h⟩; have HP := Lib.hid (And.intro hb h); clear hb h)
    go_ret
    exact ⟨v, rfl, HP.out.1, HP.out.2⟩
  · have D := Lib.hid (DEC rfl)
    simp only [List.length_cons, List.length_nil, Nat.zero_add] at hcv ⊢
    clear DEC HEX hcell
    go_enter Tryz.func19, Tryz.ntmps19
    go_wp2_with (go_at_call 24; refine D.out.mono ?_; rintro e w1 ⟨v, rfl, hb, h⟩; have HP := Lib.hid (And.intro hb h); clear hb h)
    go_ret
    exact ⟨v, rfl, HP.out.1, HP.out.2⟩
  · obtain ⟨g, o, rfl, k0⟩ := hcell 0 c0 rfl
    obtain ⟨g', o', e', k1⟩ := hcell 1 c1 rfl
    obtain ⟨rfl, rfl⟩ : g = g' ∧ o = o' := by injection e' with e'; injection e' with e1 e2; exact ⟨e1, e2⟩
    have v8 : ∀ (c d : UInt8), ((c.toNat : Int) == (d.toNat : Int)) = (c == d) := fun c d => by
      by_cases h : c = d
      · subst h; simp
      · have : c.toNat ≠ d.toNat := fun e => h (UInt8.toNat.inj e)
        have e1 : (c == d) = false := by simp [h]
        rw [e1]
        simp; omega
    have q0 : ((c0.toNat : Int) == 48) = (c0 == 48) := v8 c0 48
    have q1 : ((c1.toNat : Int) == 120) = (c1 == 120) := v8 c1 120
    have q2 : ((c1.toNat : Int) == 88) = (c1 == 88) := v8 c1 88
    have hp : isPre (c0 :: c1 :: t) = (c0 == 48 && (c1 == 120 || c1 == 88)) := rfl
    have n1 : (2 : Int) ≤ (t.length : Int) + 1 + 1 := by omega
    have n2 : (2 : Int) ≤ ((c0 :: c1 :: t).length : Int) := by simp; omega
    obtain ⟨S, hS⟩ : ∃ S : ByteArray, S = ⟨(c0 :: c1 :: t).toArray⟩ := ⟨_, rfl⟩
    obtain ⟨m, hm⟩ : ∃ m, m = (c0 :: c1 :: t).length := ⟨_, rfl⟩
    rw [← hm] at hcv n2 ⊢
    rw [← hS] at hcv DEC HEX
    simp only [Nat.add_zero] at k0
    clear hcell e' v8 hS hm n1 hc
    rw [hp] at DEC HEX
    clear hp
    cases m0 : (c0 == 48)
    · rw [m0] at q0 DEC
      have D := Lib.hid (DEC rfl)
      clear DEC HEX m0 q1 q2
      go_enter Tryz.func19, Tryz.ntmps19
      go_wp2_with (go_at_call 24; refine D.out.mono ?_; rintro e w1 ⟨v, rfl, hb, h⟩; have HP := Lib.hid (And.intro hb h); clear hb h)
      go_ret
      exact ⟨v, rfl, HP.out.1, HP.out.2⟩
    · rw [m0] at q0 DEC HEX
      cases m1 : (c1 == 120)
      · rw [m1] at q1 DEC HEX
        cases m2 : (c1 == 88)
        · rw [m2] at q2 DEC
          have D := Lib.hid (DEC rfl)
          clear DEC HEX m0 m1 m2
          go_enter Tryz.func19, Tryz.ntmps19
          go_wp2_with (go_at_call 24; refine D.out.mono ?_; rintro e w1 ⟨v, rfl, hb, h⟩; have HP := Lib.hid (And.intro hb h); clear hb h)
          go_ret
          exact ⟨v, rfl, HP.out.1, HP.out.2⟩
        · rw [m2] at q2 HEX
          have D := Lib.hid (HEX rfl)
          clear DEC HEX m0 m1 m2
          go_enter Tryz.func19, Tryz.ntmps19
          go_wp2_with (go_at_call 33; refine D.out.mono ?_; rintro e w1 ⟨v, rfl, hb, h⟩; have HP := Lib.hid (And.intro hb h); clear hb h)
          go_ret
          exact ⟨v, rfl, HP.out.1, HP.out.2⟩
      · rw [m1] at q1 HEX
        have D := Lib.hid (HEX rfl)
        clear DEC HEX m0 m1 q2
        go_enter Tryz.func19, Tryz.ntmps19
        go_wp2_with (go_at_call 33; refine D.out.mono ?_; rintro e w1 ⟨v, rfl, hb, h⟩; have HP := Lib.hid (And.intro hb h); clear hb h)
        go_ret
        exact ⟨v, rfl, HP.out.1, HP.out.2⟩
theorem TxtW.decE {a ah : Nat → Addr} {w w' : World} (h : TxtW a ah w) (k : Below w.heap.size w w') (b : Nat) (hb : w.heap.size ≤ b) : DecE a b w' := h.dec.away k b hb
theorem TxtW.lt {a ah : Nat → Addr} {w : World} (h : TxtW a ah w) : 5 < w.heap.size := by
  have h1 := World.block_lt_of_cell? w _ h.hex.e1
  have h2 := World.block_lt_of_cell? w _ h.hex.e2
  have h3 := World.block_lt_of_cell? w _ h.hex.e3
  have h4 := World.block_lt_of_cell? w _ h.hex.e4
  have h5 := World.block_lt_of_cell? w _ h.hex.e5
  have h6 := World.block_lt_of_cell? w _ h.hex.e6
  simp only at h1 h2 h3 h4 h5 h6
  omega
set_option maxHeartbeats 2000000 in
theorem implReadText_any (a ah : Nat → Addr) (s : List UInt8) (w : World) (hE : TxtW a ah w) :
    Calls Tryz.prog 8 #[.string ⟨s.toArray⟩] w fun e w' => Below w.heap.size w w' ∧ ((TxtOk s ∧ e = .returned (.tuple #[(ofN (txtN s)).v, .bool true])) ∨ (¬ TxtOk s ∧ e = .returned (.tuple #[zeroR.v, .bool false]))) := by
  have hth := thereR_z w
  obtain ⟨v, w1, hcv, hs, hb1⟩ := conv_str ((w.alloc Z4R).alloc Z4I) s
  have hz := (z4_at (w.alloc Z4R)).bel hb1
  have hsz : (w.alloc Z4R).heap.size = w.heap.size + 1 := by simp
  rw [hsz] at hz
  have fz := (z4_free (w.alloc Z4R)).bel (by simp) hb1
  rw [hsz] at fz
  have bel1 : Below w.heap.size w w1 := bel_trans (bel_alloc (bel_alloc (bel_refl w) _) _) hb1
  have hth1 : w1.there w.heap.size 0 4 := thereR_bel (thereR_bel hth (by omega) (bel_alloc (bel_refl _) _)) (by omega) hb1
  have hlt : w.heap.size + 2 ≤ w1.heap.size := by have := hb1.size; simp at this; omega
  have UT := unmText_any a ah (w.heap.size + 1) _ s v w1 hz fz hs (hE.decE bel1 _ (by omega)) (hE.hex.bel bel1) (by have := hE.lt; omega)
  have BEL1 := Lib.hid bel1
  have hbB : ∀ w2, But [w.heap.size + 1] w1 w2 → Below w.heap.size w w2 := fun w2 h => h.bel bel1 (fun x hx => by simp at hx; omega)
  have hthB : ∀ w2, But [w.heap.size + 1] w1 w2 → w2.there w.heap.size 0 4 := fun w2 h j hj => by
    have k := hth1 j hj
    have hb : w2.heap[w.heap.size]? = w1.heap[w.heap.size]? := h.block _ (by omega) (by simp)
    unfold World.cell? World.frozen? at *
    simp only at k ⊢
    rw [hb]
    exact k
  have HBB := Lib.hid hbB
  have HTB := Lib.hid hthB
  clear hz fz hs hE bel1 hth1 hb1 hbB hthB hsz hth
  by_cases h0 : TxtOk s
  · have UT2 := Lib.hid (UT.mono fun e w' h => h.yes h0)
    have HOK := Lib.hid h0
    obtain ⟨x, hx⟩ : ∃ x, x = ofN (txtN s) := ⟨_, rfl⟩
    rw [← hx] at UT2
    have HX := Lib.hid hx
    clear UT h0 hx
    go_enter Tryz.func8, Tryz.ntmps8
    go_wp2_with fail
    refine UT2.out.mono ?_
    rintro e w2 ⟨rfl, hbut, h4⟩
    have HB2 := Lib.hid (HBB.out w2 hbut)
    have hth2 := HTB.out w2 hbut
    have H4 := Lib.hid h4
    clear hbut h4
    go_wp2_with fail
    refine (checkedR_ok _ 0 x _ H4.out).mono ?_
    rintro e w3 ⟨rfl, hb3⟩
    have hth3 := thereR_bel hth2 (by omega) hb3
    have HB3 := Lib.hid (bel_trans HB2.out hb3)
    clear hb3
    go_wp2_with (show wpList _ _ _ (⟨none, Op.store 24 _ _, _, _, _, _⟩ :: _) _ _; refine wpList_store_mid (op := ⟨none, Op.store 24 (.tmp 2) (.tmp 14), _, _, _, _⟩) rfl 24 _ _ rfl w.heap.size 0 [V x.a, V x.b, V x.c, V x.d].toArray rfl rfl hth3 (by kernel_rfl) (by simp [Value.oneCell']) ?_)
    refine bodyPost_ret (v := .tuple #[x.v, .bool true]) (resultsR_slot rfl _ _ w.heap.size [V x.a, V x.b, V x.c, V x.d] _ rfl (World.rangeAt_setCells_same _ _ 0 _ hth3) Tryz.underlying24 rfl (by kernel_rfl) rfl) rfl ⟨?_, .inl ⟨HOK.out, by rw [HX.out]⟩⟩
    exact setCellsR_bel HB3.out (Nat.le_refl _)
  · have UT2 := Lib.hid (UT.mono fun e w' h => h.no h0)
    have HOK := Lib.hid h0
    clear UT h0
    go_enter Tryz.func8, Tryz.ntmps8
    go_wp2_with fail
    refine UT2.out.mono ?_
    rintro e w2 ⟨hbut, t, u, rfl⟩
    have HB2 := Lib.hid (HBB.out w2 hbut)
    have hth2 := HTB.out w2 hbut
    clear hbut
    go_wp2_with fail
    refine (checkedR_bad _ t u _).mono ?_
    rintro e w3 ⟨rfl, hb3⟩
    have hth3 := thereR_bel hth2 (by omega) hb3
    have HB3 := Lib.hid (bel_trans HB2.out hb3)
    clear hb3
    go_wp2_with (show wpList _ _ _ (⟨none, Op.store 24 _ _, _, _, _, _⟩ :: _) _ _; refine wpList_store_mid (op := ⟨none, Op.store 24 (.tmp 2) (.tmp 14), _, _, _, _⟩) rfl 24 _ _ rfl w.heap.size 0 [V zeroR.a, V zeroR.b, V zeroR.c, V zeroR.d].toArray rfl rfl hth3 (by kernel_rfl) (by simp [Value.oneCell']) ?_)
    refine bodyPost_ret (v := .tuple #[zeroR.v, .bool false]) (resultsR_slot rfl _ _ w.heap.size [V zeroR.a, V zeroR.b, V zeroR.c, V zeroR.d] _ rfl (World.rangeAt_setCells_same _ _ 0 _ hth3) Tryz.underlying24 rfl (by kernel_rfl) rfl) rfl ⟨?_, .inr ⟨HOK.out, rfl⟩⟩
    exact setCellsR_bel HB3.out (Nat.le_refl _)
end Go.Proofs.YtfaocjcpnjmfiaaGreatDoor
