/-
  Decimal digits, read: plain law.
-/
import Derived.Lib.AtoiAll
import Derived.Lib.ParseIntBCases
import Derived.Test.YtfaocjcpnjmfiaaDoorBase
set_option linter.unusedVariables false
namespace Go.Proofs.YtfaocjcpnjmfiaaDoor
open Go.Lib
/-- Decimal digits alone. -/
def Decs (l : List UInt8) : Prop := ∀ c ∈ l, 48 ≤ c.toNat ∧ c.toNat ≤ 57
instance (l : List UInt8) : Decidable (Decs l) := inferInstanceAs (Decidable (∀ c ∈ l, 48 ≤ c.toNat ∧ c.toNat ≤ 57))
/-- The worth of a row of decimal digits. -/
def dv (l : List UInt8) : Nat := l.foldl (fun a c => 10 * a + (c.toNat - 48)) 0
theorem dv_snoc (l : List UInt8) (c : UInt8) : dv (l ++ [c]) = 10 * dv l + (c.toNat - 48) := by unfold dv; rw [List.foldl_append]; rfl
theorem dv_nil : dv [] = 0 := rfl
theorem dv_from (l : List UInt8) : ∀ a : Nat, l.foldl (fun a c => 10 * a + (c.toNat - 48)) a = a * 10 ^ l.length + dv l := by
  induction l with
  | nil => intro a; simp [dv]
  | cons c l ih =>
    intro a
    unfold dv
    rw [List.foldl_cons, List.foldl_cons, ih, ih, List.length_cons, Nat.pow_succ]
    generalize dv l = h
    generalize 10 ^ l.length = p
    grind
theorem dv_append (l m : List UInt8) : dv (l ++ m) = dv l * 10 ^ m.length + dv m := by
  unfold dv
  rw [List.foldl_append, dv_from]
  rfl
theorem dv_cons (c : UInt8) (l : List UInt8) : dv (c :: l) = (c.toNat - 48) * 10 ^ l.length + dv l := by
  have := dv_append [c] l
  rw [show [c] ++ l = c :: l by rfl] at this
  rw [this]; simp [dv]
theorem dv_lt : ∀ (l : List UInt8), Decs l → dv l < 10 ^ l.length
  | [], _ => by simp [dv]
  | c :: l, h => by
    have h1 := dv_lt l (fun d hd => h d (List.mem_cons_of_mem _ hd))
    have h2 := h c (List.mem_cons_self)
    rw [dv_cons, List.length_cons, Nat.pow_succ]
    have : (c.toNat - 48) * 10 ^ l.length ≤ 9 * 10 ^ l.length := Nat.mul_le_mul_right _ (by omega)
    omega
theorem decs_append (l m : List UInt8) : Decs (l ++ m) ↔ Decs l ∧ Decs m :=
  ⟨fun h => ⟨fun c hc => h c (List.mem_append_left _ hc), fun c hc => h c (List.mem_append_right _ hc)⟩, fun h c hc => by
    rw [List.mem_append] at hc
    rcases hc with hc | hc
    · exact h.1 c hc
    · exact h.2 c hc⟩
/-- Leading noughts are worth nothing. -/
theorem dv_nought (l : List UInt8) : dv (48 :: l) = dv l := by rw [dv_cons]; simp
/-- A text without leading noughts; its last character stays. -/
def stripZ : List UInt8 → List UInt8
  | [] => []
  | [c] => [c]
  | c :: d :: l => if c = 48 then stripZ (d :: l) else c :: d :: l
theorem stripZ_dv : ∀ l : List UInt8, dv (stripZ l) = dv l
  | [] => rfl
  | [c] => rfl
  | c :: d :: l => by
    unfold stripZ
    by_cases h : c = 48
    · rw [if_pos h, stripZ_dv (d :: l), h, dv_nought]
    · rw [if_neg h]
theorem stripZ_decs : ∀ l : List UInt8, Decs (stripZ l) ↔ Decs l
  | [] => Iff.rfl
  | [c] => Iff.rfl
  | c :: d :: l => by
    unfold stripZ
    by_cases h : c = 48
    · rw [if_pos h, stripZ_decs (d :: l)]
      refine ⟨fun k x hx => ?_, fun k x hx => k x (List.mem_cons_of_mem _ hx)⟩
      rcases List.mem_cons.1 hx with rfl | hx
      · subst h; decide
      · exact k x hx
    · rw [if_neg h]
theorem stripZ_nil : ∀ l : List UInt8, stripZ l = [] ↔ l = []
  | [] => Iff.rfl
  | [c] => Iff.rfl
  | c :: d :: l => by
    unfold stripZ
    by_cases h : c = 48
    · rw [if_pos h, stripZ_nil (d :: l)]; simp
    · rw [if_neg h]
/-- It begins with no nought, but where it is one. -/
theorem stripZ_head : ∀ l : List UInt8, stripZ l = [] ∨ (stripZ l).length = 1 ∨ ∃ c m, stripZ l = c :: m ∧ c ≠ 48
  | [] => .inl rfl
  | [c] => .inr (.inl rfl)
  | c :: d :: l => by
    unfold stripZ
    by_cases h : c = 48
    · rw [if_pos h]; exact stripZ_head (d :: l)
    · rw [if_neg h]; exact .inr (.inr ⟨c, d :: l, rfl, h⟩)
/-- Digits that begin with none of the noughts are worth as much as their number says. -/
theorem dv_ge (c : UInt8) (m : List UInt8) (h : Decs (c :: m)) (hc : c ≠ 48) : 10 ^ m.length ≤ dv (c :: m) := by
  have h1 := h c List.mem_cons_self
  have h2 : c.toNat ≠ 48 := fun e => hc (UInt8.toNat.inj e)
  rw [dv_cons]
  have : 1 * 10 ^ m.length ≤ (c.toNat - 48) * 10 ^ m.length := Nat.mul_le_mul_right _ (by omega)
  omega
/-- The worth grows with each digit. -/
theorem dv_mono (l m : List UInt8) : dv l ≤ dv (l ++ m) := by
  rw [dv_append]
  have : 1 ≤ 10 ^ m.length := Nat.pow_pos (by omega)
  have := Nat.mul_le_mul_left (dv l) this
  omega
theorem parse19 : ∀ (l : List UInt8) (acc k : Nat), l.length + k = 19 → acc < 10 ^ k → (Decs l → parseUint10 acc l = .ok (acc * 10 ^ l.length + dv l)) ∧ (¬ Decs l → parseUint10 acc l = parseUint10 0 [45])
  | [], acc, k, hk, ha => ⟨fun _ => by simp [parseUint10, dv], fun h => absurd (fun c hc => by simp at hc) h⟩
  | c :: l, acc, k, hk, ha => by
    rw [List.length_cons] at hk
    have hp : 10 ^ k * 10 ≤ 10 ^ 19 := by rw [← Nat.pow_succ]; exact Nat.pow_le_pow_right (by omega) (by omega)
    have h18 : (10 : Nat) ^ 19 = 10000000000000000000 := by decide
    unfold parseUint10
    by_cases hc : 48 ≤ c.toNat ∧ c.toNat ≤ 57
    · rw [if_pos hc, if_neg (by omega), if_neg (by omega)]
      obtain ⟨i1, i2⟩ := parse19 l (acc * 10 + (c.toNat - 48)) (k + 1) (by omega) (by rw [Nat.pow_succ]; omega)
      refine ⟨fun h => ?_, fun h => i2 (fun hl => h (fun d hd => by
        rcases List.mem_cons.1 hd with rfl | hd
        · exact hc
        · exact hl d hd))⟩
      rw [i1 (fun d hd => h d (List.mem_cons_of_mem _ hd)), dv_cons, List.length_cons, Nat.pow_succ]
      congr 1
      generalize 10 ^ l.length = p
      generalize dv l = q
      grind
    · rw [if_neg hc]
      exact ⟨fun h => absurd (h c List.mem_cons_self) hc, fun _ => rfl⟩
/-- What ParseUint makes of a group of at most nineteen characters. -/
theorem parse_group (l : List UInt8) (h0 : l ≠ []) (hl : l.length ≤ 19) : (Decs l → parseUintB 64 l = .ok (dv l)) ∧ (¬ Decs l → parseUintB 64 l = parseUintB 64 [45]) := by
  rw [parseUintB_64]
  unfold parseMag
  rw [if_neg h0]
  obtain ⟨i1, i2⟩ := parse19 l 0 (19 - l.length) (by omega) (Nat.pow_pos (by omega))
  refine ⟨fun h => ?_, i2⟩
  rw [i1 h, Nat.zero_mul, Nat.zero_add]
end Go.Proofs.YtfaocjcpnjmfiaaDoor
