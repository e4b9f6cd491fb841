/-
  Digits of sixteen, read: plain law.
-/
import Derived.Test.YtfaocjcpnjmfiaaGreatDoorBase
set_option linter.unusedVariables false
namespace Go.Proofs.YtfaocjcpnjmfiaaGreatDoor
/-- The worth of a digit of sixteen; 255 of what is none. -/
def nibOf (c : UInt8) : Nat := if 48 ≤ c.toNat ∧ c.toNat ≤ 57 then c.toNat - 48 else if 97 ≤ c.toNat ∧ c.toNat ≤ 102 then c.toNat - 87 else if 65 ≤ c.toNat ∧ c.toNat ≤ 70 then c.toNat - 55 else 255
theorem nibOf_two (c : UInt8) : nibOf c < 16 ∨ nibOf c = 255 := by unfold nibOf; split; omega; split; omega; split; omega; exact .inr rfl
/-- The worth of a row of digits. -/
def hv (l : List UInt8) : Nat := l.foldl (fun a c => 16 * a + nibOf c) 0
def Nibs (l : List UInt8) : Prop := ∀ c ∈ l, nibOf c < 16
theorem hv_snoc (l : List UInt8) (c : UInt8) : hv (l ++ [c]) = 16 * hv l + nibOf c := by unfold hv; rw [List.foldl_append]; rfl
theorem hv_nil : hv [] = 0 := rfl
theorem Nibs.snoc {l : List UInt8} {c : UInt8} (h : Nibs l) (hc : nibOf c < 16) : Nibs (l ++ [c]) := by
  intro d hd
  rw [List.mem_append] at hd
  rcases hd with hd | hd
  · exact h d hd
  · simp at hd; rw [hd]; exact hc
theorem Nibs.nil : Nibs [] := fun c hc => by simp at hc
theorem Nibs.append {l m : List UInt8} (h : Nibs l) (k : Nibs m) : Nibs (l ++ m) := fun c hc => by
  rw [List.mem_append] at hc
  rcases hc with hc | hc
  · exact h c hc
  · exact k c hc
theorem hv_from (l : List UInt8) : ∀ a : Nat, l.foldl (fun a c => 16 * a + nibOf c) a = a * 16 ^ l.length + hv l := by
  induction l with
  | nil => intro a; simp [hv]
  | cons c l ih =>
    intro a
    unfold hv
    rw [List.foldl_cons, List.foldl_cons, ih, ih, List.length_cons, Nat.pow_succ]
    generalize hv l = h
    generalize 16 ^ l.length = p
    grind
theorem hv_append (l m : List UInt8) : hv (l ++ m) = hv l * 16 ^ m.length + hv m := by
  unfold hv
  rw [List.foldl_append, hv_from]
  rfl
theorem hv_lt : ∀ (l : List UInt8), Nibs l → hv l < 16 ^ l.length
  | [], _ => by simp [hv]
  | c :: l, h => by
    have h1 := hv_lt l (fun d hd => h d (List.mem_cons_of_mem _ hd))
    have h2 := h c (List.mem_cons_self)
    have e : hv (c :: l) = nibOf c * 16 ^ l.length + hv l := by
      have := hv_append [c] l
      rw [show [c] ++ l = c :: l by rfl] at this
      rw [this]; simp [hv]
    rw [e, List.length_cons, Nat.pow_succ]
    have : nibOf c * 16 ^ l.length ≤ 15 * 16 ^ l.length := Nat.mul_le_mul_right _ (by omega)
    omega
/-- Whether a text begins with 0x or 0X. -/
def isPre (s : List UInt8) : Bool := match s with
  | c0 :: c1 :: _ => c0 == 48 && (c1 == 120 || c1 == 88)
  | _ => false
instance (l : List UInt8) : Decidable (Nibs l) := inferInstanceAs (Decidable (∀ c ∈ l, nibOf c < 16))
/-- The one fault that the package tells of a text (0: none). -/
def hexFault (s : List UInt8) : Nat :=
  if s = [] then 1 else if isPre s = false then 3 else if s.length = 2 then 4 else if 3 < s.length ∧ s[2]? = some 48 then 5 else if 66 < s.length then 6 else if Nibs (s.drop 2) then 0 else 2
end Go.Proofs.YtfaocjcpnjmfiaaGreatDoor
