/-
  The reference's Plus, by what its digits are worth.
-/
import Derived.Test.YtfaocjcpnjmfiaaGreatDoorVal
namespace Go.Proofs.YtfaocjcpnjmfiaaGreatDoor
open Go.RowKit
set_option linter.unusedVariables false
/-- What v leads to lies from block base on. -/
def From (base : Nat) (v : Value) : Prop := ∀ k, v.ownBlock = some k → base ≤ k
theorem From.of_own {w : World} {base e n : Nat} {v : Value} {xs : List Value} (h : w.ownsRow base e 1 v n xs) : From base v := fun k hk => (h.lt k hk).1
/-- A new slice of digits that is worth n, of at most L digits. -/
def RetVal (n L : Nat) (w : World) (e : Ending) (w' : World) : Prop := ∃ v l, e = .returned v ∧ (Sl w' v l ∧ From w.heap.size v) ∧ Digits l ∧ val l = n ∧ l.length ≤ L ∧ Below w.heap.size w w'
theorem ints_snoc (l : List Nat) (d : Nat) : ints (l ++ [d]) = ints l ++ [.int .i64 (d : Int)] := by simp [ints]
theorem Digits.snoc {l : List Nat} (h : Digits l) {d : Nat} (hd : d < 65536) : Digits (l ++ [d]) := by
  intro x hx
  simp at hx
  rcases hx with hx | rfl
  · exact h x hx
  · exact hd
theorem dig_snoc_lt {l : List Nat} {d i : Nat} (h : i < l.length) : dig (l ++ [d]) i = dig l i := by
  unfold dig; rw [List.getD_eq_getElem?_getD, List.getD_eq_getElem?_getD, List.getElem?_append_left h]
theorem dig_snoc_eq {l : List Nat} {d : Nat} : dig (l ++ [d]) l.length = d := by
  unfold dig; rw [List.getD_eq_getElem?_getD]; simp
theorem vlow_snoc {l : List Nat} {d n : Nat} (h : n ≤ l.length) : vlow (l ++ [d]) n = vlow l n := by
  induction n with
  | zero => rfl
  | succ n ih => rw [vlow, vlow, ih (by omega), dig_snoc_lt (by omega)]
theorem val_snoc (l : List Nat) (d : Nat) : val (l ++ [d]) = val l + 65536 ^ l.length * d := by
  unfold val
  rw [show (l ++ [d]).length = l.length + 1 by simp, vlow, vlow_snoc (Nat.le_refl _), dig_snoc_eq]
end Go.Proofs.YtfaocjcpnjmfiaaGreatDoor
