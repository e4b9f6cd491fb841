/-
  Whole numbers as lists of digits: slices that read as lists, the reference's at and Compare; the plain comparison of digits.
-/
import Derived.Test.YtfaocjcpnjmfiaaGreatDoorSpec0
namespace Go.Proofs.YtfaocjcpnjmfiaaGreatDoor
open Go.RowKit
set_option linter.unusedVariables false

/-- The value v is a slice of ints that reads as the list l of natural numbers. -/
def Sl (w : World) (v : Value) (l : List Nat) : Prop :=
  ∃ A cap, v = .slice A l.length cap ∧ l.length ≤ cap ∧ ∀ i d : Nat, l[i]? = some d → ∃ b o, A = some ⟨b, o, none⟩ ∧ w.cell? ⟨b, o + i, none⟩ = some (.int .i64 (d : Int))
theorem Sl.bel {w w' : World} {v : Value} {l : List Nat} (h : Sl w v l) (k : Below w.heap.size w w') : Sl w' v l := by
  obtain ⟨A, cap, e, hc, h⟩ := h
  exact ⟨A, cap, e, hc, fun i d hd => by obtain ⟨b, o, e1, h1⟩ := h i d hd; exact ⟨b, o, e1, bel_cell k h1⟩⟩
theorem Sl.drewN {w : World} {v : Value} {l : List Nat} (h : Sl w v l) (n : Nat) : Sl (w.drewN n) v l := h
def ints (l : List Nat) : List Value := l.map fun d : Nat => Value.int .i64 (d : Int)
theorem ints_get (l : List Nat) (i : Nat) (d : Nat) (h : l[i]? = some d) : (ints l)[i]? = some (.int .i64 (d : Int)) := by simp [ints, h]
theorem Sl.of_own {w : World} {base e : Nat} {v : Value} {l : List Nat} (h : w.ownsRow base e 1 v l.length (ints l)) : Sl w v l := by
  have h2 := h
  rcases h.2 with ⟨rfl, hn⟩ | ⟨g, cap, cur, rfl, _, _, hc, _⟩
  · have : l = [] := List.eq_nil_of_length_eq_zero hn
    subst this
    exact ⟨none, 0, rfl, Nat.le_refl _, fun i d hd => by simp at hd⟩
  · refine ⟨_, cap, rfl, hc, fun i d hd => ⟨g, 0, rfl, ?_⟩⟩
    have := h2.cells (g := g) rfl i _ (ints_get l i d hd)
    rw [Addr.add_mid] at this
    exact this
theorem Sl.nil (w : World) : Sl w (.slice none 0 0) [] := ⟨none, 0, rfl, Nat.le_refl _, fun i d hd => by simp at hd⟩

/-- A digit, 0 behind the end. -/
def dig (l : List Nat) (i : Nat) : Nat := l.getD i 0
theorem dig_lt {l : List Nat} (h : ∀ d ∈ l, d < 65536) (i : Nat) : dig l i < 65536 := by
  unfold dig
  rw [List.getD_eq_getElem?_getD]
  cases hi : l[i]? with
  | none => simp
  | some d => simpa using h d (List.mem_of_getElem? hi)
/-- Comparison of the digits below n, from the highest one down. -/
def cmpBelow (a b : List Nat) : Nat → Int
  | 0 => 0
  | n + 1 => if dig a n < dig b n then -1 else if dig b n < dig a n then 1 else cmpBelow a b n
end Go.Proofs.YtfaocjcpnjmfiaaGreatDoor
