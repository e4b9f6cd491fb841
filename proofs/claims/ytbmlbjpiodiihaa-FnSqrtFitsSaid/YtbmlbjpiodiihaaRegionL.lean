/-
  A region with stores of long values: a block that holds a list of cells.
-/
import Derived.Test.YtbmlbjpiodiihaaRegion2
import Derived.Test.YtbmlbjpiodiihaaDeskG
namespace Go.Proofs.Ytbmlbjpiodiihaa
open Go.RowKit
set_option linter.unusedVariables false
/-- Block B holds the cells l, from its start. -/
structure AtL (w : World) (B : Nat) (l : List Value) : Prop where
  lt : B < w.heap.size
  cells : w.rangeAt B 0 l
theorem AtL.bel {a b : World} {B : Nat} {l : List Value} (h : AtL a B l) (k : Below a.heap.size a b) : AtL b B l := ⟨Nat.lt_of_lt_of_le h.lt k.size, rangeAt_bel h.cells k⟩
theorem AtL.setNew {w : World} {g : Nat} {l : List Value} (h : w.there g 0 l.length) (hl : 0 < l.length) : AtL (w.setCells g 0 l) g l := by
  refine ⟨?_, World.rangeAt_setCells_same w g 0 l h⟩
  rw [setCells_size]
  obtain ⟨v0, hv0⟩ := Option.isSome_iff_exists.1 (h 0 hl).1
  exact World.block_lt_of_cell? w _ hv0
theorem AtL.setFar4 {w : World} {b g k : Nat} {l cs : List Value} (h : AtL w b l) (hne : b ≠ g) : AtL (w.setCells g k cs) b l := ⟨by rw [setCells_size]; exact h.lt, rangeAt_far h.cells hne⟩
/-- The first number of an answer, and its flag. -/
theorem AtL.ansA {w : World} {B : Nat} {C : C4} {f : Bool} (h : AtL w B (C.l ++ [Value.bool f])) : At4 w B 0 C.a := ⟨h.cells 0 _ rfl, h.cells 1 _ rfl, h.cells 2 _ rfl, h.cells 3 _ rfl⟩
theorem AtL.ansF {w : World} {B : Nat} {C : C4} {f : Bool} (h : AtL w B (C.l ++ [Value.bool f])) : w.cell? ⟨B, 16, none⟩ = some (.bool f) := by
  have := h.cells 16 _ rfl
  simpa using this
theorem slot_ev {t : Array Value} {d : List Deferred} {i : Nat} {v : Value} (h : t[i]? = some v) : Act.eval ⟨t, d⟩ (.tmp i) = v := by
  simp [Act.eval, h]
theorem slot_eva {a : Act} {i : Nat} {v : Value} (h : a.tmps[i]? = some v) : a.eval (.tmp i) = v := by
  simp [Act.eval, h]
end Go.Proofs.Ytbmlbjpiodiihaa
