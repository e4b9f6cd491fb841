/-
  The reference's Sub, Neg, Below, Abs, by worth.
-/
import Derived.Test.YtpjljjajnfoccaaDig5
namespace Go.Proofs.Ytpjljjajnfoccaa
open Go.RowKit
set_option linter.unusedVariables false
theorem arrayN13 {l : Array Value} (h : l.size = 13) : ∃ x0 x1 x2 x3 x4 x5 x6 x7 x8 x9 x10 x11 x12, l = #[x0, x1, x2, x3, x4, x5, x6, x7, x8, x9, x10, x11, x12] := by
  obtain ⟨l⟩ := l
  have h0 : l.length = 12 + 1 := h
  clear h
  obtain ⟨x0, l1, rfl, h1⟩ := cons_of h0
  obtain ⟨x1, l2, rfl, h2⟩ := cons_of h1
  obtain ⟨x2, l3, rfl, h3⟩ := cons_of h2
  obtain ⟨x3, l4, rfl, h4⟩ := cons_of h3
  obtain ⟨x4, l5, rfl, h5⟩ := cons_of h4
  obtain ⟨x5, l6, rfl, h6⟩ := cons_of h5
  obtain ⟨x6, l7, rfl, h7⟩ := cons_of h6
  obtain ⟨x7, l8, rfl, h8⟩ := cons_of h7
  obtain ⟨x8, l9, rfl, h9⟩ := cons_of h8
  obtain ⟨x9, l10, rfl, h10⟩ := cons_of h9
  obtain ⟨x10, l11, rfl, h11⟩ := cons_of h10
  obtain ⟨x11, l12, rfl, h12⟩ := cons_of h11
  obtain ⟨x12, l13, rfl, h13⟩ := cons_of h12
  cases l13 with
  | nil => exact ⟨x0, x1, x2, x3, x4, x5, x6, x7, x8, x9, x10, x11, x12, rfl⟩
  | cons a t => simp at h13
theorem nul_toNat : N4.toNat ⟨0#64, 0#64, 0#64, 0#64⟩ = 0 := rfl
/-- Without the sign. -/
def absN (x : N4) : N4 := if x.neg then ofN (2 ^ 256 - x.toNat) else x
end Go.Proofs.Ytpjljjajnfoccaa
