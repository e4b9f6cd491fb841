/-
  Plus, Times, Fits, Cut over long rows of digits (leading noughts of a text).
-/
import Derived.Test.YtfaocjcpnjmfiaaDoorDig6
namespace Go.Proofs.YtfaocjcpnjmfiaaDoor
open Go.RowKit
set_option linter.unusedVariables false
theorem plus_big (v u : Value) (a b L M : Nat) (w : World) (h : Dg w v a L) (k : Dg w u b M) (hL : L ≤ 400000) (hM : M ≤ 400000) :
    Calls Tryd.prog 16 #[v, u] w (RetDg (a + b) (max L M + 1) w) := by
  obtain ⟨l, h1, h2, rfl, h4⟩ := h
  obtain ⟨m, k1, k2, rfl, k4⟩ := k
  exact (plus_any v u l m w h1 k1 h2 k2 (by omega) (by omega)).mono fun e w' ⟨v, o, q1, q2, q3, q4, q5, q6⟩ => ⟨v, q1, ⟨o, q2.1, q3, q4, by omega⟩, q6⟩
theorem cut_big (v : Value) (n L : Nat) (w : World) (h : Dg w v n L) (hL : L ≤ 1000000) : Calls Tryd.prog 18 #[v] w (RetBel (ofN n).v w) := by
  obtain ⟨l, h1, h2, rfl, h4⟩ := h
  exact cut_any v l w h1 h2 (by omega)
theorem fits_big (v : Value) (n L : Nat) (w : World) (h : Dg w v n L) (hL : L ≤ 1000000) : Calls Tryd.prog 15 #[v] w fun e w' => e = .returned (.bool (decide (n < 2 ^ 256))) ∧ w = w' := by
  obtain ⟨l, h1, h2, rfl, h4⟩ := h
  exact fits_any v l w h1 h2 (by omega)
end Go.Proofs.YtfaocjcpnjmfiaaDoor
