/-
  A drawn region walked by hand in the text's order: operations that yield, operations whose guard is false, calls.
-/
import Derived.Test.YtfaocjcpnjmfiaaGreatDoorBase
namespace Go.Proofs.YtfaocjcpnjmfiaaGreatDoor
open Go.RowKit
set_option linter.unusedVariables false
section
variable {P : Program} {ops : Array Oper} {Q : Exit → Act → World → Prop} {md : Region.Mode} {S : World → Prop}
theorem of_list {i : Nat} {oi : Oper} (h : ops.toList[i]? = some oi) : ops[i]? = some oi := by simpa using h
theorem hm_take {i d : Nat} {oi : Oper} {v : Value} {fuel : Nat} {listed : Array Bool} {a : Act} {w : World} (hi : ops.toList[i]? = some oi) (hd : oi.dst = some d)
    (hs : Region.noSelect ops = true) (hf : Region.free md ops listed i = true) (hr : (Region.ready md ops listed).contains i = true)
    (hQ : ∀ c a w, Q (.panic c) (a.put (some d) v) w → Q (.panic c) a w) (hw : Region.wanted oi (yielded ops a.tmps) = true) (hy : ∀ w, S w → (execOp a.eval oi).run P w = .ok (.value v) w) (hS : S w)
    (h : wpAnyH P md ops Q S fuel (listed.setIfInBounds i true) (a.put (some d) v) w) : wpAnyH P md ops Q S (fuel + 1) listed a w :=
  wpAnyH_take (of_list hi) hs hf hr (by rw [hd]; exact hQ) (.inl ⟨hw, hy⟩) hS (by rw [hd]; exact h)
theorem hm_skip {i d : Nat} {oi : Oper} {fuel : Nat} {listed : Array Bool} {a : Act} {w : World} (hi : ops.toList[i]? = some oi) (hd : oi.dst = some d)
    (hs : Region.noSelect ops = true) (hf : Region.free md ops listed i = true) (hr : (Region.ready md ops listed).contains i = true)
    (hQ : ∀ c a w, Q (.panic c) (a.put (some d) undef) w → Q (.panic c) a w) (hw : Region.wanted oi (yielded ops a.tmps) = false) (hS : S w)
    (h : wpAnyH P md ops Q S fuel (listed.setIfInBounds i true) (a.put (some d) undef) w) : wpAnyH P md ops Q S (fuel + 1) listed a w :=
  wpAnyH_take (of_list hi) hs hf hr (by rw [hd]; exact hQ) (.inr ⟨hw, rfl⟩) hS (by rw [hd]; exact h)
theorem hm_call {i : Nat} {oi : Oper} {fuel : Nat} {listed : Array Bool} {a : Act} {w : World} (hi : ops.toList[i]? = some oi) (hr : Region.ready md ops listed = [i]) (hw : Region.wanted oi (yielded ops a.tmps) = true)
    (h : ∀ K' : Act → World → Prop, Shut (∀ a w, S w → (S w → wpAnyH P md ops Q S fuel (listed.setIfInBounds i true) a w) → K' a w) → Oper.wp P oi a w K' Q) : wpAnyH P md ops Q S (fuel + 1) listed a w :=
  wpAnyH_ready hr (by simp) (AllReadyH.cons (of_list hi) (fun K' hK => by rw [if_pos hw]; exact h K' hK) AllReadyH.nil)
end
end Go.Proofs.YtfaocjcpnjmfiaaGreatDoor
