/-
  Frames whose slots are not written out: an array of temporaries of which a few are known.
-/
import Derived.Test.YtfaocjcpnjmfiaaGreatDoorBase
namespace Go.Proofs.YtfaocjcpnjmfiaaGreatDoor
open Go.RowKit
set_option linter.unusedVariables false
theorem frame_code {P : Program} {c : Code} {Q : Exit → Act → World → Prop} {t : Array Value} {d : List Deferred} {w : World} (S : Array Value → Prop) (h : S t) (k : ∀ t, S t → Code.wp P c Q ⟨t, d⟩ w) : Code.wp P c Q ⟨t, d⟩ w := k t h
theorem getD_set_same (t : Array Value) (d : Nat) (v : Value) (h : d < t.size) : (t.setIfInBounds d v).getD d undef = v := by
  simp [h]
theorem getD_set_other (t : Array Value) (d i : Nat) (v : Value) (h : d ≠ i) : (t.setIfInBounds d v).getD i undef = t.getD i undef := by
  simp [h]
theorem getElem?_set_same (t : Array Value) (d : Nat) (v : Value) (h : d < t.size) : (t.setIfInBounds d v)[d]? = some v := by
  simp [h]
theorem slot_same (t : Array Value) (d : Nat) (v : Value) (h : d < t.size) : (t.setIfInBounds d v)[d]? = some v := by
  simp [h]
theorem slot_other (t : Array Value) (d i : Nat) (v : Value) (h : d ≠ i) : (t.setIfInBounds d v)[i]? = t[i]? := by
  simp [h]
theorem slot_getD {t : Array Value} {i : Nat} {v : Value} (h : t[i]? = some v) : t.getD i undef = v := by
  simp [h]
theorem slot_eval {t : Array Value} {d : List Deferred} {i : Nat} {v : Value} (h : t[i]? = some v) : Act.eval ⟨t, d⟩ (.tmp i) = v := by
  simp [Act.eval, h]
end Go.Proofs.YtfaocjcpnjmfiaaGreatDoor
