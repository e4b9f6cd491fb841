/-
  Contracts of uint256's SDiv, SMod and DivMod, whatever places receivers and operands are.
-/
import Derived.Test.YtpjljjajnfoccaaDiv7
namespace Go.Proofs.Ytpjljjajnfoccaa
open Go.RowKit
set_option linter.unusedVariables false
set_option linter.unusedSimpArgs false
set_option maxRecDepth 20000
/-! ### what two writes leave -/
theorem put4_block {A B : World} {b o k : Nat} {z : N4} (h : B.heap[k]? = A.heap[k]?) : (put4 B b o z).heap[k]? = (put4 A b o z).heap[k]? := by
  unfold put4 World.setCell
  simp only [Array.getElem?_modify, h]
theorem put4_other {A : World} {b o k : Nat} {z : N4} (h : k ≠ b) : (put4 A b o z).heap[k]? = A.heap[k]? := by
  unfold put4
  rw [Below.heap_setCell _ _ _ _ h, Below.heap_setCell _ _ _ _ h, Below.heap_setCell _ _ _ _ h, Below.heap_setCell _ _ _ _ h]
theorem Left.size {W w' : World} {b o : Nat} {z : N4} (h : Left W b o z w') : W.heap.size ≤ w'.heap.size := by have := h.bel.size; rw [put4_size] at this; exact this
theorem Left.at4 {W w' : World} {b o : Nat} {z y : N4} (h : Left W b o z w') (hz : At4 W b o y) : At4 w' b o z :=
  (put4_at W b o z y hz).bel (by rw [put4_size]; exact h.bel)
theorem Left.free {W w' : World} {b o c p : Nat} {z : N4} (h : Left W b o z w') (hf : Free4 W c p) (hc : c < W.heap.size) : Free4 w' c p :=
  (hf.put (b := b) (o := o) z).bel (by rw [put4_size]; exact hc) (by rw [put4_size]; exact h.bel)
theorem Left.far {W w' : World} {b o c p : Nat} {z x : N4} (h : Left W b o z w') (hx : At4 W c p x) (hne : c ≠ b) : At4 w' c p x :=
  (put4_far (z := z) hx (fun e => absurd e hne)).bel (by rw [put4_size]; exact h.bel)
/-- A second write into the same place. -/
theorem Left.again {W W1 w' : World} {b o : Nat} {z y : N4} (h : Left W b o z W1) (k : Left W1 b o y w') : Left W b o y w' := by
  refine ⟨⟨k.bel.os.trans h.bel.os, k.bel.tape.trans h.bel.tape, k.bel.output.trans h.bel.output, ?_, fun i hi => ?_⟩⟩
  · rw [put4_size]; exact Nat.le_trans h.size k.size
  · rw [k.bel.block i (Nat.lt_of_lt_of_le hi h.size), put4_block (h.bel.block i hi), put4_put4]
/-- A write behind new blocks. -/
theorem Left.behind {W W1 w' : World} {b o : Nat} {z : N4} (h : Below W.heap.size W W1) (k : Left W1 b o z w') : Left W b o z w' := by
  refine ⟨⟨k.bel.os.trans h.os, k.bel.tape.trans h.tape, k.bel.output.trans h.output, ?_, fun i hi => ?_⟩⟩
  · rw [put4_size]; exact Nat.le_trans h.size k.size
  · rw [k.bel.block i (Nat.lt_of_lt_of_le hi h.size), put4_block (h.block i hi)]
/-- A write into a new block: memory has only grown. -/
theorem Left.grown {W W1 w' : World} {b o : Nat} {z : N4} (h : Below W.heap.size W W1) (k : Left W1 b o z w') (hb : W.heap.size ≤ b) : Below W.heap.size W w' := by
  refine ⟨k.bel.os.trans h.os, k.bel.tape.trans h.tape, k.bel.output.trans h.output, Nat.le_trans h.size k.size, fun i hi => ?_⟩
  rw [k.bel.block i (Nat.lt_of_lt_of_le hi h.size), put4_other (by omega), h.block i hi]
theorem Left.drewN {W w' : World} {b o : Nat} {z : N4} (h : Left W b o z w') (n : Nat) : Left W b o z (w'.drewN n) := ⟨⟨h.bel.os, h.bel.tape, h.bel.output, h.bel.size, h.bel.block⟩⟩
theorem new0_at (w : World) (t : TypeId) : At4 (w.alloc (.cells #[.int .u64 0, .int .u64 0, .int .u64 0, .int .u64 0] t)) w.heap.size 0 ⟨0#64, 0#64, 0#64, 0#64⟩ := by
  constructor <;> simp [go_sem] <;> rfl
theorem new0_free (w : World) (t : TypeId) : Free4 (w.alloc (.cells #[.int .u64 0, .int .u64 0, .int .u64 0, .int .u64 0] t)) w.heap.size 0 := by
  constructor <;> simp [go_sem]
end Go.Proofs.Ytpjljjajnfoccaa
