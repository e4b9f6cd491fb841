/-
  Contracts of uint256's Div and Mod, whatever places receiver and operands are.
-/
import Derived.Test.YtfaocjcpnjmfiaaDoorDiv5
namespace Go.Proofs.YtfaocjcpnjmfiaaDoor
open Go.RowKit
set_option linter.unusedVariables false
set_option linter.unusedSimpArgs false
set_option maxRecDepth 20000
theorem isU_toNat {x : N4} (h : x.isU = true) : x.toNat = x.a.toNat := by
  unfold N4.isU at h
  rw [beq_iff_eq] at h
  have h1 : x.b = 0#64 ∧ x.c = 0#64 ∧ x.d = 0#64 := by
    have hb : ∀ i, (x.b ||| x.c ||| x.d).getLsbD i = false := fun i => by rw [h]; simp
    refine ⟨?_, ?_, ?_⟩ <;> apply BitVec.eq_of_getLsbD_eq <;> intro i hi <;> have := hb i <;> simp only [BitVec.getLsbD_or, Bool.or_eq_false_iff] at this <;> simp [this]
  obtain ⟨h1, h2, h3⟩ := h1
  unfold N4.toNat
  rw [h1, h2, h3]
  simp
theorem small_toNat {x : N4} (h : x.toNat < 2 ^ 64) : x.toNat = x.a.toNat := by
  unfold N4.toNat at *
  omega
theorem ofN_small (n : Nat) (x : W64) (h : n = x.toNat) : ofN n = ⟨x, 0#64, 0#64, 0#64⟩ := by
  symm
  apply eq_ofN
  unfold N4.toNat
  have := x.isLt
  simp only [BitVec.toNat_ofNat]
  omega
theorem ofN_zero : ofN 0 = ⟨0#64, 0#64, 0#64, 0#64⟩ := ofN_small 0 0#64 rfl
theorem ofN_one : ofN 1 = ⟨1#64, 0#64, 0#64, 0#64⟩ := ofN_small 1 1#64 rfl
theorem ofN_self (x : N4) : ofN x.toNat = x := (eq_ofN (Nat.mod_eq_of_lt (toNat_lt x)).symm).symm
theorem n4_ofN {l : List W64} {n : Nat} (h : wseg l 0 4 = n) : n4 l = ofN n := by
  apply eq_ofN
  rw [n4_toNat, h]
  have := wseg_lt l 0 4
  rw [h] at this
  exact (Nat.mod_eq_of_lt this).symm
theorem Free4.alloc {a : World} {c o : Nat} (h : Free4 a c o) (hc : c < a.heap.size) (ob : Obj) : Free4 (a.alloc ob) c o := h.bel hc (bel_alloc (bel_refl a) ob)
theorem Left.of_drew (W : World) (m b o n : Nat) (z : N4) : Left W b o z ((put4 (W.drewN m) b o z).drewN n) := ⟨⟨rfl, rfl, rfl, Nat.le_refl _, fun _ _ => rfl⟩⟩
/-- A step from a world that has only new blocks. -/
theorem But.trans' {S : List Nat} {a b c : World} (h : But S a b) (k : But S b c) : But S a c := h.trans k
end Go.Proofs.YtfaocjcpnjmfiaaDoor
