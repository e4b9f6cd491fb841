/-
  Contracts of uint256's Div and Mod, whatever places receiver and operands are.
-/
import Derived.Test.YtbgmeppidedfbaaDoorDiv5
namespace Go.Proofs.YtbgmeppidedfbaaDoor
open Go.RowKit
set_option linter.unusedVariables false
set_option linter.unusedSimpArgs false
set_option maxRecDepth 20000
theorem isU_toNat {x : N4} (h : x.isU = true) : x.toNat = x.a.toNat := by
  unfold N4.isU at h
  rw [beq_iff_eq] at h
  have h1 : x.b = 0#64 ∧ x.c = 0#64 ∧ x.d = 0#64 := by
    have hb : ∀ i, (x.b ||| x.c ||| x.d).getLsbD i = false := fun i => by rw [h]; simp
    refine ⟨?_, ?_, ?_⟩ <;> apply BitVec.eq_of_getLsbD_eq <;> intro i hi <;> have := hb i <;> simp only [BitVec.getLsbD_or, Bool.or_eq_false_iff] at this <;> simp [this]
  obtain ⟨h1, h2, h3⟩ := h1
  unfold N4.toNat
  rw [h1, h2, h3]
  simp
theorem small_toNat {x : N4} (h : x.toNat < 2 ^ 64) : x.toNat = x.a.toNat := by
  unfold N4.toNat at *
  omega
theorem ofN_small (n : Nat) (x : W64) (h : n = x.toNat) : ofN n = ⟨x, 0#64, 0#64, 0#64⟩ := by
  symm
  apply eq_ofN
  unfold N4.toNat
  have := x.isLt
  simp only [BitVec.toNat_ofNat]
  omega
theorem ofN_zero : ofN 0 = ⟨0#64, 0#64, 0#64, 0#64⟩ := ofN_small 0 0#64 rfl
theorem ofN_one : ofN 1 = ⟨1#64, 0#64, 0#64, 0#64⟩ := ofN_small 1 1#64 rfl
theorem ofN_self (x : N4) : ofN x.toNat = x := (eq_ofN (Nat.mod_eq_of_lt (toNat_lt x)).symm).symm
theorem n4_ofN {l : List W64} {n : Nat} (h : wseg l 0 4 = n) : n4 l = ofN n := by
  apply eq_ofN
  rw [n4_toNat, h]
  have := wseg_lt l 0 4
  rw [h] at this
  exact (Nat.mod_eq_of_lt this).symm
theorem Free4.alloc {a : World} {c o : Nat} (h : Free4 a c o) (hc : c < a.heap.size) (ob : Obj) : Free4 (a.alloc ob) c o := h.bel hc (bel_alloc (bel_refl a) ob)
theorem Left.of_drew (W : World) (m b o n : Nat) (z : N4) : Left W b o z ((put4 (W.drewN m) b o z).drewN n) := ⟨⟨rfl, rfl, rfl, Nat.le_refl _, fun _ _ => rfl⟩⟩
/-- A step from a world that has only new blocks. -/
theorem But.trans' {S : List Nat} {a b c : World} (h : But S a b) (k : But S b c) : But S a c := h.trans k
theorem sliceAll4 (b o : Nat) (w : World) : (Instr.sliceAt 59 (.pointer (some ⟨b, o, none⟩)) none none none).run Tryd.prog w = .ok (.slice (some ⟨b, o, none⟩) 4 4) w := by
  have hl : Tryd.prog.arrayLen 59 = 4 := by kernel_rfl
  rw [run_sliceAt_array_all w _ ⟨b, o, none⟩ (by kernel_rfl), hl]
  have hs : (sizeOf (Tryd.prog.elem 59)).run Tryd.prog w = .ok 1 w := by kernel_rfl
  rw [hs]
  simp [Result.andThen, slicedAt, Addr.add]
/-- The quotient alone: x by y, into a new number. -/
theorem udiv4 (bq c p d q : Nat) (x y : N4) (w : World) (hQ : RowW w bq 0 (List.replicate 4 0#64)) (hx : At4 w c p x) (fx : Free4 w c p) (hy : At4 w d q y) (n1 : bq ≠ c) (n2 : bq ≠ d) (hx0 : 0 < x.toNat) (hy0 : 0 < y.toNat) :
    Calls Tryd.prog 54 #[.slice (some ⟨bq, 0, none⟩) 4 4, .slice (some ⟨c, p, none⟩) 4 4, .pointer (some ⟨d, q, none⟩), .pointer none] w fun e w' => e = .returned (.tuple #[]) ∧ At4 w' bq 0 (ofN (x.toNat / y.toNat)) ∧ But [bq] w w' := by
  have h := udivrem_any bq 0 4 4 c p 4 4 d q none x.l4 y w hQ (RowW.of4 hx fx) hy rfl (by omega) (by omega) (by omega) (by omega) (by omega) n1 n2 (fun b o e => by cases e) hy0 (by rw [N4.wseg4]; exact hx0)
  refine h.mono ?_
  rintro e w' ⟨Q', he, h1, h2, h3, h4, h5⟩
  rw [N4.wseg4] at h2
  refine ⟨he, ?_, h5⟩
  rw [← n4_ofN h2]
  exact h3.at4 (by omega)
/-- Quotient and rest, each into a new number. -/
theorem udivrem4 (bq br c p d q : Nat) (x y : N4) (w : World) (hQ : RowW w bq 0 (List.replicate 4 0#64)) (hr : At4 w br 0 ⟨0#64, 0#64, 0#64, 0#64⟩) (fr : Free4 w br 0) (hx : At4 w c p x) (fx : Free4 w c p) (hy : At4 w d q y) (n1 : bq ≠ c) (n2 : bq ≠ d) (n3 : br ≠ bq) (n4' : br ≠ c) (n5 : br ≠ d) (hle : y.toNat ≤ x.toNat) (hy0 : 0 < y.toNat) :
    Calls Tryd.prog 54 #[.slice (some ⟨bq, 0, none⟩) 4 4, .slice (some ⟨c, p, none⟩) 4 4, .pointer (some ⟨d, q, none⟩), .pointer (some ⟨br, 0, none⟩)] w fun e w' => e = .returned (.tuple #[]) ∧ At4 w' bq 0 (ofN (x.toNat / y.toNat)) ∧ At4 w' br 0 (ofN (x.toNat % y.toNat)) ∧ But [bq, br] w w' := by
  have h := udivrem_any bq 0 4 4 c p 4 4 d q (some (br, 0)) x.l4 y w hQ (RowW.of4 hx fx) hy rfl (by omega) (by omega) (by omega) (by omega) (by omega) n1 n2 (fun b o e => by cases e; exact ⟨hr, fr, n3, n4', n5, by rw [N4.wseg4]; exact hle⟩) hy0 (by rw [N4.wseg4]; omega)
  refine h.mono ?_
  rintro e w' ⟨Q', he, h1, h2, h3, h4, h5⟩
  rw [N4.wseg4] at h2
  obtain ⟨r, r1, r2, r3⟩ := h4 br 0 rfl
  rw [N4.wseg4] at r3
  refine ⟨he, ?_, ?_, h5⟩
  · rw [← n4_ofN h2]
    exact h3.at4 (by omega)
  · rw [← r3, ofN_self]
    exact r1
end Go.Proofs.YtbgmeppidedfbaaDoor
