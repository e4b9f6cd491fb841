/-
  The contract of uint256's MulOverflow.
-/
import Derived.Test.YtbmlbjpiodiihaaUmul
import Derived.Test.YtbmlbjpiodiihaaMul
import Derived.Test.YtbmlbjpiodiihaaDiv8
import Derived.Laws.IdiomCopy
import Derived.BigQuiet
namespace Go.Proofs.Ytbmlbjpiodiihaa
open Go.RowKit
set_option linter.unusedVariables false
set_option linter.unusedSimpArgs false
set_option maxRecDepth 20000
/-- Whether the product is too large. -/
def N4.mulc (x y : N4) : Bool := decide (2 ^ 256 ≤ x.toNat * y.toNat)
theorem RowW.new8 (w : World) (t : TypeId) : RowW (w.alloc (.cells #[.int .u64 0, .int .u64 0, .int .u64 0, .int .u64 0, .int .u64 0, .int .u64 0, .int .u64 0, .int .u64 0] t)) w.heap.size 0 (List.replicate 8 0#64) := by
  constructor
  · intro i hi
    rw [wd_replicate]
    match i, hi with
    | 0, _ | 1, _ | 2, _ | 3, _ | 4, _ | 5, _ | 6, _ | 7, _ => simp [go_sem] <;> rfl
  · intro i hi
    simp [go_sem]
theorem low4 (P : List W64) (x y : N4) (hP : wseg P 0 8 = x.toNat * y.toNat) : (⟨wd P 0, wd P 1, wd P 2, wd P 3⟩ : N4) = x.mul y := by
  apply toNat_inj
  rw [mul_toNat, ← hP, wseg_split P 0 4 4]
  have e : (⟨wd P 0, wd P 1, wd P 2, wd P 3⟩ : N4).toNat = wseg P 0 4 := by
    rw [← N4.wseg4]
    exact wseg_congr (fun t ht => by match t, ht with | 0, _ | 1, _ | 2, _ | 3, _ => rfl)
  have h1 := wseg_lt P 0 4
  rw [e]
  generalize wseg P 0 4 = s at *
  generalize wseg P (0 + 4) 4 = t at *
  omega
theorem high4 (P : List W64) (x y : N4) (hP : wseg P 0 8 = x.toNat * y.toNat) : (((wd P 4 ||| wd P 5) ||| wd P 6) ||| wd P 7 != 0#64) = x.mulc y := by
  unfold N4.mulc
  rw [← hP, wseg_split P 0 4 4]
  have h1 := wseg_lt P 0 4
  have hz : wseg P (0 + 4) 4 = 0 ↔ (wd P 4 = 0#64 ∧ wd P 5 = 0#64 ∧ wd P 6 = 0#64 ∧ wd P 7 = 0#64) := by
    constructor
    · intro h
      have k := wseg_is_zero h
      exact ⟨k 0 (by omega), k 1 (by omega), k 2 (by omega), k 3 (by omega)⟩
    · rintro ⟨k0, k1, k2, k3⟩
      exact wseg_zero (fun t ht => by match t, ht with | 0, _ => exact k0 | 1, _ => exact k1 | 2, _ => exact k2 | 3, _ => exact k3)
  have ho : ∀ a b c d : W64, (((a ||| b) ||| c) ||| d = 0#64) ↔ (a = 0#64 ∧ b = 0#64 ∧ c = 0#64 ∧ d = 0#64) := fun a b c d => by
    simp only [BitVec.or_eq_zero_iff, and_assoc]
  rw [Bool.eq_iff_iff, bne_iff_ne, ne_eq, ho, ← hz, decide_eq_true_eq]
  generalize wseg P 0 4 = s at *
  generalize wseg P (0 + 4) 4 = t at *
  omega
theorem slice8 (b o : Nat) (w : World) : (Instr.sliceAt 102 (.pointer (some ⟨b, o, none⟩)) none (some (.int .i64 4)) none).run Try.prog w = .ok (.slice (some ⟨b, o, none⟩) 4 8) w := by
  have hl : Try.prog.arrayLen 102 = 8 := by kernel_rfl
  rw [run_sliceAt_array_h w _ ⟨b, o, none⟩ (by kernel_rfl) .i64 _ (by omega) (by rw [hl]; omega), hl]
  have hs : (sizeOf (Try.prog.elem 102)).run Try.prog w = .ok 1 w := by kernel_rfl
  rw [hs]
  simp [Result.andThen, slicedAt, Addr.add]
theorem copy4 {b o g : Nat} {z : N4} {P : List W64} {w : World} (h : RowW w g 0 P) (h8 : P.length = 8) (hz : At4 w b o z) (hf : Free4 w b o) :
    (Builtin.copy_ #[96, 96] 3 #[.slice (some ⟨b, o, none⟩) 4 4, .slice (some ⟨g, 0, none⟩) 4 8]).run Try.prog w = .ok (goInt 4) (put4 w b o ⟨wd P 0, wd P 1, wd P 2, wd P 3⟩) := by
  have k := run_copy_cells (P := Try.prog) w 96 96 3 24 b o 4 4 ⟨g, 0, none⟩ 4 8 [V (wd P 0), V (wd P 1), V (wd P 2), V (wd P 3)] (by kernel_rfl) (by kernel_rfl) rfl (fun j v hv => by
    have e : (⟨g, 0, none⟩ : Addr).add j = ⟨g, 0 + j, none⟩ := by simp only [Addr.add]; split <;> simp_all
    rw [e]
    have c0 := h.cell 0 (by omega)
    have c1 := h.cell 1 (by omega)
    have c2 := h.cell 2 (by omega)
    have c3 := h.cell 3 (by omega)
    match j, hv with
    | 0, hv => exact c0.trans hv
    | 1, hv => exact c1.trans hv
    | 2, hv => exact c2.trans hv
    | 3, hv => exact c3.trans hv
    | n + 4, hv => simp at hv)
    (fun j hj => by
      have hj' : j < 4 := hj
      match j, hj' with
      | 0, _ => exact (congrArg Option.isSome hz.c0).trans rfl
      | 1, _ => exact (congrArg Option.isSome hz.c1).trans rfl
      | 2, _ => exact (congrArg Option.isSome hz.c2).trans rfl
      | 3, _ => exact (congrArg Option.isSome hz.c3).trans rfl)
    (fun j hj => by
      have hj' : j < 4 := hj
      match j, hj' with
      | 0, _ => exact hf.f0
      | 1, _ => exact hf.f1
      | 2, _ => exact hf.f2
      | 3, _ => exact hf.f3)
    (fun v hv => by simp at hv; rcases hv with rfl | rfl | rfl | rfl <;> rfl)
  exact k
set_option maxHeartbeats 4000000 in
theorem mulOverflow_any (b o c p d q : Nat) (z x y : N4) (w : World) (hz : At4 w b o z) (fz : Free4 w b o) (hx : At4 w c p x) (hy : At4 w d q y) :
    Calls Try.prog 64 #[.pointer (some ⟨b, o, none⟩), .pointer (some ⟨c, p, none⟩), .pointer (some ⟨d, q, none⟩)] w fun e w' => e = .returned (.tuple #[.pointer (some ⟨b, o, none⟩), .bool (x.mulc y)]) ∧ Left w b o (x.mul y) w' := by
  have hb := hz.lt
  have hc := hx.lt
  have hd := hy.lt
  have Hz := Lib.hid hz
  have Hf := Lib.hid fz
  have Hx := Lib.hid hx
  have Hy := Lib.hid hy
  clear hz fz hx hy
  go_enter Try.func64, Try.ntmps64
  go_wp2_with fail
  refine (umul_any c p d q w.heap.size x y (List.replicate 8 0#64) _ (Hx.out.alloc _) (Hy.out.alloc _) (RowW.new8 _ _) (by simp) (by omega) (by omega)).mono ?_
  rintro e w2 ⟨P, rfl, h8, hP, hR, hB⟩
  have hB2 : But [w.heap.size] w w2 := ((But.refl [w.heap.size] w).alloc _).trans hB
  have hz2 := Hz.out.but hB2 (by simp; omega)
  have hf2 := Hf.out.but hb hB2 (by simp; omega)
  have HE1 := Lib.hid (low4 P x y hP)
  have HE2 := Lib.hid (high4 P x y hP)
  have HB2 : Hid (Below w.heap.size w w2.drew) := (hB2.drew).bel (bel_refl w) (by simp)
  have HR := Lib.hid hR
  have HZ2 := Lib.hid hz2
  have HF2 := Lib.hid hf2
  clear hB hB2 hP hR hz2 hf2
  have hs8 := fun w => slice8 w.heap.size 0 w
  have hs4 := fun w => sliceAll4 b o w
  go_wp2_with fail
  have HF2' : Free4 w2.drew b o := ⟨HF2.out.f0, HF2.out.f1, HF2.out.f2, HF2.out.f3⟩
  have hcp := copy4 (w := w2.drew) HR.out.drew h8 ⟨HZ2.out.c0, HZ2.out.c1, HZ2.out.c2, HZ2.out.c3⟩ HF2'
  go_region
  clear hcp hs8 hs4
  have HX3 := Lib.hid (HR.out.drew.put4_far (c := b) (p := o) (z := ⟨wd P 0, wd P 1, wd P 2, wd P 3⟩) (by omega))
  have r4 := HX3.out.cell 4 (by omega)
  have r5 := HX3.out.cell 5 (by omega)
  have r6 := HX3.out.cell 6 (by omega)
  have r7 := HX3.out.cell 7 (by omega)
  simp only [Nat.zero_add] at r4 r5 r6 r7
  have HLF : Hid (∀ n, Left w b o (x.mul y) ((put4 w2.drew b o ⟨wd P 0, wd P 1, wd P 2, wd P 3⟩).drewN n)) := fun n => by
    rw [HE1.out]
    exact Left.of_alloc (w1 := w2.drew) HB2.out hb
  clear HE1 HF2' HZ2 HF2
  generalize w.heap.size = g at *
  generalize put4 w2.drew b o ⟨wd P 0, wd P 1, wd P 2, wd P 3⟩ = W3 at *
  go_wp2_with fail
  go_quiet (fail)
  go_wp2_with fail
  go_ret2
  refine ⟨?_, HLF.out _⟩
  rw [← HE2.out]
  rfl
end Go.Proofs.Ytbmlbjpiodiihaa
