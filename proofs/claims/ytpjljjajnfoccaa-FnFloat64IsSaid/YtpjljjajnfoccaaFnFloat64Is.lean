/-
  For every number: where it is below 2^64, impl.Float64 gives the nearest number of 64 bits with a fraction, of two as near one of them (the statement FnFloat64IsSaid, no conditions).
-/
import Derived.Test.YtpjljjajnfoccaaOpen
import Derived.Test.YtpjljjajnfoccaaFlt
import Derived.Test.YtpjljjajnfoccaaImpl0
namespace Go.Proofs.Ytpjljjajnfoccaa.fnFloat64Is
open Go.ChangeShapes Go.WideShapes Go.ChangeAt Go.RowKit
set_option linter.unusedVariables false
set_option linter.unusedSimpArgs false

set_option maxHeartbeats 2000000 in
theorem walk (x : N4) (w : World) : Calls Try.prog 5 #[x.v] w (RetBel (.bool true) w) := by
  have hz2 : (x.b ||| x.c ||| x.d != 0#64) = !x.isU := rfl
  cases hu : x.isU
  · rw [hu] at hz2
    go_enter Try.func5, Try.ntmps5
    go_wp2
    go_ret
    exact retBel rfl (bel_alloc (bel_refl w) _)
  · rw [hu] at hz2
    have hlt : x.toNat < 2 ^ 64 := by rw [isU_toNat x hu]; exact x.a.isLt
    have FL : Hid (∀ w, Calls Try.prog 17 #[x.v] w fun e w' => ∃ lo hi, e = .returned (.tuple #[.float .f64 lo, .float .f64 hi]) ∧ ((FloatKind.f64.format.order (Fl.rep x.toNat) lo == some .eq) = true ∨ (FloatKind.f64.format.order (Fl.rep x.toNat) hi == some .eq) = true) ∧ Below w.heap.size w w') := fun w =>
      (floats_any x w hlt).mono fun e w' ⟨lo, hi, h1, h2, h3⟩ => ⟨Fl.rep lo, Fl.rep hi, h1, by
        rcases h2 with ⟨h2, h4⟩ | ⟨h2, h4⟩
        · left; rw [h2]; exact exact_order h4
        · right; rw [h2]; exact exact_order h4, h3⟩
    have IF : Hid (∀ w, Calls Try.prog 18 #[x.v] w (RetBel (.float .f64 (Fl.rep x.toNat)) w)) := fun w => implFloat64_any x w hu
    clear hlt hu
    generalize Fl.rep x.toNat = F at *
    go_enter Try.func5, Try.ntmps5
    go_wp2_with fail
    refine (FL.out _).mono ?_
    rintro e w1 ⟨lo, hi, rfl, hor, hb1⟩
    have kk := Keeps.of' (B := w.heap.size + 1) (by simp) hb1
    have b0 := fun o => kk.1 w.heap.size o (by omega)
    simp [go_sem] at b0
    have hs1 : w.heap.size + 1 ≤ w1.heap.size := by have := hb1.size; simp at this; omega
    have bel1 := bel_trans (bel_alloc (bel_refl w) _) hb1
    clear kk hb1
    have n0 := (b0 0).trans rfl
    have n1 := (b0 1).trans rfl
    have n2 := (b0 2).trans rfl
    have n3 := (b0 3).trans rfl
    clear b0
    go_wp2_with fail
    refine (IF.out _).mono ?_
    rintro e w2 ⟨rfl, hb2⟩
    have bel2 := bel_trans bel1 hb2
    clear n0 n1 n2 n3
    cases c1 : (FloatKind.f64.format.order F lo == some .eq)
    · have c2 : (FloatKind.f64.format.order F hi == some .eq) = true := by
        rcases hor with h | h
        · rw [c1] at h; cases h
        · exact h
      go_wp2
      go_ret
      exact retBel rfl bel2
    · go_wp2
      go_ret
      exact retBel rfl bel2

set_option maxRecDepth 100000 in
theorem lifted (os : Os) (started : os.Started) (H : Type) (enc : TypeId × Value → H) :
    ReturnsInHanded {} Try.checked os 5 .any (Rows.fnFloat64IsSpec.pre6 enc Try.prog Try.f5 Rows.fnFloat64IsRow.domain false) (Rows.fnFloat64IsSpec.post enc Try.prog Try.f5 false true false false) := by
  refine returnsInHanded_of_change (C := Try.checked) Try.own started (by kernel_rfl) Try.func5
    (ChangeSpec.witness6 (enc := enc) (C := Try.checked) false ⟨#[], #[.agg #[.int .u64 0, .int .u64 0, .int .u64 0, .int .u64 0]], []⟩ 8 (by kernel_rfl) (by kernel_rfl) (by kernel_rfl) (by kernel_rfl)) ?_
  intro W base args ds gs before hval0 hW hcnd _
  have hval : ∀ (j : Nat) t v, Try.f5.params[j]? = some t → args[j]? = some v → Value.okWide Try.prog W .any base t v := hval0
  have hW' := hW
  obtain ⟨p, q, hA0, hV, rfl, hfz, hnd⟩ := hW
  have hA : DataW.TrodAll enc Try.prog W 0 (fun _ => true) true Try.f5.params.toList args.toList ds p := hA0
  rw [Try.params5] at hA hval
  obtain ⟨v0, vs0, d0, ds0, p0, q0, hargs, rfl, rfl, h0, r0⟩ := trodAll_cons hA
  obtain ⟨rfl, rfl, rfl⟩ := trodAll_nil r0
  obtain rfl : args = #[v0] := by cases args; simp_all
  obtain ⟨rfl, rfl⟩ := trodVars_none hV
  have k0 := h0
  have lt0 : ∀ x ∈ p0, x.block < W.heap.size := by obtain ⟨m, hm⟩ := k0; exact DataW.trod_lt m _ _ _ hm
  obtain ⟨x0, rfl⟩ := open_num (hval 0 26 v0 rfl rfl)
  clear hA0 hval0
  refine (walk x0 W).mono fun e W' ⟨he, bel⟩ => ?_
  subst he
  exact ⟨_, rfl, _, _, _, [], _, [], hW', trodAll_mk1 (shut_bool Try.underlying4 _), (trodAll_cons_mk (Below.trod Try.laidOut (by kernel_rfl) (of_decide_eq_true (by kernel_rfl)) k0 bel lt0) trodAll_mk0), rfl, bel.frame _, fun h => by cases h⟩

theorem holds : Rows.FnFloat64IsSaid :=
  OpenClaim.holds_of_wide 5 Try.f5 rfl rfl rfl rfl rfl rfl rfl ⟨rfl, rfl, rfl, rfl, rfl⟩ rfl rfl rfl rfl rfl (by kernel_rfl) Try.func5 (by kernel_rfl)
    (of_decide_eq_true (by kernel_rfl)) (by unfold Func.isWrapper; first | (rw [if_pos (by decide +kernel)]; kernel_rfl) | (rw [if_neg (by decide +kernel)]; exact ⟨rfl, rfl⟩))
    (fun os started H enc _ => lifted os started H enc)
#print axioms holds
end Go.Proofs.Ytpjljjajnfoccaa.fnFloat64Is
