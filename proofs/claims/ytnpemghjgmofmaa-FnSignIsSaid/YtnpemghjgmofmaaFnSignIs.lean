/-
  For every number: impl.Sign is -1, 0 or 1 of it as two's complement (the statement FnSignIsSaid, no conditions).
-/
import Derived.Test.YtnpemghjgmofmaaOpen
import Derived.Test.YtnpemghjgmofmaaSpec0
namespace Go.Proofs.Ytnpemghjgmofmaa.fnSignIs
open Go.ChangeShapes Go.WideShapes Go.ChangeAt Go.RowKit
set_option linter.unusedVariables false

set_option maxHeartbeats 1000000 in
theorem walk (x : N4) (w : World) : Calls Try.prog 4 #[x.v] w (RetBel (.bool true) w) := by
  have hz : x.eqb ⟨0#64, 0#64, 0#64, 0#64⟩ = x.isZ := eqb_zero x
  have hs := sign_eq x
  cases h1 : x.isZ
  · rw [h1, if_neg (by decide)] at hs
    rw [h1] at hz
    cases h2 : x.neg
    · rw [h2, if_neg (by decide)] at hs
      go_enter Try.func4, Try.ntmps4
      go_wp2_with fail
      refine (specBelow_any x _).mono ?_
      rintro e w1 ⟨rfl, hb⟩
      have hk := Keeps.of' (B := w.heap.size + 1) (by simp) hb
      go_wp2_with fail
      refine (implSign_any x _).mono ?_
      rintro e w2 ⟨rfl, hb2⟩
      go_wp2
      go_ret
      exact retBel rfl (bel_trans (bel_trans (bel_alloc (bel_refl w) _) hb) hb2)
    · rw [h2, if_pos rfl] at hs
      go_enter Try.func4, Try.ntmps4
      go_wp2_with fail
      refine (specBelow_any x _).mono ?_
      rintro e w1 ⟨rfl, hb⟩
      have hk := Keeps.of' (B := w.heap.size + 1) (by simp) hb
      go_wp2_with fail
      refine (implSign_any x _).mono ?_
      rintro e w2 ⟨rfl, hb2⟩
      go_wp2
      go_ret
      exact retBel rfl (bel_trans (bel_trans (bel_alloc (bel_refl w) _) hb) hb2)
  · rw [h1, if_pos rfl] at hs
    rw [h1] at hz
    go_enter Try.func4, Try.ntmps4
    go_wp2_with fail
    refine (implSign_any x _).mono ?_
    rintro e w2 ⟨rfl, hb2⟩
    go_wp2
    go_ret
    exact retBel rfl (bel_trans (bel_alloc (bel_refl w) _) hb2)

set_option maxRecDepth 100000 in
theorem lifted (os : Os) (started : os.Started) (H : Type) (enc : TypeId × Value → H) :
    ReturnsInHanded {} Try.checked os 4 .any (Rows.fnSignIsSpec.pre6 enc Try.prog Try.f4 Rows.fnSignIsRow.domain false) (Rows.fnSignIsSpec.post enc Try.prog Try.f4 false true false false) := by
  refine returnsInHanded_of_change (C := Try.checked) Try.own started (by kernel_rfl) Try.func4
    (ChangeSpec.witness6 (enc := enc) (C := Try.checked) false ⟨#[], #[.agg #[.int .u64 0, .int .u64 0, .int .u64 0, .int .u64 0]], []⟩ 8 (by kernel_rfl) (by kernel_rfl) (by kernel_rfl) (by kernel_rfl)) ?_
  intro W base args ds gs before hval0 hW hcnd _
  have hval : ∀ (j : Nat) t v, Try.f4.params[j]? = some t → args[j]? = some v → Value.okWide Try.prog W .any base t v := hval0
  have hW' := hW
  obtain ⟨p, q, hA0, hV, rfl, hfz, hnd⟩ := hW
  have hA : DataW.TrodAll enc Try.prog W 0 (fun _ => true) true Try.f4.params.toList args.toList ds p := hA0
  rw [Try.params4] at hA hval
  obtain ⟨v0, vs0, d0, ds0, p0, q0, hargs, rfl, rfl, h0, r0⟩ := trodAll_cons hA
  obtain ⟨rfl, rfl, rfl⟩ := trodAll_nil r0
  obtain rfl : args = #[v0] := by cases args; simp_all
  obtain ⟨rfl, rfl⟩ := trodVars_none hV
  have k0 := h0
  have lt0 : ∀ x ∈ p0, x.block < W.heap.size := by obtain ⟨m, hm⟩ := k0; exact DataW.trod_lt m _ _ _ hm
  obtain ⟨x0, rfl⟩ := open_num (hval 0 24 v0 rfl rfl)
  clear hA0 hval0
  refine (walk x0 W).mono fun e W' ⟨he, bel⟩ => ?_
  subst he
  exact ⟨_, rfl, _, _, _, [], _, [], hW', trodAll_mk1 (shut_bool Try.underlying4 _), (trodAll_cons_mk (Below.trod Try.laidOut (by kernel_rfl) (of_decide_eq_true (by kernel_rfl)) k0 bel lt0) trodAll_mk0), rfl, bel.frame _, fun h => by cases h⟩

theorem holds : Rows.FnSignIsSaid :=
  OpenClaim.holds_of_wide 4 Try.f4 rfl rfl rfl rfl rfl rfl rfl ⟨rfl, rfl, rfl, rfl, rfl⟩ rfl rfl rfl rfl rfl (by kernel_rfl) Try.func4 (by kernel_rfl)
    (of_decide_eq_true (by kernel_rfl)) (by unfold Func.isWrapper; first | (rw [if_pos (by decide +kernel)]; kernel_rfl) | (rw [if_neg (by decide +kernel)]; exact ⟨rfl, rfl⟩))
    (fun os started H enc _ => lifted os started H enc)
#print axioms holds
end Go.Proofs.Ytnpemghjgmofmaa.fnSignIs
