/-
  For every number: impl.IsZero tells whether it is 0, impl.IsUint64 whether it is below 2^64 (the statement FnIsZeroIsSaid, no conditions).
-/
import Derived.Test.YtnpemghjgmofmaaOpen
import Derived.Test.YtnpemghjgmofmaaImpl0
import Derived.Test.YtnpemghjgmofmaaEql
namespace Go.Proofs.Ytnpemghjgmofmaa.fnIsZeroIs
open Go.ChangeShapes Go.WideShapes Go.ChangeAt Go.RowKit
set_option linter.unusedVariables false

set_option maxHeartbeats 1000000 in
theorem walk (x : N4) (w : World) : Calls Try.prog 3 #[x.v] w (RetBel (.bool true) w) := by
  have hz : x.eqb ⟨0#64, 0#64, 0#64, 0#64⟩ = x.isZ := eqb_zero x
  have hz2 : (x.b ||| x.c ||| x.d == 0#64) = x.isU := rfl
  go_enter Try.func3, Try.ntmps3
  go_wp2
  go_region_held3 (Keeps (w.heap.size + 1) (w.alloc (Obj.cells #[V x.a, V x.b, V x.c, V x.d] 24))) (first | exact Keeps.start _ _ | exact Keeps.step (by assumption) (by simp) hb)
    (first | (go_at_call 15; refine (implIsZero_any x _).mono ?_; rintro e w1 ⟨rfl, hb⟩) | (go_at_call 16; refine (implIsUint64_any x _).mono ?_; rintro e w1 ⟨rfl, hb⟩))
  go_wp2
  go_ret
  exact retBel rfl ((‹Keeps _ _ _›).bel (by omega) (bel_alloc (bel_refl w) _))

set_option maxRecDepth 100000 in
theorem lifted (os : Os) (started : os.Started) (H : Type) (enc : TypeId × Value → H) :
    ReturnsInHanded {} Try.checked os 3 .any (Rows.fnIsZeroIsSpec.pre6 enc Try.prog Try.f3 Rows.fnIsZeroIsRow.domain false) (Rows.fnIsZeroIsSpec.post enc Try.prog Try.f3 false true false false) := by
  refine returnsInHanded_of_change (C := Try.checked) Try.own started (by kernel_rfl) Try.func3
    (ChangeSpec.witness6 (enc := enc) (C := Try.checked) false ⟨#[], #[.agg #[.int .u64 0, .int .u64 0, .int .u64 0, .int .u64 0]], []⟩ 8 (by kernel_rfl) (by kernel_rfl) (by kernel_rfl) (by kernel_rfl)) ?_
  intro W base args ds gs before hval0 hW hcnd _
  have hval : ∀ (j : Nat) t v, Try.f3.params[j]? = some t → args[j]? = some v → Value.okWide Try.prog W .any base t v := hval0
  have hW' := hW
  obtain ⟨p, q, hA0, hV, rfl, hfz, hnd⟩ := hW
  have hA : DataW.TrodAll enc Try.prog W 0 (fun _ => true) true Try.f3.params.toList args.toList ds p := hA0
  rw [Try.params3] at hA hval
  obtain ⟨v0, vs0, d0, ds0, p0, q0, hargs, rfl, rfl, h0, r0⟩ := trodAll_cons hA
  obtain ⟨rfl, rfl, rfl⟩ := trodAll_nil r0
  obtain rfl : args = #[v0] := by cases args; simp_all
  obtain ⟨rfl, rfl⟩ := trodVars_none hV
  have k0 := h0
  have lt0 : ∀ x ∈ p0, x.block < W.heap.size := by obtain ⟨m, hm⟩ := k0; exact DataW.trod_lt m _ _ _ hm
  obtain ⟨x0, rfl⟩ := open_num (hval 0 24 v0 rfl rfl)
  clear hA0 hval0
  refine (walk x0 W).mono fun e W' ⟨he, bel⟩ => ?_
  subst he
  exact ⟨_, rfl, _, _, _, [], _, [], hW', trodAll_mk1 (shut_bool Try.underlying4 _), (trodAll_cons_mk (Below.trod Try.laidOut (by kernel_rfl) (of_decide_eq_true (by kernel_rfl)) k0 bel lt0) trodAll_mk0), rfl, bel.frame _, fun h => by cases h⟩

theorem holds : Rows.FnIsZeroIsSaid :=
  OpenClaim.holds_of_wide 3 Try.f3 rfl rfl rfl rfl rfl rfl rfl ⟨rfl, rfl, rfl, rfl, rfl⟩ rfl rfl rfl rfl rfl (by kernel_rfl) Try.func3 (by kernel_rfl)
    (of_decide_eq_true (by kernel_rfl)) (by unfold Func.isWrapper; first | (rw [if_pos (by decide +kernel)]; kernel_rfl) | (rw [if_neg (by decide +kernel)]; exact ⟨rfl, rfl⟩))
    (fun os started H enc _ => lifted os started H enc)
#print axioms holds
end Go.Proofs.Ytnpemghjgmofmaa.fnIsZeroIs
