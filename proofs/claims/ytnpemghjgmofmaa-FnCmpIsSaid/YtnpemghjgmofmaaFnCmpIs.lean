/-
  For every two numbers: impl.Cmp is -1, 0 or 1 as the reference compares them (the statement FnCmpIsSaid, no conditions).
-/
import Derived.Test.YtnpemghjgmofmaaOpen
import Derived.Test.YtnpemghjgmofmaaImpl0
import Derived.Test.YtnpemghjgmofmaaVal
namespace Go.Proofs.Ytnpemghjgmofmaa.fnCmpIs
open Go.ChangeShapes Go.WideShapes Go.ChangeAt Go.RowKit
set_option linter.unusedVariables false

set_option maxHeartbeats 1000000 in
theorem walk (x y : N4) (w : World) : Calls Try.prog 5 #[x.v, y.v] w (RetBel (.bool true) w) := by
  have hc := cmp_digs x y
  go_enter Try.func5, Try.ntmps5
  go_wp2
  go_region_held3 (Keeps (w.heap.size + 2) ((w.alloc (Obj.cells #[V x.a, V x.b, V x.c, V x.d] 24)).alloc (Obj.cells #[V y.a, V y.b, V y.c, V y.d] 24))) (first | exact Keeps.start _ _ | assumption | exact Keeps.step (by assumption) (by simp) hb2 | exact Keeps.step (by assumption) (by simp) hb)
    (first | (go_at_call 19; refine (implCmp_any x y _).mono ?_; rintro e w1 ⟨rfl, hb⟩) | (go_at_call 21; (first | (((with_reducible refine (whole_any x _).mono ?_); rintro e w1 ⟨v1, rfl, s1, hb⟩)) | (((with_reducible refine (whole_any y _).mono ?_); rintro e w1 ⟨v2, rfl, s2, hb2⟩)))) | (go_at_call 20; refine (compare_any _ _ (N4.digs x) (N4.digs y) _ (s1.bel hb2) s2 (by rw [digs_len]; omega) (by rw [digs_len]; omega)).mono ?_; rintro e w1 ⟨rfl, rfl⟩))
  go_wp2
  go_ret
  exact retBel rfl ((‹Keeps _ _ _›).bel (by omega) (bel_alloc (bel_alloc (bel_refl w) _) _))

set_option maxRecDepth 100000 in
theorem lifted (os : Os) (started : os.Started) (H : Type) (enc : TypeId × Value → H) :
    ReturnsInHanded {} Try.checked os 5 .any (Rows.fnCmpIsSpec.pre6 enc Try.prog Try.f5 Rows.fnCmpIsRow.domain false) (Rows.fnCmpIsSpec.post enc Try.prog Try.f5 false true false false) := by
  refine returnsInHanded_of_change (C := Try.checked) Try.own started (by kernel_rfl) Try.func5
    (ChangeSpec.witness6 (enc := enc) (C := Try.checked) false ⟨#[], #[.agg #[.int .u64 0, .int .u64 0, .int .u64 0, .int .u64 0], .agg #[.int .u64 0, .int .u64 0, .int .u64 0, .int .u64 0]], []⟩ 8 (by kernel_rfl) (by kernel_rfl) (by kernel_rfl) (by kernel_rfl)) ?_
  intro W base args ds gs before hval0 hW hcnd _
  have hval : ∀ (j : Nat) t v, Try.f5.params[j]? = some t → args[j]? = some v → Value.okWide Try.prog W .any base t v := hval0
  have hW' := hW
  obtain ⟨p, q, hA0, hV, rfl, hfz, hnd⟩ := hW
  have hA : DataW.TrodAll enc Try.prog W 0 (fun _ => true) true Try.f5.params.toList args.toList ds p := hA0
  rw [Try.params5] at hA hval
  obtain ⟨v0, vs0, d0, ds0, p0, q0, hargs, rfl, rfl, h0, r0⟩ := trodAll_cons hA
  obtain ⟨v1, vs1, d1, ds1, p1, q1, rfl, rfl, rfl, h1, r1⟩ := trodAll_cons r0
  obtain ⟨rfl, rfl, rfl⟩ := trodAll_nil r1
  obtain rfl : args = #[v0, v1] := by cases args; simp_all
  obtain ⟨rfl, rfl⟩ := trodVars_none hV
  have k0 := h0
  have lt0 : ∀ x ∈ p0, x.block < W.heap.size := by obtain ⟨m, hm⟩ := k0; exact DataW.trod_lt m _ _ _ hm
  obtain ⟨x0, rfl⟩ := open_num (hval 0 24 v0 rfl rfl)
  have k1 := h1
  have lt1 : ∀ x ∈ p1, x.block < W.heap.size := by obtain ⟨m, hm⟩ := k1; exact DataW.trod_lt m _ _ _ hm
  obtain ⟨x1, rfl⟩ := open_num (hval 1 24 v1 rfl rfl)
  clear hA0 hval0
  refine (walk x0 x1 W).mono fun e W' ⟨he, bel⟩ => ?_
  subst he
  exact ⟨_, rfl, _, _, _, [], _, [], hW', trodAll_mk1 (shut_bool Try.underlying4 _), (trodAll_cons_mk (Below.trod Try.laidOut (by kernel_rfl) (of_decide_eq_true (by kernel_rfl)) k0 bel lt0) (trodAll_cons_mk (Below.trod Try.laidOut (by kernel_rfl) (of_decide_eq_true (by kernel_rfl)) k1 bel lt1) trodAll_mk0)), rfl, bel.frame _, fun h => by cases h⟩

theorem holds : Rows.FnCmpIsSaid :=
  OpenClaim.holds_of_wide 5 Try.f5 rfl rfl rfl rfl rfl rfl rfl ⟨rfl, rfl, rfl, rfl, rfl⟩ rfl rfl rfl rfl rfl (by kernel_rfl) Try.func5 (by kernel_rfl)
    (of_decide_eq_true (by kernel_rfl)) (by unfold Func.isWrapper; first | (rw [if_pos (by decide +kernel)]; kernel_rfl) | (rw [if_neg (by decide +kernel)]; exact ⟨rfl, rfl⟩))
    (fun os started H enc _ => lifted os started H enc)
#print axioms holds
end Go.Proofs.Ytnpemghjgmofmaa.fnCmpIs
