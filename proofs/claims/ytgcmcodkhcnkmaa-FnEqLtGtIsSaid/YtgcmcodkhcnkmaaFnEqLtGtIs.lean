/-
  For every two numbers: impl.Eq, Lt and Gt tell whether the first is the same number, the lesser, the greater one (the statement FnEqLtGtIsSaid, no conditions).
-/
import Derived.Test.YtgcmcodkhcnkmaaOpen
import Derived.Test.YtgcmcodkhcnkmaaImpl0
import Derived.Test.YtgcmcodkhcnkmaaVal
namespace Go.Proofs.Ytgcmcodkhcnkmaa.fnEqLtGtIs
open Go.ChangeShapes Go.WideShapes Go.ChangeAt Go.RowKit
set_option linter.unusedVariables false

theorem eq_is (x y : N4) : x.eqb y = (x.cmp y == 0) := by
  rw [cmp_eq, eqb_eq]
  by_cases h1 : x.toNat < y.toNat
  · rw [if_pos h1, decide_eq_false (by omega)]; rfl
  · rw [if_neg h1]
    by_cases h2 : x.toNat = y.toNat
    · rw [if_pos h2, decide_eq_true h2]; rfl
    · rw [if_neg h2, decide_eq_false h2]; rfl
theorem lt_is (x y : N4) : x.ltc y = decide (x.cmp y < 0) := by
  rw [cmp_eq, ltc_eq]
  by_cases h1 : x.toNat < y.toNat
  · rw [if_pos h1, decide_eq_true h1]; rfl
  · rw [if_neg h1, decide_eq_false h1]
    split <;> rfl
theorem gt_is (x y : N4) : y.ltc x = decide (0 < x.cmp y) := by
  rw [cmp_eq, ltc_eq]
  by_cases h1 : x.toNat < y.toNat
  · rw [if_pos h1, decide_eq_false (by omega)]; rfl
  · rw [if_neg h1]
    by_cases h2 : x.toNat = y.toNat
    · rw [if_pos h2, decide_eq_false (by omega)]; rfl
    · rw [if_neg h2, decide_eq_true (by omega)]; rfl
set_option maxHeartbeats 1000000 in
theorem walk (x y : N4) (w : World) : Calls Try.prog 3 #[x.v, y.v] w (RetBel (.bool true) w) := by
  have hc := cmp_digs x y
  have R1 : ∀ w, Calls Try.prog 17 #[x.v, y.v] w (RetBel (.bool (x.cmp y == 0)) w) := fun w => by rw [← eq_is]; exact implEq_any x y w
  have R2 : ∀ w, Calls Try.prog 18 #[x.v, y.v] w (RetBel (.bool (decide (x.cmp y < 0))) w) := fun w => by rw [← lt_is]; exact implLt_any x y w
  have R3 : ∀ w, Calls Try.prog 19 #[x.v, y.v] w (RetBel (.bool (decide (0 < x.cmp y))) w) := fun w => by rw [← gt_is]; exact implGt_any x y w
  have S1 := Lib.hid R1
  have S2 := Lib.hid R2
  have S3 := Lib.hid R3
  clear R1 R2 R3
  have C : ∀ v u (w : World), Sl w v x.digs → Sl w u y.digs → Calls Try.prog 15 #[v, u] w fun e w' => e = .returned (.int .i64 (x.cmp y)) ∧ w = w' := fun v u w h1 h2 => by
    rw [← hc]; exact compare_any v u _ _ w h1 h2 (by rw [digs_len]; omega) (by rw [digs_len]; omega)
  have S4 := Lib.hid C
  clear C hc
  generalize x.cmp y = c at *
  go_enter Try.func3, Try.ntmps3
  go_wp2
  go_region_held3 (Keeps (w.heap.size + 2) ((w.alloc (Obj.cells #[V x.a, V x.b, V x.c, V x.d] 24)).alloc (Obj.cells #[V y.a, V y.b, V y.c, V y.d] 24))) (first | exact Keeps.start _ _ | assumption | exact Keeps.step (by assumption) (by simp) hb2 | exact Keeps.step (by assumption) (by simp) hb)
    (first | (go_at_call 16; (first | (((with_reducible refine (whole_any x _).mono ?_); rintro e w1 ⟨v1, rfl, s1, hb⟩)) | (((with_reducible refine (whole_any y _).mono ?_); rintro e w1 ⟨v2, rfl, s2, hb2⟩)))) | (go_at_call 15; refine (S4.out _ _ _ (s1.bel hb2) s2).mono ?_; rintro e w1 ⟨rfl, rfl⟩))
  have k2 := ‹Keeps _ _ _›
  go_wp2_with fail
  refine (S1.out _).mono ?_
  rintro e w3 ⟨rfl, hb3⟩
  have k3 := Keeps.step k2 (by simp) hb3
  clear k2 hb3
  go_wp2_with fail
  refine (S2.out _).mono ?_
  rintro e w4 ⟨rfl, hb4⟩
  have k4 := Keeps.step k3 (by simp) hb4
  clear k3 hb4
  go_wp2_with fail
  refine (S3.out _).mono ?_
  rintro e w5 ⟨rfl, hb5⟩
  have k5 := Keeps.step k4 (by simp) hb5
  clear k4 hb5
  go_wp2
  go_ret
  exact retBel rfl (k5.bel (by omega) (bel_alloc (bel_alloc (bel_refl w) _) _))

set_option maxRecDepth 100000 in
theorem lifted (os : Os) (started : os.Started) (H : Type) (enc : TypeId × Value → H) :
    ReturnsInHanded {} Try.checked os 3 .any (Rows.fnEqLtGtIsSpec.pre6 enc Try.prog Try.f3 Rows.fnEqLtGtIsRow.domain false) (Rows.fnEqLtGtIsSpec.post enc Try.prog Try.f3 false true false false) := by
  refine returnsInHanded_of_change (C := Try.checked) Try.own started (by kernel_rfl) Try.func3
    (ChangeSpec.witness6 (enc := enc) (C := Try.checked) false ⟨#[], #[.agg #[.int .u64 0, .int .u64 0, .int .u64 0, .int .u64 0], .agg #[.int .u64 0, .int .u64 0, .int .u64 0, .int .u64 0]], []⟩ 8 (by kernel_rfl) (by kernel_rfl) (by kernel_rfl) (by kernel_rfl)) ?_
  intro W base args ds gs before hval0 hW hcnd _
  have hval : ∀ (j : Nat) t v, Try.f3.params[j]? = some t → args[j]? = some v → Value.okWide Try.prog W .any base t v := hval0
  have hW' := hW
  obtain ⟨p, q, hA0, hV, rfl, hfz, hnd⟩ := hW
  have hA : DataW.TrodAll enc Try.prog W 0 (fun _ => true) true Try.f3.params.toList args.toList ds p := hA0
  rw [Try.params3] at hA hval
  obtain ⟨v0, vs0, d0, ds0, p0, q0, hargs, rfl, rfl, h0, r0⟩ := trodAll_cons hA
  obtain ⟨v1, vs1, d1, ds1, p1, q1, rfl, rfl, rfl, h1, r1⟩ := trodAll_cons r0
  obtain ⟨rfl, rfl, rfl⟩ := trodAll_nil r1
  obtain rfl : args = #[v0, v1] := by cases args; simp_all
  obtain ⟨rfl, rfl⟩ := trodVars_none hV
  have k0 := h0
  have lt0 : ∀ x ∈ p0, x.block < W.heap.size := by obtain ⟨m, hm⟩ := k0; exact DataW.trod_lt m _ _ _ hm
  obtain ⟨x0, rfl⟩ := open_num (hval 0 24 v0 rfl rfl)
  have k1 := h1
  have lt1 : ∀ x ∈ p1, x.block < W.heap.size := by obtain ⟨m, hm⟩ := k1; exact DataW.trod_lt m _ _ _ hm
  obtain ⟨x1, rfl⟩ := open_num (hval 1 24 v1 rfl rfl)
  clear hA0 hval0
  refine (walk x0 x1 W).mono fun e W' ⟨he, bel⟩ => ?_
  subst he
  exact ⟨_, rfl, _, _, _, [], _, [], hW', trodAll_mk1 (shut_bool Try.underlying4 _), (trodAll_cons_mk (Below.trod Try.laidOut (by kernel_rfl) (of_decide_eq_true (by kernel_rfl)) k0 bel lt0) (trodAll_cons_mk (Below.trod Try.laidOut (by kernel_rfl) (of_decide_eq_true (by kernel_rfl)) k1 bel lt1) trodAll_mk0)), rfl, bel.frame _, fun h => by cases h⟩

theorem holds : Rows.FnEqLtGtIsSaid :=
  OpenClaim.holds_of_wide 3 Try.f3 rfl rfl rfl rfl rfl rfl rfl ⟨rfl, rfl, rfl, rfl, rfl⟩ rfl rfl rfl rfl rfl (by kernel_rfl) Try.func3 (by kernel_rfl)
    (of_decide_eq_true (by kernel_rfl)) (by unfold Func.isWrapper; first | (rw [if_pos (by decide +kernel)]; kernel_rfl) | (rw [if_neg (by decide +kernel)]; exact ⟨rfl, rfl⟩))
    (fun os started H enc _ => lifted os started H enc)
#print axioms holds
end Go.Proofs.Ytgcmcodkhcnkmaa.fnEqLtGtIs
