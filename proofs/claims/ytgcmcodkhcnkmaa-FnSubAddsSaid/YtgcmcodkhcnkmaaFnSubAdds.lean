/-
  For every two numbers: (x - y) + y is x, and x - y is x + (-y) (the statement FnSubAddsSaid, no conditions).
-/
import Derived.Test.YtgcmcodkhcnkmaaOpen
import Derived.Test.YtgcmcodkhcnkmaaLawOne
import Derived.Test.YtgcmcodkhcnkmaaArith
namespace Go.Proofs.Ytgcmcodkhcnkmaa.fnSubAdds
open Go.ChangeShapes Go.WideShapes Go.ChangeAt Go.RowKit
set_option linter.unusedVariables false
set_option linter.unusedSimpArgs false

attribute [local go_sem ↓] fldAns fldA
set_option maxHeartbeats 1000000 in
theorem walk (x y : N4) (w : World) : Calls Try.prog 14 #[x.v, y.v] w (RetBel (.bool true) w) := by
  have h1 : ((x.dif y).add y).eqb x = true := (eqb_iff _ _).2 (toNat_inj (by rw [add_toNat, dif_toNat]; have := toNat_lt x; have := toNat_lt y; omega))
  have h2 : (x.dif y).eqb (x.add (N4.dif ⟨0#64, 0#64, 0#64, 0#64⟩ y)) = true := (eqb_iff _ _).2 (toNat_inj (by rw [add_toNat, dif_toNat, dif_zero_toNat]; have := toNat_lt x; have := toNat_lt y; omega))
  have Q0 : ∀ w, Calls Try.prog 39 #[(x).v, (y).v] w (RetBel (N4.v ((x).dif (y))) w) := fun w => sub_law (x) (y) w
  have T0 := Lib.hid Q0
  clear Q0
  have R0 : ∀ w, Calls Try.prog 28 #[(x.dif y).v, (y).v] w (RetBel (N4.v ((x.dif y).add (y))) w) := fun w => add_law (x.dif y) (y) w
  have S0 := Lib.hid R0
  clear R0
  have R1 : ∀ w, Calls Try.prog 28 #[(x).v, (N4.dif ⟨0#64, 0#64, 0#64, 0#64⟩ y).v] w (RetBel (N4.v ((x).add (N4.dif ⟨0#64, 0#64, 0#64, 0#64⟩ y))) w) := fun w => add_law (x) (N4.dif ⟨0#64, 0#64, 0#64, 0#64⟩ y) w
  have S1 := Lib.hid R1
  clear R1
  have N0 : ∀ w, Calls Try.prog 35 #[freshW.v, (oneC y).v] w (RetBel (ansV ⟨N4.dif ⟨0#64, 0#64, 0#64, 0#64⟩ y, y, nulN, nulN⟩ false) w) := fun w => implNeg_any freshW (oneC y) w freshW_ok
  have N := Lib.hid N0
  clear N0
  have O0 : ∀ w, Calls Try.prog 40 #[(y).v] w (RetBel (.tuple #[freshW.v, (oneC (y)).v]) w) := one_law (y)
  have O := Lib.hid O0
  clear O0
  generalize N4.dif ⟨0#64, 0#64, 0#64, 0#64⟩ y = q at *
  go_enter Try.func14, Try.ntmps14
  go_wp2
  go_region_held3 (Keeps (w.heap.size + 2) ((w.alloc (Obj.cells #[V x.a, V x.b, V x.c, V x.d] 24)).alloc (Obj.cells #[V y.a, V y.b, V y.c, V y.d] 24))) (first | exact Keeps.start _ _ | exact Keeps.step (by assumption) (by simp) hb)
    (first | (go_at_call 39; (with_reducible refine (T0.out _).mono ?_); rintro e w1 ⟨rfl, hb⟩) | (go_at_call 28; (first | (with_reducible refine (S0.out _).mono ?_) | (with_reducible refine (S1.out _).mono ?_)); rintro e w1 ⟨rfl, hb⟩) | (go_at_call 40; (with_reducible refine (O.out _).mono ?_); rintro e w1 ⟨rfl, hb⟩) | (go_at_call 35; (with_reducible refine (N.out _).mono ?_); rintro e w1 ⟨rfl, hb⟩))
  go_wp2
  go_ret
  exact retBel rfl ((‹Keeps _ _ _›).bel (by omega) (bel_alloc (bel_alloc (bel_refl w) _) _))

set_option maxRecDepth 100000 in
theorem lifted (os : Os) (started : os.Started) (H : Type) (enc : TypeId × Value → H) :
    ReturnsInHanded {} Try.checked os 14 .any (Rows.fnSubAddsSpec.pre6 enc Try.prog Try.f14 Rows.fnSubAddsRow.domain false) (Rows.fnSubAddsSpec.post enc Try.prog Try.f14 false true false false) := by
  refine returnsInHanded_of_change (C := Try.checked) Try.own started (by kernel_rfl) Try.func14
    (ChangeSpec.witness6 (enc := enc) (C := Try.checked) false ⟨#[], #[.agg #[.int .u64 0, .int .u64 0, .int .u64 0, .int .u64 0], .agg #[.int .u64 0, .int .u64 0, .int .u64 0, .int .u64 0]], []⟩ 8 (by kernel_rfl) (by kernel_rfl) (by kernel_rfl) (by kernel_rfl)) ?_
  intro W base args ds gs before hval0 hW hcnd _
  have hval : ∀ (j : Nat) t v, Try.f14.params[j]? = some t → args[j]? = some v → Value.okWide Try.prog W .any base t v := hval0
  have hW' := hW
  obtain ⟨p, q, hA0, hV, rfl, hfz, hnd⟩ := hW
  have hA : DataW.TrodAll enc Try.prog W 0 (fun _ => true) true Try.f14.params.toList args.toList ds p := hA0
  rw [Try.params14] at hA hval
  obtain ⟨v0, vs0, d0, ds0, p0, q0, hargs, rfl, rfl, h0, r0⟩ := trodAll_cons hA
  obtain ⟨v1, vs1, d1, ds1, p1, q1, rfl, rfl, rfl, h1, r1⟩ := trodAll_cons r0
  obtain ⟨rfl, rfl, rfl⟩ := trodAll_nil r1
  obtain rfl : args = #[v0, v1] := by cases args; simp_all
  obtain ⟨rfl, rfl⟩ := trodVars_none hV
  have k0 := h0
  have lt0 : ∀ x ∈ p0, x.block < W.heap.size := by obtain ⟨m, hm⟩ := k0; exact DataW.trod_lt m _ _ _ hm
  obtain ⟨x0, rfl⟩ := open_num (hval 0 24 v0 rfl rfl)
  have k1 := h1
  have lt1 : ∀ x ∈ p1, x.block < W.heap.size := by obtain ⟨m, hm⟩ := k1; exact DataW.trod_lt m _ _ _ hm
  obtain ⟨x1, rfl⟩ := open_num (hval 1 24 v1 rfl rfl)
  clear hA0 hval0
  refine (walk x0 x1 W).mono fun e W' ⟨he, bel⟩ => ?_
  subst he
  exact ⟨_, rfl, _, _, _, [], _, [], hW', trodAll_mk1 (shut_bool Try.underlying4 _), (trodAll_cons_mk (Below.trod Try.laidOut (by kernel_rfl) (of_decide_eq_true (by kernel_rfl)) k0 bel lt0) (trodAll_cons_mk (Below.trod Try.laidOut (by kernel_rfl) (of_decide_eq_true (by kernel_rfl)) k1 bel lt1) trodAll_mk0)), rfl, bel.frame _, fun h => by cases h⟩

theorem holds : Rows.FnSubAddsSaid :=
  OpenClaim.holds_of_wide 14 Try.f14 rfl rfl rfl rfl rfl rfl rfl ⟨rfl, rfl, rfl, rfl, rfl⟩ rfl rfl rfl rfl rfl (by kernel_rfl) Try.func14 (by kernel_rfl)
    (of_decide_eq_true (by kernel_rfl)) (by unfold Func.isWrapper; first | (rw [if_pos (by decide +kernel)]; kernel_rfl) | (rw [if_neg (by decide +kernel)]; exact ⟨rfl, rfl⟩))
    (fun os started H enc _ => lifted os started H enc)
#print axioms holds
end Go.Proofs.Ytgcmcodkhcnkmaa.fnSubAdds
