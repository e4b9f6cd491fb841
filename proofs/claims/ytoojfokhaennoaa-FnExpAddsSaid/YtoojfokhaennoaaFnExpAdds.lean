/-
  For every three numbers: x to the power of 1 is x, and the power of a sum below 2^256 is the product of the powers (the statement FnExpAddsSaid, no conditions).
-/
import Derived.Test.YtoojfokhaennoaaOpen
import Derived.Test.YtoojfokhaennoaaLawOpsMul
import Derived.Test.YtoojfokhaennoaaLawOpsExp
import Derived.Test.YtoojfokhaennoaaArith
import Derived.Test.YtoojfokhaennoaaAble
import Derived.Test.YtoojfokhaennoaaEql2
namespace Go.Proofs.Ytoojfokhaennoaa.fnExpAdds
open Go.ChangeShapes Go.WideShapes Go.ChangeAt Go.RowKit
set_option linter.unusedVariables false
set_option linter.unusedSimpArgs false

theorem exp_toNat (x y : N4) : (x.exp y).toNat = x.toNat ^ y.toNat % 2 ^ 256 := ofN_toNat _
set_option maxHeartbeats 2000000 in
theorem walk (x y z : N4) (w : World) : Calls Try.prog 5 #[x.v, y.v, z.v] w (RetBel (.bool true) w) := by
  have h1 : (x.exp ⟨1#64, 0#64, 0#64, 0#64⟩).eqb x = true := (eqb_iff _ _).2 (toNat_inj (by rw [exp_toNat, show N4.toNat ⟨1#64, 0#64, 0#64, 0#64⟩ = 1 from rfl, Nat.pow_one]; exact Nat.mod_eq_of_lt (toNat_lt x)))
  have R0 : ∀ w, Calls Try.prog 21 #[(x).v, .agg #[.int .u64 1, .int .u64 0, .int .u64 0, .int .u64 0]] w (RetBel (N4.v ((x).exp (⟨1#64, 0#64, 0#64, 0#64⟩))) w) := fun w => exp_law (x) (⟨1#64, 0#64, 0#64, 0#64⟩) w
  have S0 := Lib.hid R0
  clear R0
  have R1 : ∀ w, Calls Try.prog 21 #[(x).v, (y.add z).v] w (RetBel (N4.v ((x).exp (y.add z))) w) := fun w => exp_law (x) (y.add z) w
  have S1 := Lib.hid R1
  clear R1
  have R2 : ∀ w, Calls Try.prog 21 #[(x).v, (y).v] w (RetBel (N4.v ((x).exp (y))) w) := fun w => exp_law (x) (y) w
  have S2 := Lib.hid R2
  clear R2
  have R3 : ∀ w, Calls Try.prog 21 #[(x).v, (z).v] w (RetBel (N4.v ((x).exp (z))) w) := fun w => exp_law (x) (z) w
  have S3 := Lib.hid R3
  clear R3
  have R8 : ∀ w, Calls Try.prog 24 #[(y).v, (z).v] w (RetBel (N4.v ((y).add (z))) w) := fun w => add_law (y) (z) w
  have S8 := Lib.hid R8
  clear R8
  have R12 : ∀ w, Calls Try.prog 22 #[(x.exp y).v, (x.exp z).v] w (RetBel (N4.v ((x.exp y).mul (x.exp z))) w) := fun w => mul_law (x.exp y) (x.exp z) w
  have S12 := Lib.hid R12
  clear R12
  have AB := Lib.hid (fun q hq w => addable_law y z q hq w)
  by_cases hs : y.toNat + z.toNat < 2 ^ 256
  · have hq : Hid (decide (y.toNat + z.toNat < 2 ^ 256) = true) := decide_eq_true hs
    have h2 : (x.exp (y.add z)).eqb ((x.exp y).mul (x.exp z)) = true := (eqb_iff _ _).2 (toNat_inj (by rw [exp_toNat, add_toNat, mul_toNat, exp_toNat, exp_toNat, Nat.mod_eq_of_lt hs, Nat.pow_add, ← Nat.mul_mod]))
    clear hs
    go_enter Try.func5, Try.ntmps5
    go_wp2
    go_region_held3 (Keeps (w.heap.size + 3) (((w.alloc (Obj.cells #[V x.a, V x.b, V x.c, V x.d] 26)).alloc (Obj.cells #[V y.a, V y.b, V y.c, V y.d] 26)).alloc (Obj.cells #[V z.a, V z.b, V z.c, V z.d] 26))) (first | exact Keeps.start _ _ | exact Keeps.step (by assumption) (by simp) hb)
      (first | (go_at_call 21; (first | (with_reducible refine (S0.out _).mono ?_)); rintro e w1 ⟨rfl, hb⟩))
    have hk := ‹Keeps _ _ _›
    go_wp2_with fail
    refine (AB.out true hq _).mono ?_
    rintro e w2 ⟨rfl, hb2⟩
    have hk2 := Keeps.step hk (by simp) hb2
    clear hk
    go_wp2
    go_region_held3 (Keeps (w.heap.size + 3) (((w.alloc (Obj.cells #[V x.a, V x.b, V x.c, V x.d] 26)).alloc (Obj.cells #[V y.a, V y.b, V y.c, V y.d] 26)).alloc (Obj.cells #[V z.a, V z.b, V z.c, V z.d] 26))) (first | assumption | exact Keeps.quiet (by assumption) 1 | exact Keeps.step (by assumption) (by simp) hb)
      (first | (go_at_call 21; (first | (with_reducible refine (S0.out _).mono ?_) | (with_reducible refine (S1.out _).mono ?_) | (with_reducible refine (S2.out _).mono ?_) | (with_reducible refine (S3.out _).mono ?_)); rintro e w1 ⟨rfl, hb⟩) | (go_at_call 24; (first | (with_reducible refine (S8.out _).mono ?_)); rintro e w1 ⟨rfl, hb⟩) | (go_at_call 22; (first | (with_reducible refine (S12.out _).mono ?_)); rintro e w1 ⟨rfl, hb⟩))
    go_wp2
    go_ret
    exact retBel rfl ((‹Keeps _ _ _›).bel (by omega) (bel_alloc (bel_alloc (bel_alloc (bel_refl w) _) _) _))
  · have hq : Hid (decide (y.toNat + z.toNat < 2 ^ 256) = false) := decide_eq_false hs
    clear hs
    go_enter Try.func5, Try.ntmps5
    go_wp2
    go_region_held3 (Keeps (w.heap.size + 3) (((w.alloc (Obj.cells #[V x.a, V x.b, V x.c, V x.d] 26)).alloc (Obj.cells #[V y.a, V y.b, V y.c, V y.d] 26)).alloc (Obj.cells #[V z.a, V z.b, V z.c, V z.d] 26))) (first | exact Keeps.start _ _ | exact Keeps.step (by assumption) (by simp) hb)
      (first | (go_at_call 21; (first | (with_reducible refine (S0.out _).mono ?_)); rintro e w1 ⟨rfl, hb⟩))
    have hk := ‹Keeps _ _ _›
    go_wp2_with fail
    refine (AB.out false hq _).mono ?_
    rintro e w2 ⟨rfl, hb2⟩
    have hk2 := Keeps.step hk (by simp) hb2
    clear hk
    go_wp2
    go_ret
    exact retBel rfl ((‹Keeps _ _ _›).bel (by omega) (bel_alloc (bel_alloc (bel_alloc (bel_refl w) _) _) _))

set_option maxRecDepth 100000 in
theorem lifted (os : Os) (started : os.Started) (H : Type) (enc : TypeId × Value → H) :
    ReturnsInHanded {} Try.checked os 5 .any (Rows.fnExpAddsSpec.pre6 enc Try.prog Try.f5 Rows.fnExpAddsRow.domain false) (Rows.fnExpAddsSpec.post enc Try.prog Try.f5 false true false false) := by
  refine returnsInHanded_of_change (C := Try.checked) Try.own started (by kernel_rfl) Try.func5
    (ChangeSpec.witness6 (enc := enc) (C := Try.checked) false ⟨#[], #[.agg #[.int .u64 0, .int .u64 0, .int .u64 0, .int .u64 0], .agg #[.int .u64 0, .int .u64 0, .int .u64 0, .int .u64 0], .agg #[.int .u64 0, .int .u64 0, .int .u64 0, .int .u64 0]], []⟩ 8 (by kernel_rfl) (by kernel_rfl) (by kernel_rfl) (by kernel_rfl)) ?_
  intro W base args ds gs before hval0 hW hcnd _
  have hval : ∀ (j : Nat) t v, Try.f5.params[j]? = some t → args[j]? = some v → Value.okWide Try.prog W .any base t v := hval0
  have hW' := hW
  obtain ⟨p, q, hA0, hV, rfl, hfz, hnd⟩ := hW
  have hA : DataW.TrodAll enc Try.prog W 0 (fun _ => true) true Try.f5.params.toList args.toList ds p := hA0
  rw [Try.params5] at hA hval
  obtain ⟨v0, vs0, d0, ds0, p0, q0, hargs, rfl, rfl, h0, r0⟩ := trodAll_cons hA
  obtain ⟨v1, vs1, d1, ds1, p1, q1, rfl, rfl, rfl, h1, r1⟩ := trodAll_cons r0
  obtain ⟨v2, vs2, d2, ds2, p2, q2, rfl, rfl, rfl, h2, r2⟩ := trodAll_cons r1
  obtain ⟨rfl, rfl, rfl⟩ := trodAll_nil r2
  obtain rfl : args = #[v0, v1, v2] := by cases args; simp_all
  obtain ⟨rfl, rfl⟩ := trodVars_none hV
  have k0 := h0
  have lt0 : ∀ x ∈ p0, x.block < W.heap.size := by obtain ⟨m, hm⟩ := k0; exact DataW.trod_lt m _ _ _ hm
  obtain ⟨x0, rfl⟩ := open_num (hval 0 26 v0 rfl rfl)
  have k1 := h1
  have lt1 : ∀ x ∈ p1, x.block < W.heap.size := by obtain ⟨m, hm⟩ := k1; exact DataW.trod_lt m _ _ _ hm
  obtain ⟨x1, rfl⟩ := open_num (hval 1 26 v1 rfl rfl)
  have k2 := h2
  have lt2 : ∀ x ∈ p2, x.block < W.heap.size := by obtain ⟨m, hm⟩ := k2; exact DataW.trod_lt m _ _ _ hm
  obtain ⟨x2, rfl⟩ := open_num (hval 2 26 v2 rfl rfl)
  clear hA0 hval0
  refine (walk x0 x1 x2 W).mono fun e W' ⟨he, bel⟩ => ?_
  subst he
  exact ⟨_, rfl, _, _, _, [], _, [], hW', trodAll_mk1 (shut_bool Try.underlying4 _), (trodAll_cons_mk (Below.trod Try.laidOut (by kernel_rfl) (of_decide_eq_true (by kernel_rfl)) k0 bel lt0) (trodAll_cons_mk (Below.trod Try.laidOut (by kernel_rfl) (of_decide_eq_true (by kernel_rfl)) k1 bel lt1) (trodAll_cons_mk (Below.trod Try.laidOut (by kernel_rfl) (of_decide_eq_true (by kernel_rfl)) k2 bel lt2) trodAll_mk0))), rfl, bel.frame _, fun h => by cases h⟩

theorem holds : Rows.FnExpAddsSaid :=
  OpenClaim.holds_of_wide 5 Try.f5 rfl rfl rfl rfl rfl rfl rfl ⟨rfl, rfl, rfl, rfl, rfl⟩ rfl rfl rfl rfl rfl (by kernel_rfl) Try.func5 (by kernel_rfl)
    (of_decide_eq_true (by kernel_rfl)) (by unfold Func.isWrapper; first | (rw [if_pos (by decide +kernel)]; kernel_rfl) | (rw [if_neg (by decide +kernel)]; exact ⟨rfl, rfl⟩))
    (fun os started H enc _ => lifted os started H enc)
#print axioms holds
end Go.Proofs.Ytoojfokhaennoaa.fnExpAdds
