/-
  For every three numbers: impl.Cmp is turned round by turning round, 0 of the same number alone, and goes on from one to the next (the statement FnCmpOrdersSaid, no conditions).
-/
import Derived.Test.YtnpemghjgmofmaaOpen
import Derived.Test.YtnpemghjgmofmaaImpl0
import Derived.Test.YtnpemghjgmofmaaOrd
namespace Go.Proofs.Ytnpemghjgmofmaa.fnCmpOrders
open Go.ChangeShapes Go.WideShapes Go.ChangeAt Go.RowKit
set_option linter.unusedVariables false

theorem flip (x y : N4) : x.cmp y = -(y.cmp x) := by
  rw [cmp_eq, cmp_eq]
  by_cases h1 : x.toNat < y.toNat
  · rw [if_pos h1, if_neg (by omega), if_neg (by omega)]
  · rw [if_neg h1]
    by_cases h2 : x.toNat = y.toNat
    · rw [if_pos h2, if_neg (by omega), if_pos h2.symm]; rfl
    · rw [if_neg h2, if_pos (by omega)]; rfl
theorem zero_is (x y : N4) : (x.cmp y == 0) = x.eqb y := by
  rw [cmp_eq, eqb_eq]
  by_cases h1 : x.toNat < y.toNat
  · rw [if_pos h1, decide_eq_false (by omega)]; rfl
  · rw [if_neg h1]
    by_cases h2 : x.toNat = y.toNat
    · rw [if_pos h2, decide_eq_true h2]; rfl
    · rw [if_neg h2, decide_eq_false h2]; rfl
theorem goes (x y z : N4) (h1 : x.cmp y ≤ 0) (h2 : y.cmp z ≤ 0) : x.cmp z ≤ 0 := by
  have le : ∀ a b : N4, a.cmp b ≤ 0 → a.toNat ≤ b.toNat := by
    intro a b h
    rw [cmp_eq] at h
    by_cases k : a.toNat < b.toNat
    · omega
    · rw [if_neg k] at h
      by_cases k2 : a.toNat = b.toNat
      · omega
      · rw [if_neg k2] at h; omega
  have e1 := le _ _ h1
  have e2 := le _ _ h2
  rw [cmp_eq]
  by_cases k : x.toNat < z.toNat
  · rw [if_pos k]; decide
  · rw [if_neg k, if_pos (by omega)]; decide
theorem range (x y : N4) : -1 ≤ x.cmp y ∧ x.cmp y ≤ 1 := by
  rw [cmp_eq]
  split
  · omega
  · split <;> omega
set_option maxRecDepth 20000 in
set_option maxHeartbeats 1000000 in
theorem walk (x y z : N4) (w : World) : Calls Try.prog 6 #[x.v, y.v, z.v] w (RetBel (.bool true) w) := by
  have f1 := flip x y
  have f2 := zero_is x y
  have f3 := goes x y z
  have b1 := range x y
  have b2 := range y x
  have b3 := range y z
  have b4 := range x z
  obtain ⟨a, ha⟩ : ∃ a, a = x.cmp y := ⟨_, rfl⟩
  have E1 := Lib.hid ha
  obtain ⟨b, hb'⟩ : ∃ b, b = y.cmp x := ⟨_, rfl⟩
  obtain ⟨c, hc⟩ : ∃ c, c = y.cmp z := ⟨_, rfl⟩
  obtain ⟨d, hd⟩ : ∃ d, d = x.cmp z := ⟨_, rfl⟩
  have R1 : ∀ w, Calls Try.prog 19 #[x.v, y.v] w (RetBel (.int .i64 a) w) := fun w => by rw [ha]; exact implCmp_any x y w
  have R2 : ∀ w, Calls Try.prog 19 #[y.v, x.v] w (RetBel (.int .i64 b) w) := fun w => by rw [hb']; exact implCmp_any y x w
  have R3 : ∀ w, Calls Try.prog 19 #[y.v, z.v] w (RetBel (.int .i64 c) w) := fun w => by rw [hc]; exact implCmp_any y z w
  have R4 : ∀ w, Calls Try.prog 19 #[x.v, z.v] w (RetBel (.int .i64 d) w) := fun w => by rw [hd]; exact implCmp_any x z w
  rw [← ha, ← hb'] at f1
  rw [← ha] at f2
  rw [← ha, ← hc, ← hd] at f3
  rw [← ha] at b1
  rw [← hb'] at b2
  rw [← hc] at b3
  rw [← hd] at b4
  clear E1 ha hb' hc hd
  have S1 := Lib.hid R1
  have S2 := Lib.hid R2
  have S3 := Lib.hid R3
  have S4 := Lib.hid R4
  clear R1 R2 R3 R4
  obtain ⟨b11, b12⟩ := b1
  obtain ⟨b21, b22⟩ := b2
  obtain ⟨b31, b32⟩ := b3
  obtain ⟨b41, b42⟩ := b4
  have F3 := Lib.hid f3
  have hw : IntKind.i64.wrap (-b) = a := by rw [IntWalk.i64_in _ (by omega)]; omega
  clear f3 f1 b11 b12 b21 b22 b31 b32 b41 b42
  by_cases ca : 0 < a
  · have d1 : decide (0 < a) = true := decide_eq_true ca
    go_enter Try.func6, Try.ntmps6
    go_wp2
    go_region_held3 (Keeps (w.heap.size + 3) (((w.alloc (Obj.cells #[V x.a, V x.b, V x.c, V x.d] 24)).alloc (Obj.cells #[V y.a, V y.b, V y.c, V y.d] 24)).alloc (Obj.cells #[V z.a, V z.b, V z.c, V z.d] 24))) (first | exact Keeps.start _ _ | exact Keeps.step (by assumption) (by simp) hb)
      (first | (go_at_call 19; (first | (with_reducible refine (S1.out _).mono ?_) | (with_reducible refine (S2.out _).mono ?_)); rintro e w1 ⟨rfl, hb⟩))
    go_wp2_with fail
    refine (S1.out _).mono ?_
    rintro e w2 ⟨rfl, hb2⟩
    have hk2 := Keeps.step (‹Keeps _ _ _›) (by simp) hb2
    go_wp2
    go_ret
    exact retBel rfl (hk2.bel (by omega) (bel_alloc (bel_alloc (bel_alloc (bel_refl w) _) _) _))
  have d1 : decide (0 < a) = false := decide_eq_false ca
  by_cases cc : 0 < c
  · have d2 : decide (0 < c) = true := decide_eq_true cc
    go_enter Try.func6, Try.ntmps6
    go_wp2
    go_region_held3 (Keeps (w.heap.size + 3) (((w.alloc (Obj.cells #[V x.a, V x.b, V x.c, V x.d] 24)).alloc (Obj.cells #[V y.a, V y.b, V y.c, V y.d] 24)).alloc (Obj.cells #[V z.a, V z.b, V z.c, V z.d] 24))) (first | exact Keeps.start _ _ | exact Keeps.step (by assumption) (by simp) hb)
      (first | (go_at_call 19; (first | (with_reducible refine (S1.out _).mono ?_) | (with_reducible refine (S2.out _).mono ?_)); rintro e w1 ⟨rfl, hb⟩))
    go_wp2_with fail
    refine (S1.out _).mono ?_
    rintro e w2 ⟨rfl, hb2⟩
    have hk2 := Keeps.step (‹Keeps _ _ _›) (by simp) hb2
    go_wp2_with fail
    refine (S3.out _).mono ?_
    rintro e w3 ⟨rfl, hb3⟩
    have hk3 := Keeps.step hk2 (by simp) hb3
    go_wp2
    go_ret
    exact retBel rfl (hk3.bel (by omega) (bel_alloc (bel_alloc (bel_alloc (bel_refl w) _) _) _))
  · have d2 : decide (0 < c) = false := decide_eq_false cc
    have d3 : decide (d ≤ 0) = true := decide_eq_true (F3.out (by omega) (by omega))
    go_enter Try.func6, Try.ntmps6
    go_wp2
    go_region_held3 (Keeps (w.heap.size + 3) (((w.alloc (Obj.cells #[V x.a, V x.b, V x.c, V x.d] 24)).alloc (Obj.cells #[V y.a, V y.b, V y.c, V y.d] 24)).alloc (Obj.cells #[V z.a, V z.b, V z.c, V z.d] 24))) (first | exact Keeps.start _ _ | exact Keeps.step (by assumption) (by simp) hb)
      (first | (go_at_call 19; (first | (with_reducible refine (S1.out _).mono ?_) | (with_reducible refine (S2.out _).mono ?_)); rintro e w1 ⟨rfl, hb⟩))
    go_wp2_with fail
    refine (S1.out _).mono ?_
    rintro e w2 ⟨rfl, hb2⟩
    have hk2 := Keeps.step (‹Keeps _ _ _›) (by simp) hb2
    go_wp2_with fail
    refine (S3.out _).mono ?_
    rintro e w3 ⟨rfl, hb3⟩
    have hk3 := Keeps.step hk2 (by simp) hb3
    go_wp2_with fail
    refine (S4.out _).mono ?_
    rintro e w4 ⟨rfl, hb4⟩
    have hk4 := Keeps.step hk3 (by simp) hb4
    go_wp2
    go_ret
    exact retBel rfl (hk4.bel (by omega) (bel_alloc (bel_alloc (bel_alloc (bel_refl w) _) _) _))

set_option maxRecDepth 100000 in
theorem lifted (os : Os) (started : os.Started) (H : Type) (enc : TypeId × Value → H) :
    ReturnsInHanded {} Try.checked os 6 .any (Rows.fnCmpOrdersSpec.pre6 enc Try.prog Try.f6 Rows.fnCmpOrdersRow.domain false) (Rows.fnCmpOrdersSpec.post enc Try.prog Try.f6 false true false false) := by
  refine returnsInHanded_of_change (C := Try.checked) Try.own started (by kernel_rfl) Try.func6
    (ChangeSpec.witness6 (enc := enc) (C := Try.checked) false ⟨#[], #[.agg #[.int .u64 0, .int .u64 0, .int .u64 0, .int .u64 0], .agg #[.int .u64 0, .int .u64 0, .int .u64 0, .int .u64 0], .agg #[.int .u64 0, .int .u64 0, .int .u64 0, .int .u64 0]], []⟩ 8 (by kernel_rfl) (by kernel_rfl) (by kernel_rfl) (by kernel_rfl)) ?_
  intro W base args ds gs before hval0 hW hcnd _
  have hval : ∀ (j : Nat) t v, Try.f6.params[j]? = some t → args[j]? = some v → Value.okWide Try.prog W .any base t v := hval0
  have hW' := hW
  obtain ⟨p, q, hA0, hV, rfl, hfz, hnd⟩ := hW
  have hA : DataW.TrodAll enc Try.prog W 0 (fun _ => true) true Try.f6.params.toList args.toList ds p := hA0
  rw [Try.params6] at hA hval
  obtain ⟨v0, vs0, d0, ds0, p0, q0, hargs, rfl, rfl, h0, r0⟩ := trodAll_cons hA
  obtain ⟨v1, vs1, d1, ds1, p1, q1, rfl, rfl, rfl, h1, r1⟩ := trodAll_cons r0
  obtain ⟨v2, vs2, d2, ds2, p2, q2, rfl, rfl, rfl, h2, r2⟩ := trodAll_cons r1
  obtain ⟨rfl, rfl, rfl⟩ := trodAll_nil r2
  obtain rfl : args = #[v0, v1, v2] := by cases args; simp_all
  obtain ⟨rfl, rfl⟩ := trodVars_none hV
  have k0 := h0
  have lt0 : ∀ x ∈ p0, x.block < W.heap.size := by obtain ⟨m, hm⟩ := k0; exact DataW.trod_lt m _ _ _ hm
  obtain ⟨x0, rfl⟩ := open_num (hval 0 24 v0 rfl rfl)
  have k1 := h1
  have lt1 : ∀ x ∈ p1, x.block < W.heap.size := by obtain ⟨m, hm⟩ := k1; exact DataW.trod_lt m _ _ _ hm
  obtain ⟨x1, rfl⟩ := open_num (hval 1 24 v1 rfl rfl)
  have k2 := h2
  have lt2 : ∀ x ∈ p2, x.block < W.heap.size := by obtain ⟨m, hm⟩ := k2; exact DataW.trod_lt m _ _ _ hm
  obtain ⟨x2, rfl⟩ := open_num (hval 2 24 v2 rfl rfl)
  clear hA0 hval0
  refine (walk x0 x1 x2 W).mono fun e W' ⟨he, bel⟩ => ?_
  subst he
  exact ⟨_, rfl, _, _, _, [], _, [], hW', trodAll_mk1 (shut_bool Try.underlying4 _), (trodAll_cons_mk (Below.trod Try.laidOut (by kernel_rfl) (of_decide_eq_true (by kernel_rfl)) k0 bel lt0) (trodAll_cons_mk (Below.trod Try.laidOut (by kernel_rfl) (of_decide_eq_true (by kernel_rfl)) k1 bel lt1) (trodAll_cons_mk (Below.trod Try.laidOut (by kernel_rfl) (of_decide_eq_true (by kernel_rfl)) k2 bel lt2) trodAll_mk0))), rfl, bel.frame _, fun h => by cases h⟩

theorem holds : Rows.FnCmpOrdersSaid :=
  OpenClaim.holds_of_wide 6 Try.f6 rfl rfl rfl rfl rfl rfl rfl ⟨rfl, rfl, rfl, rfl, rfl⟩ rfl rfl rfl rfl rfl (by kernel_rfl) Try.func6 (by kernel_rfl)
    (of_decide_eq_true (by kernel_rfl)) (by unfold Func.isWrapper; first | (rw [if_pos (by decide +kernel)]; kernel_rfl) | (rw [if_neg (by decide +kernel)]; exact ⟨rfl, rfl⟩))
    (fun os started H enc _ => lifted os started H enc)
#print axioms holds
end Go.Proofs.Ytnpemghjgmofmaa.fnCmpOrders
