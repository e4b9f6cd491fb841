/-
  For every ways and cells: impl.Sqrt gives the cells in which z is the root of x, without what stands behind its point; no other cell is changed (the statement FnSqrtIsSaid, no conditions).
-/
import Derived.Test.YtbmlbjpiodiihaaOpen
import Derived.Test.YtbmlbjpiodiihaaSpec1
import Derived.Test.YtbmlbjpiodiihaaRoot
import Derived.Test.YtbmlbjpiodiihaaDesk13
namespace Go.Proofs.Ytbmlbjpiodiihaa.fnSqrtIs
open Go.ChangeShapes Go.WideShapes Go.ChangeAt Go.RowKit
set_option linter.unusedVariables false
set_option linter.unusedSimpArgs false

set_option maxHeartbeats 1000000 in
theorem walk (k : W4) (hk : k.ok) (c : C4) (w : World) : Calls Try.prog 8 #[k.v, c.v] w (RetBel (.bool true) w) := by
  have S0 : ∀ w, Calls Try.prog 35 #[(c.get (ix k.x)).v] w (RetBel (N4.v (ofN (rootN (c.get (ix k.x)).toNat))) w) := fun w => specSqrt_any _ w
  have S := Lib.hid S0
  clear S0
  have he : (c.put (ix k.z) (ofN (rootN (c.get (ix k.x)).toNat))).eqb (c.put (ix k.z) (ofN (rootN (c.get (ix k.x)).toNat))) = true := C4.eqb_self _
  go_enter Try.func8, Try.ntmps8
  go_wp2
  go_region_held3 (Keeps (w.heap.size + 2) ((w.alloc (Obj.cells #[.int .i64 k.z, .int .i64 k.x, .int .i64 k.y, .int .i64 k.m] 23)).alloc (Obj.cells #[V c.a.a, V c.a.b, V c.a.c, V c.a.d, V c.b.a, V c.b.b, V c.b.c, V c.b.d, V c.c.a, V c.c.b, V c.c.c, V c.c.d, V c.d.a, V c.d.b, V c.d.c, V c.d.d] 28))) (first | exact Keeps.start _ _ | exact Keeps.step (by assumption) (by simp) hb)
    (first | (go_at_call 34; refine (implSqrt_any k c _ hk).mono ?_; rintro e w1 ⟨rfl, hb⟩) | (go_at_call 15; refine (specX_any k c _ hk).mono ?_; rintro e w1 ⟨rfl, hb⟩) | (go_at_call 35; refine (S.out _).mono ?_; rintro e w1 ⟨rfl, hb⟩) | (go_at_call 13; refine (specPut_any c k.z (ofN (rootN (c.get (ix k.x)).toNat)) _ hk.1).mono ?_; rintro e w1 ⟨rfl, hb⟩) | (go_at_call 11; refine (told_any (c.put (ix k.z) (ofN (rootN (c.get (ix k.x)).toNat))) (c.put (ix k.z) (ofN (rootN (c.get (ix k.x)).toNat))) false false _).mono ?_; rintro e w1 ⟨rfl, hb⟩))
  go_wp2
  go_ret
  exact retBel rfl ((‹Keeps _ _ _›).bel (by omega) (bel_alloc (bel_alloc (bel_refl w) _) _))

set_option maxRecDepth 100000 in
theorem lifted (os : Os) (started : os.Started) (H : Type) (enc : TypeId × Value → H) :
    ReturnsInHanded {} Try.checked os 8 .any (Rows.fnSqrtIsSpec.pre6 enc Try.prog Try.f8 Rows.fnSqrtIsRow.domain false) (Rows.fnSqrtIsSpec.post enc Try.prog Try.f8 false true false false) := by
  refine returnsInHanded_of_change (C := Try.checked) Try.own started (by kernel_rfl) Try.func8
    (ChangeSpec.witness6 (enc := enc) (C := Try.checked) false ⟨#[], #[.agg #[.int .i64 0, .int .i64 0, .int .i64 0, .int .i64 0], .agg #[.int .u64 0, .int .u64 0, .int .u64 0, .int .u64 0, .int .u64 0, .int .u64 0, .int .u64 0, .int .u64 0, .int .u64 0, .int .u64 0, .int .u64 0, .int .u64 0, .int .u64 0, .int .u64 0, .int .u64 0, .int .u64 0]], []⟩ 8 (by kernel_rfl) (by kernel_rfl) (by kernel_rfl) (by kernel_rfl)) ?_
  intro W base args ds gs before hval0 hW hcnd _
  have hval : ∀ (j : Nat) t v, Try.f8.params[j]? = some t → args[j]? = some v → Value.okWide Try.prog W .any base t v := hval0
  have hW' := hW
  obtain ⟨p, q, hA0, hV, rfl, hfz, hnd⟩ := hW
  have hA : DataW.TrodAll enc Try.prog W 0 (fun _ => true) true Try.f8.params.toList args.toList ds p := hA0
  rw [Try.params8] at hA hval
  obtain ⟨v0, vs0, d0, ds0, p0, q0, hargs, rfl, rfl, h0, r0⟩ := trodAll_cons hA
  obtain ⟨v1, vs1, d1, ds1, p1, q1, rfl, rfl, rfl, h1, r1⟩ := trodAll_cons r0
  obtain ⟨rfl, rfl, rfl⟩ := trodAll_nil r1
  obtain rfl : args = #[v0, v1] := by cases args; simp_all
  obtain ⟨rfl, rfl⟩ := trodVars_none hV
  have k0 := h0
  have lt0 : ∀ x ∈ p0, x.block < W.heap.size := by obtain ⟨m, hm⟩ := k0; exact DataW.trod_lt m _ _ _ hm
  obtain ⟨x0, rfl, g0⟩ := open_ways (hval 0 23 v0 rfl rfl)
  have k1 := h1
  have lt1 : ∀ x ∈ p1, x.block < W.heap.size := by obtain ⟨m, hm⟩ := k1; exact DataW.trod_lt m _ _ _ hm
  obtain ⟨x1, rfl⟩ := open_cells (hval 1 28 v1 rfl rfl)
  clear hA0 hval0
  refine (walk x0 g0 x1 W).mono fun e W' ⟨he, bel⟩ => ?_
  subst he
  exact ⟨_, rfl, _, _, _, [], _, [], hW', trodAll_mk1 (shut_bool Try.underlying4 _), (trodAll_cons_mk (Below.trod Try.laidOut (by kernel_rfl) (of_decide_eq_true (by kernel_rfl)) k0 bel lt0) (trodAll_cons_mk (Below.trod Try.laidOut (by kernel_rfl) (of_decide_eq_true (by kernel_rfl)) k1 bel lt1) trodAll_mk0)), rfl, bel.frame _, fun h => by cases h⟩

theorem holds : Rows.FnSqrtIsSaid :=
  OpenClaim.holds_of_wide 8 Try.f8 rfl rfl rfl rfl rfl rfl rfl ⟨rfl, rfl, rfl, rfl, rfl⟩ rfl rfl rfl rfl rfl (by kernel_rfl) Try.func8 (by kernel_rfl)
    (of_decide_eq_true (by kernel_rfl)) (by unfold Func.isWrapper; first | (rw [if_pos (by decide +kernel)]; kernel_rfl) | (rw [if_neg (by decide +kernel)]; exact ⟨rfl, rfl⟩))
    (fun os started H enc _ => lifted os started H enc)
#print axioms holds
end Go.Proofs.Ytbmlbjpiodiihaa.fnSqrtIs
