/-
  For every number: Hex is 0x and the digits of sixteen without needless noughts (the statement FnHexIsSaid, no conditions).
-/
import Derived.Test.YtpmhkmcikjbncaaOpen
import Derived.Test.YtpmhkmcikjbncaaHex
import Derived.Test.YtpmhkmcikjbncaaHeldM
namespace Go.Proofs.Ytpmhkmcikjbncaa.fnHexIs
open Go.ChangeShapes Go.WideShapes Go.ChangeAt Go.RowKit
set_option linter.unusedVariables false
set_option linter.unusedSimpArgs false

set_option maxHeartbeats 1000000 in
theorem walk (x : N4) (w : World) : Calls Try.prog 9 #[x.v] w (RetBel (.bool true) w) := by
  go_enter Try.func9, Try.ntmps9
  go_wp2
  refine wp_region_noPanic ?_
  refine wp_region_held_drew (S := (Keeps (w.heap.size + 1) (w.alloc (Obj.cells #[V x.a, V x.b, V x.c, V x.d] 24)))) (by kernel_rfl) (by exact Keeps.start _ _) (fun hHeld => ?_)
  refine hm_take (i := 0) (v := ?_) rfl rfl (by kernel_rfl) (by kernel_rfl) (by kernel_rfl) (fun _ _ _ h => h) rfl ?_ (by assumption) ?_
  rotate_left
  · (intro w hSw; (try dsimp only at hSw); go_simp; try with_reducible rfl)
  try simp only [Act.put, List.setIfInBounds_toArray, List.set_cons_zero, List.set_cons_succ]
  refine hm_take (i := 2) (v := ?_) rfl rfl (by kernel_rfl) (by kernel_rfl) (by kernel_rfl) (fun _ _ _ h => h) rfl ?_ (by assumption) ?_
  rotate_left
  · (intro w hSw; (try dsimp only at hSw); go_simp; try with_reducible rfl)
  try simp only [Act.put, List.setIfInBounds_toArray, List.set_cons_zero, List.set_cons_succ]
  refine hm_call (i := 1) rfl (by kernel_rfl) rfl (fun K hK => ?_)
  go_simp
  (go_at_call 28; refine (implHex_any x _).mono ?_; rintro e w1 ⟨rfl, hb⟩)
  (try go_wp2_with fail)
  refine hK.out _ _ (by (try dsimp only); first | assumption | exact Keeps.step (by assumption) (by simp) hb) (fun hHeld => ?_)
  clear hK K
  try simp only [Act.put, List.setIfInBounds_toArray, List.set_cons_zero, List.set_cons_succ]
  refine hm_call (i := 3) rfl (by kernel_rfl) rfl (fun K hK => ?_)
  go_simp
  (go_at_call 29; refine (specHex_any x _).mono ?_; rintro e w1 ⟨rfl, hb⟩)
  (try go_wp2_with fail)
  refine hK.out _ _ (by (try dsimp only); first | assumption | exact Keeps.step (by assumption) (by simp) hb) (fun hHeld => ?_)
  clear hK K
  try simp only [Act.put, List.setIfInBounds_toArray, List.set_cons_zero, List.set_cons_succ]
  refine hm_take (i := 4) (v := ?_) rfl rfl (by kernel_rfl) (by kernel_rfl) (by kernel_rfl) (fun _ _ _ h => h) rfl ?_ (by assumption) ?_
  rotate_left
  · (intro w hSw; (try dsimp only at hSw); go_simp; try with_reducible rfl)
  try simp only [Act.put, List.setIfInBounds_toArray, List.set_cons_zero, List.set_cons_succ]
  refine hm_take (i := 5) (v := ?_) rfl rfl (by kernel_rfl) (by kernel_rfl) (by kernel_rfl) (fun _ _ _ h => h) rfl ?_ (by assumption) ?_
  rotate_left
  · (intro w hSw; (try dsimp only at hSw); go_simp; try with_reducible rfl)
  try simp only [Act.put, List.setIfInBounds_toArray, List.set_cons_zero, List.set_cons_succ]
  refine wpAnyH_done (by kernel_rfl) ?_ _
  refine NoPanic.normal ?_
  go_wp2
  go_ret
  exact retBel rfl ((‹Keeps _ _ _›).bel (by omega) (bel_alloc (bel_refl w) _))

set_option maxRecDepth 100000 in
theorem lifted (os : Os) (started : os.Started) (H : Type) (enc : TypeId × Value → H) :
    ReturnsInHanded {} Try.checked os 9 .any (Rows.fnHexIsSpec.pre6 enc Try.prog Try.f9 Rows.fnHexIsRow.domain false) (Rows.fnHexIsSpec.post enc Try.prog Try.f9 false true false false) := by
  refine returnsInHanded_of_change (C := Try.checked) Try.own started (by kernel_rfl) Try.func9
    (ChangeSpec.witness6 (enc := enc) (C := Try.checked) false ⟨#[], #[.agg #[.int .u64 0, .int .u64 0, .int .u64 0, .int .u64 0]], []⟩ 8 (by kernel_rfl) (by kernel_rfl) (by kernel_rfl) (by kernel_rfl)) ?_
  intro W base args ds gs before hval0 hW hcnd _
  have hval : ∀ (j : Nat) t v, Try.f9.params[j]? = some t → args[j]? = some v → Value.okWide Try.prog W .any base t v := hval0
  have hW' := hW
  obtain ⟨p, q, hA0, hV, rfl, hfz, hnd⟩ := hW
  have hA : DataW.TrodAll enc Try.prog W 0 (fun _ => true) true Try.f9.params.toList args.toList ds p := hA0
  rw [Try.params9] at hA hval
  obtain ⟨v0, vs0, d0, ds0, p0, q0, hargs, rfl, rfl, h0, r0⟩ := trodAll_cons hA
  obtain ⟨rfl, rfl, rfl⟩ := trodAll_nil r0
  obtain rfl : args = #[v0] := by cases args; simp_all
  obtain ⟨rfl, rfl⟩ := trodVars_none hV
  have k0 := h0
  have lt0 : ∀ x ∈ p0, x.block < W.heap.size := by obtain ⟨m, hm⟩ := k0; exact DataW.trod_lt m _ _ _ hm
  obtain ⟨x0, rfl⟩ := open_num (hval 0 24 v0 rfl rfl)
  clear hA0 hval0
  refine (walk x0 W).mono fun e W' ⟨he, bel⟩ => ?_
  subst he
  exact ⟨_, rfl, _, _, _, [], _, [], hW', trodAll_mk1 (shut_bool Try.underlying4 _), (trodAll_cons_mk (Below.trod Try.laidOut (by kernel_rfl) (of_decide_eq_true (by kernel_rfl)) k0 bel lt0) trodAll_mk0), rfl, bel.frame _, fun h => by cases h⟩

theorem holds : Rows.FnHexIsSaid :=
  OpenClaim.holds_of_wide 9 Try.f9 rfl rfl rfl rfl rfl rfl rfl ⟨rfl, rfl, rfl, rfl, rfl⟩ rfl rfl rfl rfl rfl (by kernel_rfl) Try.func9 (by kernel_rfl)
    (of_decide_eq_true (by kernel_rfl)) (by unfold Func.isWrapper; first | (rw [if_pos (by decide +kernel)]; kernel_rfl) | (rw [if_neg (by decide +kernel)]; exact ⟨rfl, rfl⟩))
    (fun os started H enc _ => lifted os started H enc)
#print axioms holds
end Go.Proofs.Ytpmhkmcikjbncaa.fnHexIs
