/-
  For every two numbers: impl.Slt and impl.Sgt tell whether the first is the lesser, the greater one as two's complement (the statement FnSltSgtIsSaid, no conditions).
-/
import Derived.Test.YtnbjmmmefnedhaaOpen
import Derived.Test.YtnbjmmmefnedhaaSlt
namespace Go.Proofs.Ytnbjmmmefnedhaa.fnSltSgtIs
open Go.ChangeShapes Go.WideShapes Go.ChangeAt Go.RowKit
set_option linter.unusedVariables false
set_option linter.unusedSimpArgs false

set_option maxHeartbeats 1000000 in
theorem walk (x y : N4) (w : World) : Calls Try.prog 4 #[x.v, y.v] w (RetBel (.bool true) w) := by
  have R1 : ∀ w, Calls Try.prog 25 #[x.v, y.v] w (RetBel (.bool (decide (cmpN (x.xor topN).toNat (y.xor topN).toNat < 0))) w) := fun w => by rw [← slt_cmp]; exact implSlt_any x y w
  have R2 : ∀ w, Calls Try.prog 26 #[x.v, y.v] w (RetBel (.bool (decide (0 < cmpN (x.xor topN).toNat (y.xor topN).toNat))) w) := fun w => by rw [← slt_cmp']; exact implSgt_any x y w
  have R3 : ∀ v u (w : World), Dg w v (x.xor topN).toNat 16 → Dg w u (y.xor topN).toNat 16 → Calls Try.prog 21 #[v, u] w fun e w' => e = .returned (.int .i64 (cmpN (x.xor topN).toNat (y.xor topN).toNat)) ∧ w = w' := fun v u w h k => compare_dg v u _ _ 16 16 w h k (by omega) (by omega)
  have S1 := Lib.hid R1
  have S2 := Lib.hid R2
  have S3 := Lib.hid R3
  clear R1 R2 R3
  have T : ∀ w, Calls Try.prog 24 #[] w (RetBel (.agg #[V topN.a, V topN.b, V topN.c, V topN.d]) w) := top_law
  have X1 : ∀ w, Calls Try.prog 23 #[x.v, .agg #[V topN.a, V topN.b, V topN.c, V topN.d]] w (RetBel (N4.v (x.xor topN)) w) := specXor_any x topN
  have X2 : ∀ w, Calls Try.prog 23 #[y.v, .agg #[V topN.a, V topN.b, V topN.c, V topN.d]] w (RetBel (N4.v (y.xor topN)) w) := specXor_any y topN
  have W1 : ∀ w, Calls Try.prog 22 #[N4.v (x.xor topN)] w (RetDg (x.xor topN).toNat 16 w) := whole_dg (x.xor topN)
  have W2 : ∀ w, Calls Try.prog 22 #[N4.v (y.xor topN)] w (RetDg (y.xor topN).toNat 16 w) := whole_dg (y.xor topN)
  have HT := Lib.hid T
  have H1 := Lib.hid X1
  have H2 := Lib.hid X2
  have H3 := Lib.hid W1
  have H4 := Lib.hid W2
  clear T X1 X2 W1 W2
  generalize x.xor topN = p at *
  generalize y.xor topN = q at *
  generalize cmpN p.toNat q.toNat = c at *
  generalize topN = t at *
  go_enter Try.func4, Try.ntmps4
  go_wp2
  go_region_held3 (Keeps (w.heap.size + 2) ((w.alloc (Obj.cells #[V x.a, V x.b, V x.c, V x.d] 26)).alloc (Obj.cells #[V y.a, V y.b, V y.c, V y.d] 26))) (first | assumption | exact Keeps.start _ _ | exact Keeps.step (by assumption) (by simp) hb | exact Keeps.step (by assumption) (by simp) hba | exact Keeps.step (by assumption) (by simp) hbb | exact Keeps.step (by assumption) (by simp) hbt | exact Keeps.step (by assumption) (by simp) hbx)
    (first | (go_at_call 24; (with_reducible refine (HT.out _).mono ?_); rintro e w1 ⟨rfl, hbt⟩) | (go_at_call 23; (first | (with_reducible refine (H1.out _).mono ?_) | (with_reducible refine (H2.out _).mono ?_)); rintro e w1 ⟨rfl, hbx⟩) | (go_at_call 22; (first | ((with_reducible refine (H3.out _).mono ?_); rintro e w1 ⟨va, rfl, Da, hba⟩) | ((with_reducible refine (H4.out _).mono ?_); rintro e w1 ⟨vb, rfl, Db, hbb⟩))) | (go_at_call 21; (with_reducible refine (S3.out _ _ _ ((Da.bel hbt).bel (bel_trans hbx hbb)) Db).mono ?_); rintro e w1 ⟨rfl, rfl⟩))
  have k2 := ‹Keeps _ _ _›
  go_wp2_with fail
  refine (S1.out _).mono ?_
  rintro e w3 ⟨rfl, hb3⟩
  have k3 := Keeps.step k2 (by simp) hb3
  clear k2 hb3
  go_wp2_with fail
  refine (S2.out _).mono ?_
  rintro e w4 ⟨rfl, hb4⟩
  have k4 := Keeps.step k3 (by simp) hb4
  clear k3 hb4
  go_wp2
  go_ret
  exact retBel rfl (k4.bel (by omega) (bel_alloc (bel_alloc (bel_refl w) _) _))

set_option maxRecDepth 100000 in
theorem lifted (os : Os) (started : os.Started) (H : Type) (enc : TypeId × Value → H) :
    ReturnsInHanded {} Try.checked os 4 .any (Rows.fnSltSgtIsSpec.pre6 enc Try.prog Try.f4 Rows.fnSltSgtIsRow.domain false) (Rows.fnSltSgtIsSpec.post enc Try.prog Try.f4 false true false false) := by
  refine returnsInHanded_of_change (C := Try.checked) Try.own started (by kernel_rfl) Try.func4
    (ChangeSpec.witness6 (enc := enc) (C := Try.checked) false ⟨#[], #[.agg #[.int .u64 0, .int .u64 0, .int .u64 0, .int .u64 0], .agg #[.int .u64 0, .int .u64 0, .int .u64 0, .int .u64 0]], []⟩ 8 (by kernel_rfl) (by kernel_rfl) (by kernel_rfl) (by kernel_rfl)) ?_
  intro W base args ds gs before hval0 hW hcnd _
  have hval : ∀ (j : Nat) t v, Try.f4.params[j]? = some t → args[j]? = some v → Value.okWide Try.prog W .any base t v := hval0
  have hW' := hW
  obtain ⟨p, q, hA0, hV, rfl, hfz, hnd⟩ := hW
  have hA : DataW.TrodAll enc Try.prog W 0 (fun _ => true) true Try.f4.params.toList args.toList ds p := hA0
  rw [Try.params4] at hA hval
  obtain ⟨v0, vs0, d0, ds0, p0, q0, hargs, rfl, rfl, h0, r0⟩ := trodAll_cons hA
  obtain ⟨v1, vs1, d1, ds1, p1, q1, rfl, rfl, rfl, h1, r1⟩ := trodAll_cons r0
  obtain ⟨rfl, rfl, rfl⟩ := trodAll_nil r1
  obtain rfl : args = #[v0, v1] := by cases args; simp_all
  obtain ⟨rfl, rfl⟩ := trodVars_none hV
  have k0 := h0
  have lt0 : ∀ x ∈ p0, x.block < W.heap.size := by obtain ⟨m, hm⟩ := k0; exact DataW.trod_lt m _ _ _ hm
  obtain ⟨x0, rfl⟩ := open_num (hval 0 26 v0 rfl rfl)
  have k1 := h1
  have lt1 : ∀ x ∈ p1, x.block < W.heap.size := by obtain ⟨m, hm⟩ := k1; exact DataW.trod_lt m _ _ _ hm
  obtain ⟨x1, rfl⟩ := open_num (hval 1 26 v1 rfl rfl)
  clear hA0 hval0
  refine (walk x0 x1 W).mono fun e W' ⟨he, bel⟩ => ?_
  subst he
  exact ⟨_, rfl, _, _, _, [], _, [], hW', trodAll_mk1 (shut_bool Try.underlying4 _), (trodAll_cons_mk (Below.trod Try.laidOut (by kernel_rfl) (of_decide_eq_true (by kernel_rfl)) k0 bel lt0) (trodAll_cons_mk (Below.trod Try.laidOut (by kernel_rfl) (of_decide_eq_true (by kernel_rfl)) k1 bel lt1) trodAll_mk0)), rfl, bel.frame _, fun h => by cases h⟩

theorem holds : Rows.FnSltSgtIsSaid :=
  OpenClaim.holds_of_wide 4 Try.f4 rfl rfl rfl rfl rfl rfl rfl ⟨rfl, rfl, rfl, rfl, rfl⟩ rfl rfl rfl rfl rfl (by kernel_rfl) Try.func4 (by kernel_rfl)
    (of_decide_eq_true (by kernel_rfl)) (by unfold Func.isWrapper; first | (rw [if_pos (by decide +kernel)]; kernel_rfl) | (rw [if_neg (by decide +kernel)]; exact ⟨rfl, rfl⟩))
    (fun os started H enc _ => lifted os started H enc)
#print axioms holds
end Go.Proofs.Ytnbjmmmefnedhaa.fnSltSgtIs
