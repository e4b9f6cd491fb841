/-
  For every ways, cells and n: impl.SRsh gives the cells in which z is x by 2^n as two's complement, n taken without a sign; no other cell is changed (the statement FnSRshIsSaid, no conditions).
-/
import Derived.Test.YtnbjmmmefnedhaaOpen
import Derived.Test.YtnbjmmmefnedhaaSpec1
import Derived.Test.YtnbjmmmefnedhaaSpec4
import Derived.Test.YtnbjmmmefnedhaaDesk6
namespace Go.Proofs.Ytnbjmmmefnedhaa.fnSRshIs
open Go.ChangeShapes Go.WideShapes Go.ChangeAt Go.RowKit
set_option linter.unusedVariables false
set_option linter.unusedSimpArgs false

theorem uN_small (n : Int) (h0 : 0 ≤ n) (h1 : n ≤ 255) : (uN n).toNat = n.toNat := by
  unfold uN; rw [BitVec.toNat_ofInt]; omega
theorem uN_big (n : Int) (hn : I64 n) (h : n < 0 ∨ 255 < n) : 256 ≤ (uN n).toNat := by
  unfold I64 at hn; unfold uN; rw [BitVec.toNat_ofInt]; omega
theorem rsh_is (x : N4) (n : Int) (hn : I64 n) : rshN x n = x.rsh (uN n) := by
  apply toNat_inj
  rw [rsh_toNat]
  unfold rshN
  by_cases h : n < 0 ∨ 255 < n
  · rw [if_pos h, Nat.div_eq_of_lt (Nat.lt_of_lt_of_le (toNat_lt x) (Nat.pow_le_pow_right (by decide) (uN_big n hn h)))]
    rfl
  · rw [if_neg h, ofN_toNat, uN_small n (by omega) (by omega)]
    exact Nat.mod_eq_of_lt (Nat.lt_of_le_of_lt (Nat.div_le_self _ _) (toNat_lt x))
theorem sar_is (x : N4) (n : Int) (hn : I64 n) : srshN x n = x.sar (uN n) := by
  unfold srshN N4.sar
  rw [top_neg]
  cases x.neg
  · exact rsh_is x n hn
  · rw [if_pos rfl, if_pos rfl, srsh_is, rsh_is _ n hn]
set_option maxHeartbeats 1000000 in
theorem walk (k : W4) (hk : k.ok) (c : C4) (n : Int) (hn : I64 n) (w : World) : Calls Try.prog 7 #[k.v, c.v, .int .i64 n] w (RetBel (.bool true) w) := by
  have S0 : ∀ w, Calls Try.prog 32 #[(c.get (ix k.x)).v, .int .i64 n] w (RetBel (N4.v ((c.get (ix k.x)).sar (uN n))) w) := fun w => by rw [← sar_is _ n hn]; exact specSRsh_any _ n w hn
  have S := Lib.hid S0
  clear S0
  have he : (c.put (ix k.z) ((c.get (ix k.x)).sar (uN n))).eqb (c.put (ix k.z) ((c.get (ix k.x)).sar (uN n))) = true := C4.eqb_self _
  go_enter Try.func7, Try.ntmps7
  go_wp2
  go_region_held3 (Keeps (w.heap.size + 2) ((w.alloc (Obj.cells #[.int .i64 k.z, .int .i64 k.x, .int .i64 k.y, .int .i64 k.m] 23)).alloc (Obj.cells #[V c.a.a, V c.a.b, V c.a.c, V c.a.d, V c.b.a, V c.b.b, V c.b.c, V c.b.d, V c.c.a, V c.c.b, V c.c.c, V c.c.d, V c.d.a, V c.d.b, V c.d.c, V c.d.d] 28))) (first | exact Keeps.start _ _ | exact Keeps.step (by assumption) (by simp) hb)
    (first | (go_at_call 31; refine (implSRsh_any k c n _ hk).mono ?_; rintro e w1 ⟨rfl, hb⟩) | (go_at_call 20; refine (specX_any k c _ hk).mono ?_; rintro e w1 ⟨rfl, hb⟩) | (go_at_call 32; refine (S.out _).mono ?_; rintro e w1 ⟨rfl, hb⟩) | (go_at_call 17; refine (specPut_any c k.z ((c.get (ix k.x)).sar (uN n)) _ hk.1).mono ?_; rintro e w1 ⟨rfl, hb⟩) | (go_at_call 15; refine (told_any (c.put (ix k.z) ((c.get (ix k.x)).sar (uN n))) (c.put (ix k.z) ((c.get (ix k.x)).sar (uN n))) false false _).mono ?_; rintro e w1 ⟨rfl, hb⟩))
  go_wp2
  go_ret
  exact retBel rfl ((‹Keeps _ _ _›).bel (by omega) (bel_alloc (bel_alloc (bel_refl w) _) _))

set_option maxRecDepth 100000 in
theorem lifted (os : Os) (started : os.Started) (H : Type) (enc : TypeId × Value → H) :
    ReturnsInHanded {} Try.checked os 7 .any (Rows.fnSRshIsSpec.pre6 enc Try.prog Try.f7 Rows.fnSRshIsRow.domain false) (Rows.fnSRshIsSpec.post enc Try.prog Try.f7 false true false false) := by
  refine returnsInHanded_of_change (C := Try.checked) Try.own started (by kernel_rfl) Try.func7
    (ChangeSpec.witness6 (enc := enc) (C := Try.checked) false ⟨#[], #[.agg #[.int .i64 0, .int .i64 0, .int .i64 0, .int .i64 0], .agg #[.int .u64 0, .int .u64 0, .int .u64 0, .int .u64 0, .int .u64 0, .int .u64 0, .int .u64 0, .int .u64 0, .int .u64 0, .int .u64 0, .int .u64 0, .int .u64 0, .int .u64 0, .int .u64 0, .int .u64 0, .int .u64 0], .int .i64 0], []⟩ 8 (by kernel_rfl) (by kernel_rfl) (by kernel_rfl) (by kernel_rfl)) ?_
  intro W base args ds gs before hval0 hW hcnd _
  have hval : ∀ (j : Nat) t v, Try.f7.params[j]? = some t → args[j]? = some v → Value.okWide Try.prog W .any base t v := hval0
  have hW' := hW
  obtain ⟨p, q, hA0, hV, rfl, hfz, hnd⟩ := hW
  have hA : DataW.TrodAll enc Try.prog W 0 (fun _ => true) true Try.f7.params.toList args.toList ds p := hA0
  rw [Try.params7] at hA hval
  obtain ⟨v0, vs0, d0, ds0, p0, q0, hargs, rfl, rfl, h0, r0⟩ := trodAll_cons hA
  obtain ⟨v1, vs1, d1, ds1, p1, q1, rfl, rfl, rfl, h1, r1⟩ := trodAll_cons r0
  obtain ⟨v2, vs2, d2, ds2, p2, q2, rfl, rfl, rfl, h2, r2⟩ := trodAll_cons r1
  obtain ⟨rfl, rfl, rfl⟩ := trodAll_nil r2
  obtain rfl : args = #[v0, v1, v2] := by cases args; simp_all
  obtain ⟨rfl, rfl⟩ := trodVars_none hV
  have k0 := h0
  have lt0 : ∀ x ∈ p0, x.block < W.heap.size := by obtain ⟨m, hm⟩ := k0; exact DataW.trod_lt m _ _ _ hm
  obtain ⟨x0, rfl, g0⟩ := open_ways (hval 0 23 v0 rfl rfl)
  have k1 := h1
  have lt1 : ∀ x ∈ p1, x.block < W.heap.size := by obtain ⟨m, hm⟩ := k1; exact DataW.trod_lt m _ _ _ hm
  obtain ⟨x1, rfl⟩ := open_cells (hval 1 28 v1 rfl rfl)
  have k2 := h2
  have lt2 : ∀ x ∈ p2, x.block < W.heap.size := by obtain ⟨m, hm⟩ := k2; exact DataW.trod_lt m _ _ _ hm
  obtain ⟨x2, rfl, g2⟩ := open_i64 (hval 2 3 v2 rfl rfl)
  clear hA0 hval0
  refine (walk x0 g0 x1 x2 g2 W).mono fun e W' ⟨he, bel⟩ => ?_
  subst he
  exact ⟨_, rfl, _, _, _, [], _, [], hW', trodAll_mk1 (shut_bool Try.underlying4 _), (trodAll_cons_mk (Below.trod Try.laidOut (by kernel_rfl) (of_decide_eq_true (by kernel_rfl)) k0 bel lt0) (trodAll_cons_mk (Below.trod Try.laidOut (by kernel_rfl) (of_decide_eq_true (by kernel_rfl)) k1 bel lt1) (trodAll_cons_mk (Below.trod Try.laidOut (by kernel_rfl) (of_decide_eq_true (by kernel_rfl)) k2 bel lt2) trodAll_mk0))), rfl, bel.frame _, fun h => by cases h⟩

theorem holds : Rows.FnSRshIsSaid :=
  OpenClaim.holds_of_wide 7 Try.f7 rfl rfl rfl rfl rfl rfl rfl ⟨rfl, rfl, rfl, rfl, rfl⟩ rfl rfl rfl rfl rfl (by kernel_rfl) Try.func7 (by kernel_rfl)
    (of_decide_eq_true (by kernel_rfl)) (by unfold Func.isWrapper; first | (rw [if_pos (by decide +kernel)]; kernel_rfl) | (rw [if_neg (by decide +kernel)]; exact ⟨rfl, rfl⟩))
    (fun os started H enc _ => lifted os started H enc)
#print axioms holds
end Go.Proofs.Ytnbjmmmefnedhaa.fnSRshIs
