/-
  For every ways and cells: impl.ExtendSign gives the cells in which z is x, whose sign stands in bit 8 y + 7, x where y is above 30; no other cell is changed (the statement FnExtendSignIsSaid, no conditions).
-/
import Derived.Test.YtakneagklldciaaOpen
import Derived.Test.YtakneagklldciaaSpec1
import Derived.Test.YtakneagklldciaaSpec6
import Derived.Test.YtakneagklldciaaDesk7
namespace Go.Proofs.Ytakneagklldciaa.fnExtendSignIs
open Go.ChangeShapes Go.WideShapes Go.ChangeAt Go.RowKit
set_option linter.unusedVariables false
set_option linter.unusedSimpArgs false

theorem and7_toNat (x : W64) : (x &&& 7#64).toNat = x.toNat % 8 := by
  rw [BitVec.toNat_and]; exact Nat.and_two_pow_sub_one_eq_mod x.toNat 3
theorem offW_toNat (y : W64) : (offW y).toNat = 8 * (y.toNat % 8) := by
  unfold offW
  rw [BitVec.toNat_mul, and7_toNat]
  simp only [BitVec.toNat_ofNat]
  omega
theorem offW_lit (y : W64) (s : Nat) (h : y.toNat % 8 = s) : offW y = BitVec.ofNat 64 (8 * s) := by
  apply BitVec.eq_of_toNat_eq
  rw [offW_toNat, h, BitVec.toNat_ofNat]
  omega
theorem ext_or (A wd : W64) (k : Nat) (hk : k ≤ 56) (m : W64) (hm : m.toNat = 2 ^ k - 1) : (shlW A (BitVec.ofNat 64 k) ||| (wd &&& m)).toNat = A.toNat * 2 ^ k % 2 ^ 64 + wd.toNat % 2 ^ k := by
  have hkn : (BitVec.ofNat 64 k : W64).toNat = k := by rw [BitVec.toNat_ofNat]; omega
  rw [BitVec.toNat_or, BitVec.toNat_and, hm, Nat.and_two_pow_sub_one_eq_mod, shlW_toNat, hkn]
  have e : 2 ^ 64 = 2 ^ (64 - k) * 2 ^ k := by rw [← Nat.pow_add]; congr 1; omega
  have e1 : A.toNat * 2 ^ k % 2 ^ 64 = 2 ^ k * (A.toNat % 2 ^ (64 - k)) := by rw [e, Nat.mul_mod_mul_right, Nat.mul_comm]
  rw [e1, ← Nat.two_pow_add_eq_or_of_lt (Nat.mod_lt _ (Nat.two_pow_pos k))]
theorem extW_toNat (wd y : W64) : (extW wd y).toNat = if wd.toNat / 2 ^ (8 * (y.toNat % 8)) % 256 < 128 then wd.toNat % 2 ^ (8 * (y.toNat % 8) + 8) else 18446744073709551616 - 2 ^ (8 * (y.toNat % 8) + 8) + wd.toNat % 2 ^ (8 * (y.toNat % 8) + 8) := by
  have hw := wd.isLt
  unfold extW
  rcases (by omega : y.toNat % 8 = 0 ∨ y.toNat % 8 = 1 ∨ y.toNat % 8 = 2 ∨ y.toNat % 8 = 3 ∨ y.toNat % 8 = 4 ∨ y.toNat % 8 = 5 ∨ y.toNat % 8 = 6 ∨ y.toNat % 8 = 7) with h | h | h | h | h | h | h | h
  all_goals
    rw [offW_lit y _ h, ext_or _ wd _ (by omega) _ (by decide), sextW_toNat, shrW_toNat, h]
    simp only [BitVec.toNat_ofNat, Nat.reduceMul, Nat.reduceAdd, Nat.reducePow, Nat.reduceMod]
    split <;> omega
theorem ex2W_toNat (wd y : W64) : (ex2W wd y).toNat = if wd.toNat / 2 ^ (8 * (y.toNat % 8)) % 256 < 128 then 0 else 18446744073709551615 := by
  unfold ex2W exW
  rw [shrW_toNat, offW_toNat]
  split <;> rfl
set_option maxHeartbeats 4000000 in
theorem ext_core (x y : N4) (e : Nat) (he : y.a.toNat = e) (h : e ≤ 30) : (if y.a.toNat / 8 = 0 then (⟨extW x.a y.a, ex2W x.a y.a, ex2W x.a y.a, ex2W x.a y.a⟩ : N4)
  else if y.a.toNat / 8 = 1 then ⟨x.a, extW x.b y.a, ex2W x.b y.a, ex2W x.b y.a⟩
  else if y.a.toNat / 8 = 2 then ⟨x.a, x.b, extW x.c y.a, ex2W x.c y.a⟩
  else ⟨x.a, x.b, x.c, extW x.d y.a⟩).toNat = if x.toNat / 2 ^ (8 * e + 7) % 2 = 0 then x.toNat % 2 ^ (8 * e + 8) else x.toNat % 2 ^ (8 * e + 8) + 2 ^ 256 - 2 ^ (8 * e + 8) := by
  have a1 := x.a.isLt; have a2 := x.b.isLt; have a3 := x.c.isLt; have a4 := x.d.isLt
  rw [he]
  rcases (by omega : e = 0 ∨ e = 1 ∨ e = 2 ∨ e = 3 ∨ e = 4 ∨ e = 5 ∨ e = 6 ∨ e = 7 ∨ e = 8 ∨ e = 9 ∨ e = 10 ∨ e = 11 ∨ e = 12 ∨ e = 13 ∨ e = 14 ∨ e = 15 ∨ e = 16 ∨ e = 17 ∨ e = 18 ∨ e = 19 ∨ e = 20 ∨ e = 21 ∨ e = 22 ∨ e = 23 ∨ e = 24 ∨ e = 25 ∨ e = 26 ∨ e = 27 ∨ e = 28 ∨ e = 29 ∨ e = 30) with rfl | rfl | rfl | rfl | rfl | rfl | rfl | rfl | rfl | rfl | rfl | rfl | rfl | rfl | rfl | rfl | rfl | rfl | rfl | rfl | rfl | rfl | rfl | rfl | rfl | rfl | rfl | rfl | rfl | rfl | rfl
  all_goals
    simp only [Nat.reduceDiv, Nat.reduceMod, Nat.reduceMul, Nat.reduceAdd, Nat.reducePow, Nat.reduceEqDiff, reduceIte]
    unfold N4.toNat
    simp only [extW_toNat, ex2W_toNat, he, Nat.reduceMod, Nat.reduceMul, Nat.reduceAdd, Nat.reducePow]
    split <;> split <;> omega
theorem ext_fin (P L : Nat) (hp : P ≤ 2 ^ 248) (hl : L < P) : L + 2 ^ 256 - P = (L % 2 ^ 256 + 2 ^ 256 - P % 2 ^ 256) % 2 ^ 256 := by omega
theorem ext_is (x y : N4) : x.ext y = extN x y := by
  unfold N4.ext extN
  have e : decide (30#64 < y.a) = decide (30 < y.a.toNat) := by
    rw [Bool.eq_iff_iff]; simp only [decide_eq_true_eq, BitVec.lt_def, BitVec.toNat_ofNat] <;> omega
  rw [e, Bool.or_comm]
  by_cases hc : (!y.isU || decide (30 < y.a.toNat)) = true
  · rw [if_pos hc, if_pos hc]
  · have h30 : y.a.toNat ≤ 30 := by
      rw [Bool.not_eq_true, Bool.or_eq_false_iff, decide_eq_false_iff_not] at hc
      omega
    rw [if_neg hc, if_neg hc]
    apply toNat_inj
    have hp : 2 ^ (8 * y.a.toNat + 8) ≤ 2 ^ 248 := Nat.pow_le_pow_right (by decide) (by omega)
    have hlt : x.toNat % 2 ^ (8 * y.a.toNat + 8) < 2 ^ (8 * y.a.toNat + 8) := Nat.mod_lt _ (Nat.two_pow_pos _)
    rw [ext_core x y _ rfl h30]
    split
    · rw [ofN_toNat, Nat.mod_eq_of_lt (Nat.lt_of_lt_of_le hlt (Nat.le_trans hp (by decide)))]
    · rw [ofN_toNat, ofN_toNat, ofN_toNat]
      exact ext_fin _ _ hp hlt
set_option maxHeartbeats 1000000 in
theorem walk (k : W4) (hk : k.ok) (c : C4) (w : World) : Calls Try.prog 3 #[k.v, c.v] w (RetBel (.bool true) w) := by
  have S0 : ∀ w, Calls Try.prog 18 #[(c.get (ix k.x)).v, (c.get (ix k.y)).v] w (RetBel (N4.v ((c.get (ix k.x)).ext (c.get (ix k.y)))) w) := fun w => by rw [ext_is]; exact specExtendSign_any _ _ w
  have S := Lib.hid S0
  clear S0
  have he : (c.put (ix k.z) ((c.get (ix k.x)).ext (c.get (ix k.y)))).eqb (c.put (ix k.z) ((c.get (ix k.x)).ext (c.get (ix k.y)))) = true := C4.eqb_self _
  go_enter Try.func3, Try.ntmps3
  go_wp2
  go_region_held3 (Keeps (w.heap.size + 2) ((w.alloc (Obj.cells #[.int .i64 k.z, .int .i64 k.x, .int .i64 k.y, .int .i64 k.m] 23)).alloc (Obj.cells #[V c.a.a, V c.a.b, V c.a.c, V c.a.d, V c.b.a, V c.b.b, V c.b.c, V c.b.d, V c.c.a, V c.c.b, V c.c.c, V c.c.d, V c.d.a, V c.d.b, V c.d.c, V c.d.d] 28))) (first | exact Keeps.start _ _ | exact Keeps.step (by assumption) (by simp) hb)
    (first | (go_at_call 16; refine (implExtendSign_any k c _ hk).mono ?_; rintro e w1 ⟨rfl, hb⟩) | (go_at_call 19; refine (specX_any k c _ hk).mono ?_; rintro e w1 ⟨rfl, hb⟩) | (go_at_call 20; refine (specY_any k c _ hk).mono ?_; rintro e w1 ⟨rfl, hb⟩) | (go_at_call 18; refine (S.out _).mono ?_; rintro e w1 ⟨rfl, hb⟩) | (go_at_call 17; refine (specPut_any c k.z ((c.get (ix k.x)).ext (c.get (ix k.y))) _ hk.1).mono ?_; rintro e w1 ⟨rfl, hb⟩) | (go_at_call 15; refine (told_any (c.put (ix k.z) ((c.get (ix k.x)).ext (c.get (ix k.y)))) (c.put (ix k.z) ((c.get (ix k.x)).ext (c.get (ix k.y)))) false false _).mono ?_; rintro e w1 ⟨rfl, hb⟩))
  go_wp2
  go_ret
  exact retBel rfl ((‹Keeps _ _ _›).bel (by omega) (bel_alloc (bel_alloc (bel_refl w) _) _))

set_option maxRecDepth 100000 in
theorem lifted (os : Os) (started : os.Started) (H : Type) (enc : TypeId × Value → H) :
    ReturnsInHanded {} Try.checked os 3 .any (Rows.fnExtendSignIsSpec.pre6 enc Try.prog Try.f3 Rows.fnExtendSignIsRow.domain false) (Rows.fnExtendSignIsSpec.post enc Try.prog Try.f3 false true false false) := by
  refine returnsInHanded_of_change (C := Try.checked) Try.own started (by kernel_rfl) Try.func3
    (ChangeSpec.witness6 (enc := enc) (C := Try.checked) false ⟨#[], #[.agg #[.int .i64 0, .int .i64 0, .int .i64 0, .int .i64 0], .agg #[.int .u64 0, .int .u64 0, .int .u64 0, .int .u64 0, .int .u64 0, .int .u64 0, .int .u64 0, .int .u64 0, .int .u64 0, .int .u64 0, .int .u64 0, .int .u64 0, .int .u64 0, .int .u64 0, .int .u64 0, .int .u64 0]], []⟩ 8 (by kernel_rfl) (by kernel_rfl) (by kernel_rfl) (by kernel_rfl)) ?_
  intro W base args ds gs before hval0 hW hcnd _
  have hval : ∀ (j : Nat) t v, Try.f3.params[j]? = some t → args[j]? = some v → Value.okWide Try.prog W .any base t v := hval0
  have hW' := hW
  obtain ⟨p, q, hA0, hV, rfl, hfz, hnd⟩ := hW
  have hA : DataW.TrodAll enc Try.prog W 0 (fun _ => true) true Try.f3.params.toList args.toList ds p := hA0
  rw [Try.params3] at hA hval
  obtain ⟨v0, vs0, d0, ds0, p0, q0, hargs, rfl, rfl, h0, r0⟩ := trodAll_cons hA
  obtain ⟨v1, vs1, d1, ds1, p1, q1, rfl, rfl, rfl, h1, r1⟩ := trodAll_cons r0
  obtain ⟨rfl, rfl, rfl⟩ := trodAll_nil r1
  obtain rfl : args = #[v0, v1] := by cases args; simp_all
  obtain ⟨rfl, rfl⟩ := trodVars_none hV
  have k0 := h0
  have lt0 : ∀ x ∈ p0, x.block < W.heap.size := by obtain ⟨m, hm⟩ := k0; exact DataW.trod_lt m _ _ _ hm
  obtain ⟨x0, rfl, g0⟩ := open_ways (hval 0 23 v0 rfl rfl)
  have k1 := h1
  have lt1 : ∀ x ∈ p1, x.block < W.heap.size := by obtain ⟨m, hm⟩ := k1; exact DataW.trod_lt m _ _ _ hm
  obtain ⟨x1, rfl⟩ := open_cells (hval 1 28 v1 rfl rfl)
  clear hA0 hval0
  refine (walk x0 g0 x1 W).mono fun e W' ⟨he, bel⟩ => ?_
  subst he
  exact ⟨_, rfl, _, _, _, [], _, [], hW', trodAll_mk1 (shut_bool Try.underlying4 _), (trodAll_cons_mk (Below.trod Try.laidOut (by kernel_rfl) (of_decide_eq_true (by kernel_rfl)) k0 bel lt0) (trodAll_cons_mk (Below.trod Try.laidOut (by kernel_rfl) (of_decide_eq_true (by kernel_rfl)) k1 bel lt1) trodAll_mk0)), rfl, bel.frame _, fun h => by cases h⟩

theorem holds : Rows.FnExtendSignIsSaid :=
  OpenClaim.holds_of_wide 3 Try.f3 rfl rfl rfl rfl rfl rfl rfl ⟨rfl, rfl, rfl, rfl, rfl⟩ rfl rfl rfl rfl rfl (by kernel_rfl) Try.func3 (by kernel_rfl)
    (of_decide_eq_true (by kernel_rfl)) (by unfold Func.isWrapper; first | (rw [if_pos (by decide +kernel)]; kernel_rfl) | (rw [if_neg (by decide +kernel)]; exact ⟨rfl, rfl⟩))
    (fun os started H enc _ => lifted os started H enc)
#print axioms holds
end Go.Proofs.Ytakneagklldciaa.fnExtendSignIs
