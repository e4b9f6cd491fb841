/-
  For every number and word: impl.CmpUint64, LtUint64 and GtUint64 compare them as the reference does (the statement FnUint64ComparesSaid, no conditions).
-/
import Derived.Test.YtnpemghjgmofmaaOpen
import Derived.Test.YtnpemghjgmofmaaImpl1
import Derived.Test.YtnpemghjgmofmaaVal
namespace Go.Proofs.Ytnpemghjgmofmaa.fnUint64Compares
open Go.ChangeShapes Go.WideShapes Go.ChangeAt Go.RowKit
set_option linter.unusedVariables false

theorem small_toNat (n : W64) : N4.toNat ⟨n, 0#64, 0#64, 0#64⟩ = n.toNat := by simp [N4.toNat]
theorem isU_iff (x : N4) : x.isU = true ↔ x.toNat = x.a.toNat := by
  have hb := x.b.isLt; have hc := x.c.isLt; have hd := x.d.isLt
  unfold N4.isU N4.toNat
  rw [beq_iff_eq, BitVec.or_eq_zero_iff, BitVec.or_eq_zero_iff, ← BitVec.toNat_inj, ← BitVec.toNat_inj, ← BitVec.toNat_inj]
  simp only [BitVec.toNat_ofNat]
  omega
theorem a_le (x : N4) : x.a.toNat ≤ x.toNat := by unfold N4.toNat; omega
theorem big (x : N4) (h : ¬ x.toNat = x.a.toNat) : 2 ^ 64 ≤ x.toNat := by unfold N4.toNat at *; omega
theorem cmpW_eq (x : N4) (n : W64) : x.cmpW n = x.cmp ⟨n, 0#64, 0#64, 0#64⟩ := by
  have hu := isU_iff x
  have hn := n.isLt
  rw [cmp_eq, small_toNat]
  unfold N4.cmpW
  by_cases h : x.toNat = x.a.toNat
  · rw [hu.2 h, h]
    by_cases c1 : n < x.a
    · have c1' := BitVec.lt_def.1 c1
      rw [decide_eq_true c1, Bool.true_or, if_pos rfl, if_neg (by omega), if_neg (by omega)]
    · have c1' : ¬ n.toNat < x.a.toNat := fun e => c1 (BitVec.lt_def.2 e)
      rw [decide_eq_false c1]
      by_cases c2 : x.a = n
      · subst c2; simp
      · have : x.a.toNat ≠ n.toNat := fun e => c2 (BitVec.eq_of_toNat_eq e)
        rw [if_pos (by omega : x.a.toNat < n.toNat)]
        simp [c2]
  · have hb := big x h
    have : x.isU = false := by cases e : x.isU <;> simp_all
    rw [this, Bool.not_false, Bool.or_true, if_pos rfl, if_neg (by omega), if_neg (by omega)]
theorem ltW_eq (x : N4) (n : W64) : (decide (x.a < n) && x.isU) = decide (x.cmp ⟨n, 0#64, 0#64, 0#64⟩ < 0) := by
  have hu := isU_iff x
  have hn := n.isLt
  rw [cmp_eq, small_toNat]
  by_cases h : x.toNat = x.a.toNat
  · rw [hu.2 h, h]
    by_cases c1 : x.a < n
    · rw [decide_eq_true c1, if_pos (BitVec.lt_def.1 c1)]; rfl
    · have c1' : ¬ x.a.toNat < n.toNat := fun e => c1 (BitVec.lt_def.2 e)
      rw [decide_eq_false c1, if_neg c1']
      split <;> rfl
  · have hb := big x h
    have : x.isU = false := by cases e : x.isU <;> simp_all
    rw [this, if_neg (by omega), if_neg (by omega)]
    simp
theorem gtW_eq (x : N4) (n : W64) : (decide (n < x.a) || !x.isU) = decide (0 < x.cmp ⟨n, 0#64, 0#64, 0#64⟩) := by
  have hu := isU_iff x
  have hn := n.isLt
  rw [cmp_eq, small_toNat]
  by_cases h : x.toNat = x.a.toNat
  · rw [hu.2 h, h]
    by_cases c1 : n < x.a
    · have c1' := BitVec.lt_def.1 c1
      rw [decide_eq_true c1, if_neg (by omega), if_neg (by omega)]; rfl
    · have c1' : ¬ n.toNat < x.a.toNat := fun e => c1 (BitVec.lt_def.2 e)
      rw [decide_eq_false c1]
      split
      · rfl
      · split
        · rfl
        · omega
  · have hb := big x h
    have : x.isU = false := by cases e : x.isU <;> simp_all
    rw [this, if_neg (by omega), if_neg (by omega)]
    simp
set_option maxHeartbeats 1000000 in
theorem walk (x : N4) (n : W64) (w : World) : Calls Try.prog 10 #[x.v, V n] w (RetBel (.bool true) w) := by
  have hc := cmp_digs x ⟨n, 0#64, 0#64, 0#64⟩
  have R1 : ∀ w, Calls Try.prog 31 #[x.v, V n] w (RetBel (.int .i64 (x.cmp ⟨n, 0#64, 0#64, 0#64⟩)) w) := fun w => by rw [← cmpW_eq]; exact implCmpUint64_any x n w
  have R2 : ∀ w, Calls Try.prog 32 #[x.v, V n] w (RetBel (.bool (decide (x.cmp ⟨n, 0#64, 0#64, 0#64⟩ < 0))) w) := fun w => by rw [← ltW_eq]; exact implLtUint64_any x n w
  have R3 : ∀ w, Calls Try.prog 33 #[x.v, V n] w (RetBel (.bool (decide (0 < x.cmp ⟨n, 0#64, 0#64, 0#64⟩))) w) := fun w => by rw [← gtW_eq]; exact implGtUint64_any x n w
  have S1 := Lib.hid R1
  have S2 := Lib.hid R2
  have S3 := Lib.hid R3
  clear R1 R2 R3
  have C : ∀ v u (w : World), Sl w v x.digs → Sl w u (N4.digs ⟨n, 0#64, 0#64, 0#64⟩) → Calls Try.prog 20 #[v, u] w fun e w' => e = .returned (.int .i64 (x.cmp ⟨n, 0#64, 0#64, 0#64⟩)) ∧ w = w' := fun v u w h1 h2 => by
    rw [← hc]; exact compare_any v u _ _ w h1 h2 (by rw [digs_len]; omega) (by rw [digs_len]; omega)
  have S4 := Lib.hid C
  clear C hc
  generalize x.cmp ⟨n, 0#64, 0#64, 0#64⟩ = c at *
  go_enter Try.func10, Try.ntmps10
  go_wp2_with fail
  refine (whole_any x _).mono ?_
  rintro e w1 ⟨v1, rfl, s1, hb1⟩
  have k1 := Keeps.of' (B := w.heap.size + 1) (by simp) hb1
  go_wp2_with fail
  refine (whole_any ⟨n, 0#64, 0#64, 0#64⟩ _).mono ?_
  rintro e w2 ⟨v2, rfl, s2, hb2⟩
  have k2 := Keeps.step k1 (by simp) hb2
  have s1' := s1.bel hb2
  clear k1 s1 hb1 hb2
  go_wp2_with fail
  refine (S4.out _ _ _ s1' s2).mono ?_
  rintro e w3 ⟨rfl, rfl⟩
  clear s1' s2
  go_wp2_with fail
  refine (S1.out _).mono ?_
  rintro e w3 ⟨rfl, hb3⟩
  have k3 := Keeps.step k2 (by simp) hb3
  clear k2 hb3
  go_wp2_with fail
  refine (S2.out _).mono ?_
  rintro e w4 ⟨rfl, hb4⟩
  have k4 := Keeps.step k3 (by simp) hb4
  clear k3 hb4
  go_wp2_with fail
  refine (S3.out _).mono ?_
  rintro e w5 ⟨rfl, hb5⟩
  have k5 := Keeps.step k4 (by simp) hb5
  clear k4 hb5
  go_wp2
  go_ret
  exact retBel rfl (k5.bel (by omega) (bel_alloc (bel_refl w) _))

set_option maxRecDepth 100000 in
theorem lifted (os : Os) (started : os.Started) (H : Type) (enc : TypeId × Value → H) :
    ReturnsInHanded {} Try.checked os 10 .any (Rows.fnUint64ComparesSpec.pre6 enc Try.prog Try.f10 Rows.fnUint64ComparesRow.domain false) (Rows.fnUint64ComparesSpec.post enc Try.prog Try.f10 false true false false) := by
  refine returnsInHanded_of_change (C := Try.checked) Try.own started (by kernel_rfl) Try.func10
    (ChangeSpec.witness6 (enc := enc) (C := Try.checked) false ⟨#[], #[.agg #[.int .u64 0, .int .u64 0, .int .u64 0, .int .u64 0], .int .u64 0], []⟩ 8 (by kernel_rfl) (by kernel_rfl) (by kernel_rfl) (by kernel_rfl)) ?_
  intro W base args ds gs before hval0 hW hcnd _
  have hval : ∀ (j : Nat) t v, Try.f10.params[j]? = some t → args[j]? = some v → Value.okWide Try.prog W .any base t v := hval0
  have hW' := hW
  obtain ⟨p, q, hA0, hV, rfl, hfz, hnd⟩ := hW
  have hA : DataW.TrodAll enc Try.prog W 0 (fun _ => true) true Try.f10.params.toList args.toList ds p := hA0
  rw [Try.params10] at hA hval
  obtain ⟨v0, vs0, d0, ds0, p0, q0, hargs, rfl, rfl, h0, r0⟩ := trodAll_cons hA
  obtain ⟨v1, vs1, d1, ds1, p1, q1, rfl, rfl, rfl, h1, r1⟩ := trodAll_cons r0
  obtain ⟨rfl, rfl, rfl⟩ := trodAll_nil r1
  obtain rfl : args = #[v0, v1] := by cases args; simp_all
  obtain ⟨rfl, rfl⟩ := trodVars_none hV
  have k0 := h0
  have lt0 : ∀ x ∈ p0, x.block < W.heap.size := by obtain ⟨m, hm⟩ := k0; exact DataW.trod_lt m _ _ _ hm
  obtain ⟨x0, rfl⟩ := open_num (hval 0 24 v0 rfl rfl)
  have k1 := h1
  have lt1 : ∀ x ∈ p1, x.block < W.heap.size := by obtain ⟨m, hm⟩ := k1; exact DataW.trod_lt m _ _ _ hm
  obtain ⟨x1, rfl⟩ := open_word (hval 1 22 v1 rfl rfl)
  clear hA0 hval0
  refine (walk x0 x1 W).mono fun e W' ⟨he, bel⟩ => ?_
  subst he
  exact ⟨_, rfl, _, _, _, [], _, [], hW', trodAll_mk1 (shut_bool Try.underlying4 _), (trodAll_cons_mk (Below.trod Try.laidOut (by kernel_rfl) (of_decide_eq_true (by kernel_rfl)) k0 bel lt0) (trodAll_cons_mk (Below.trod Try.laidOut (by kernel_rfl) (of_decide_eq_true (by kernel_rfl)) k1 bel lt1) trodAll_mk0)), rfl, bel.frame _, fun h => by cases h⟩

theorem holds : Rows.FnUint64ComparesSaid :=
  OpenClaim.holds_of_wide 10 Try.f10 rfl rfl rfl rfl rfl rfl rfl ⟨rfl, rfl, rfl, rfl, rfl⟩ rfl rfl rfl rfl rfl (by kernel_rfl) Try.func10 (by kernel_rfl)
    (of_decide_eq_true (by kernel_rfl)) (by unfold Func.isWrapper; first | (rw [if_pos (by decide +kernel)]; kernel_rfl) | (rw [if_neg (by decide +kernel)]; exact ⟨rfl, rfl⟩))
    (fun os started H enc _ => lifted os started H enc)
#print axioms holds
end Go.Proofs.Ytnpemghjgmofmaa.fnUint64Compares
