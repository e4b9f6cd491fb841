/-
  For every number and n: a shift by 0 is nothing, and for n in 0 to 255 Lsh is the product with 2^n and Rsh the quotient by it (the statement FnShiftIsMulSaid, no conditions).
-/
import Derived.Test.YtoojfokhaennoaaOpen
import Derived.Test.YtoojfokhaennoaaLawOne
import Derived.Test.YtoojfokhaennoaaLawOpsMul
import Derived.Test.YtoojfokhaennoaaLawOpsExp
import Derived.Test.YtoojfokhaennoaaArith
import Derived.Test.YtoojfokhaennoaaEql2
import Derived.Test.YtoojfokhaennoaaDesk5
import Derived.Test.YtoojfokhaennoaaDesk8
import Derived.Test.YtoojfokhaennoaaRegion2
import Derived.Test.YtoojfokhaennoaaShiftLaw
namespace Go.Proofs.Ytoojfokhaennoaa.fnShiftIsMul
open Go.ChangeShapes Go.WideShapes Go.ChangeAt Go.RowKit
set_option linter.unusedVariables false
set_option linter.unusedSimpArgs false

attribute [local go_sem ↓] fldAns fldA
theorem uN_small (n : Int) (h0 : 0 ≤ n) (h1 : n ≤ 200000) : (uN n).toNat = n.toNat := by
  unfold uN; rw [BitVec.toNat_ofInt]; omega
theorem lsh_zero (x : N4) : x.lsh (uN 0) = x := toNat_inj (by rw [lsh_toNat, uN_small 0 (by omega) (by omega)]; simp; exact toNat_lt x)
theorem rsh_zero (x : N4) : x.rsh (uN 0) = x := toNat_inj (by rw [rsh_toNat, uN_small 0 (by omega) (by omega)]; simp)
theorem word_n4 (v : W64) : N4.toNat ⟨v, 0#64, 0#64, 0#64⟩ = v.toNat := by unfold N4.toNat; simp
theorem two_pow (n : Int) (h0 : 0 ≤ n) (h1 : n ≤ 255) : (N4.exp ⟨2#64, 0#64, 0#64, 0#64⟩ ⟨uN n, 0#64, 0#64, 0#64⟩).toNat = 2 ^ n.toNat := by
  unfold N4.exp
  rw [ofN_toNat, word_n4, word_n4, uN_small n h0 (by omega)]
  have h : (2 : Nat) ^ n.toNat ≤ 2 ^ 255 := Nat.pow_le_pow_right (by decide) (by omega)
  exact Nat.mod_eq_of_lt (by show 2 ^ n.toNat < _; omega)
set_option maxRecDepth 20000 in
set_option maxHeartbeats 4000000 in
theorem walk (x : N4) (n : Int) (hn : I64 n) (w : World) : Calls Try.prog 11 #[x.v, .int .i64 n] w (RetBel (.bool true) w) := by
  unfold I64 at hn
  have h0 : (x.lsh (uN 0)).eqb x = true := (eqb_iff _ _).2 (lsh_zero x)
  have h0' : (x.rsh (uN 0)).eqb x = true := (eqb_iff _ _).2 (rsh_zero x)
  have L00 : ∀ w, Calls Try.prog 37 #[freshW.v, .agg #[.int .u64 0, .int .u64 0, .int .u64 0, .int .u64 0, V x.a, V x.b, V x.c, V x.d, .int .u64 0, .int .u64 0, .int .u64 0, .int .u64 0, .int .u64 0, .int .u64 0, .int .u64 0, .int .u64 0], .int .i64 (0)] w (RetBel (ansV ⟨x.lsh (uN 0), x, nulN, nulN⟩ false) w) := fun w => implLsh_any freshW (oneC x) (0) w freshW_ok
  have L0 := Lib.hid L00
  clear L00
  have R00 : ∀ w, Calls Try.prog 38 #[freshW.v, .agg #[.int .u64 0, .int .u64 0, .int .u64 0, .int .u64 0, V x.a, V x.b, V x.c, V x.d, .int .u64 0, .int .u64 0, .int .u64 0, .int .u64 0, .int .u64 0, .int .u64 0, .int .u64 0, .int .u64 0], .int .i64 (0)] w (RetBel (ansV ⟨x.rsh (uN 0), x, nulN, nulN⟩ false) w) := fun w => implRsh_any freshW (oneC x) (0) w freshW_ok
  have R0 := Lib.hid R00
  clear R00
  by_cases hout : n < 0 ∨ 255 < n
  · have hcs : (n < 0) ∨ (¬ n < 0 ∧ 255 < n) := by omega
    clear hout
    rcases hcs with c1 | ⟨c1, c2⟩
    all_goals
      go_enter Try.func11, Try.ntmps11
      go_wp2
      go_region_held3 (Keeps (w.heap.size + 1) (w.alloc (Obj.cells #[V x.a, V x.b, V x.c, V x.d] 26))) (first | exact Keeps.start _ _ | exact Keeps.step (by assumption) (by simp) hb)
        (first | (go_at_call 28; refine (fresh_any _).mono ?_; rintro e w1 ⟨rfl, hb⟩) | (go_at_call 37; (first | (with_reducible refine (L0.out _).mono ?_)); rintro e w1 ⟨rfl, hb⟩) | (go_at_call 38; (first | (with_reducible refine (R0.out _).mono ?_)); rintro e w1 ⟨rfl, hb⟩))
      go_wp2
      go_ret
      exact retBel rfl ((‹Keeps _ _ _›).bel (by omega) (bel_alloc (bel_refl w) _))
  have c1 : ¬ n < 0 := by omega
  have c2 : ¬ 255 < n := by omega
  have c3 : 0 ≤ n := by omega
  have c4 : n ≤ 255 := by omega
  obtain ⟨t, ht⟩ : ∃ t, t = N4.exp ⟨2#64, 0#64, 0#64, 0#64⟩ ⟨uN n, 0#64, 0#64, 0#64⟩ := ⟨_, rfl⟩
  have tt : t.toNat = 2 ^ n.toNat := by rw [ht]; exact two_pow n c3 c4
  have un : (uN n).toNat = n.toNat := uN_small n c3 (by omega)
  have E : Hid (∀ w, Calls Try.prog 21 #[.agg #[.int .u64 2, .int .u64 0, .int .u64 0, .int .u64 0], .agg #[.int .u64 n, .int .u64 0, .int .u64 0, .int .u64 0]] w (RetBel (N4.v t) w)) := fun w => by
    have e : U (uN n) = n := by unfold U; rw [un]; omega
    have h := exp_law ⟨2#64, 0#64, 0#64, 0#64⟩ ⟨uN n, 0#64, 0#64, 0#64⟩ w
    rw [← ht] at h
    show Calls Try.prog 21 #[N4.v ⟨2#64, 0#64, 0#64, 0#64⟩, _] w _
    have hv : (Value.agg #[.int .u64 n, .int .u64 0, .int .u64 0, .int .u64 0]) = N4.v ⟨uN n, 0#64, 0#64, 0#64⟩ := by show _ = Value.agg #[.int .u64 (U (uN n)), _, _, _]; rw [e]; rfl
    rw [hv]
    exact h
  have h1 : (x.lsh (uN n)).eqb (x.mul t) = true := (eqb_iff _ _).2 (toNat_inj (by rw [lsh_toNat, mul_toNat, tt, un]))
  have h2 : (x.rsh (uN n)).eqb (ofN (x.toNat / t.toNat)) = true := (eqb_iff _ _).2 (toNat_inj (by
    rw [rsh_toNat, ofN_toNat, tt, un]
    exact (Nat.mod_eq_of_lt (Nat.lt_of_le_of_lt (Nat.div_le_self _ _) (toNat_lt x))).symm))
  have M1 : Hid (∀ w, Calls Try.prog 22 #[x.v, t.v] w (RetBel (N4.v (x.mul t)) w)) := fun w => mul_law x t w
  have D1 : Hid (∀ w, Calls Try.prog 31 #[freshW.v, .agg #[.int .u64 0, .int .u64 0, .int .u64 0, .int .u64 0, V x.a, V x.b, V x.c, V x.d, V t.a, V t.b, V t.c, V t.d, .int .u64 0, .int .u64 0, .int .u64 0, .int .u64 0]] w (RetBel (ansV ⟨ofN (x.toNat / t.toNat), x, t, nulN⟩ false) w)) := fun w => implDiv_any freshW (xyC x t) w freshW_ok
  have L10 : ∀ w, Calls Try.prog 37 #[freshW.v, .agg #[.int .u64 0, .int .u64 0, .int .u64 0, .int .u64 0, V x.a, V x.b, V x.c, V x.d, .int .u64 0, .int .u64 0, .int .u64 0, .int .u64 0, .int .u64 0, .int .u64 0, .int .u64 0, .int .u64 0], .int .i64 (n)] w (RetBel (ansV ⟨x.lsh (uN n), x, nulN, nulN⟩ false) w) := fun w => implLsh_any freshW (oneC x) (n) w freshW_ok
  have L1 := Lib.hid L10
  clear L10
  have R10 : ∀ w, Calls Try.prog 38 #[freshW.v, .agg #[.int .u64 0, .int .u64 0, .int .u64 0, .int .u64 0, V x.a, V x.b, V x.c, V x.d, .int .u64 0, .int .u64 0, .int .u64 0, .int .u64 0, .int .u64 0, .int .u64 0, .int .u64 0, .int .u64 0], .int .i64 (n)] w (RetBel (ansV ⟨x.rsh (uN n), x, nulN, nulN⟩ false) w) := fun w => implRsh_any freshW (oneC x) (n) w freshW_ok
  have R1 := Lib.hid R10
  clear R10
  clear ht hout tt un
  generalize ofN (x.toNat / t.toNat) = dq at *
  go_enter Try.func11, Try.ntmps11
  go_wp2
  go_region_held3 (Keeps (w.heap.size + 1) (w.alloc (Obj.cells #[V x.a, V x.b, V x.c, V x.d] 26))) (first | exact Keeps.start _ _ | exact Keeps.step (by assumption) (by simp) hb)
    (first | (go_at_call 28; refine (fresh_any _).mono ?_; rintro e w1 ⟨rfl, hb⟩) | (go_at_call 37; (first | (with_reducible refine (L0.out _).mono ?_)); rintro e w1 ⟨rfl, hb⟩) | (go_at_call 38; (first | (with_reducible refine (R0.out _).mono ?_)); rintro e w1 ⟨rfl, hb⟩))
  obtain ⟨k1, hbw⟩ := ‹Keeps _ _ _›
  have zsz := hbw.size
  have hx : Hid (At4 w1 w.heap.size 0 x) := ⟨by rw [k1 _ _ (by omega)]; simp [go_sem], by rw [k1 _ _ (by omega)]; simp [go_sem], by rw [k1 _ _ (by omega)]; simp [go_sem], by rw [k1 _ _ (by omega)]; simp [go_sem]⟩
  have belw : Hid (Below w.heap.size w w1) := (bel_alloc (bel_refl w) (Obj.cells #[V x.a, V x.b, V x.c, V x.d] 26)).trans (hbw.mono (by omega))
  clear k1 hbw zsz
  go_wp2_with fail
  refine (E.out _).mono ?_
  rintro e w2 ⟨rfl, hb2⟩
  have hx2 := Lib.hid (hx.out.bel hb2)
  have bel2 := Lib.hid (bel_trans belw.out hb2)
  clear hx belw hb2
  have hth : (w2.alloc (Obj.cells #[.int .u64 0, .int .u64 0, .int .u64 0, .int .u64 0] 26)).there w2.heap.size 0 4 := there_at _ _ _ _ _ (by simp) (by simp [go_sem])
  have hx3 := Lib.hid ((hx2.out.alloc (Obj.cells #[.int .u64 0, .int .u64 0, .int .u64 0, .int .u64 0] 26)).setFar4 (g := w2.heap.size) (k := 0) (cs := [V t.a, V t.b, V t.c, V t.d]) (by have := hx2.out.lt; omega))
  have ht3 := Lib.hid (At4.setNew (x := t) hth)
  have bel3 := Lib.hid (setCells_bel (o := 0) (vs := [V t.a, V t.b, V t.c, V t.d]) (bel_alloc bel2.out (Obj.cells #[.int .u64 0, .int .u64 0, .int .u64 0, .int .u64 0] 26)) (B := w2.heap.size) bel2.out.size)
  go_upto_region 6 with (refine wpList_store_mid rfl 26 _ _ rfl w2.heap.size 0 [V t.a, V t.b, V t.c, V t.d].toArray rfl rfl hth (by kernel_rfl) (by simp [Value.oneCell']) ?_)
  clear hth hx2 bel2
  generalize (w2.alloc (Obj.cells #[.int .u64 0, .int .u64 0, .int .u64 0, .int .u64 0] 26)).setCells w2.heap.size 0 [V t.a, V t.b, V t.c, V t.d] = W at *
  have hxl := hx3.out.lt
  have htl := ht3.out.lt
  obtain ⟨x0, x1, x2, x3⟩ := hx3.out
  obtain ⟨t0, t1, t2, t3⟩ := ht3.out
  simp only [Nat.zero_add] at x1 x2 x3 t1 t2 t3
  go_region_held3 (Keeps W.heap.size W) (first | assumption | exact Keeps.start _ _ | exact Keeps.step (by assumption) (Nat.le_refl _) hb)
    (first | (go_at_call 28; refine (fresh_any _).mono ?_; rintro e w1 ⟨rfl, hb⟩) | (go_at_call 37; (first | (with_reducible refine (L1.out _).mono ?_)); rintro e w1 ⟨rfl, hb⟩) | (go_at_call 38; (first | (with_reducible refine (R1.out _).mono ?_)); rintro e w1 ⟨rfl, hb⟩) | (go_at_call 22; (first | (with_reducible refine (M1.out _).mono ?_)); rintro e w1 ⟨rfl, hb⟩) | (go_at_call 31; (first | (with_reducible refine (D1.out _).mono ?_)); rintro e w1 ⟨rfl, hb⟩))
  go_wp2
  go_ret
  exact retBel rfl ((‹Keeps _ _ _›).bel bel3.out.size bel3.out)

set_option maxRecDepth 100000 in
theorem lifted (os : Os) (started : os.Started) (H : Type) (enc : TypeId × Value → H) :
    ReturnsInHanded {} Try.checked os 11 .any (Rows.fnShiftIsMulSpec.pre6 enc Try.prog Try.f11 Rows.fnShiftIsMulRow.domain false) (Rows.fnShiftIsMulSpec.post enc Try.prog Try.f11 false true false false) := by
  refine returnsInHanded_of_change (C := Try.checked) Try.own started (by kernel_rfl) Try.func11
    (ChangeSpec.witness6 (enc := enc) (C := Try.checked) false ⟨#[], #[.agg #[.int .u64 0, .int .u64 0, .int .u64 0, .int .u64 0], .int .i64 0], []⟩ 8 (by kernel_rfl) (by kernel_rfl) (by kernel_rfl) (by kernel_rfl)) ?_
  intro W base args ds gs before hval0 hW hcnd _
  have hval : ∀ (j : Nat) t v, Try.f11.params[j]? = some t → args[j]? = some v → Value.okWide Try.prog W .any base t v := hval0
  have hW' := hW
  obtain ⟨p, q, hA0, hV, rfl, hfz, hnd⟩ := hW
  have hA : DataW.TrodAll enc Try.prog W 0 (fun _ => true) true Try.f11.params.toList args.toList ds p := hA0
  rw [Try.params11] at hA hval
  obtain ⟨v0, vs0, d0, ds0, p0, q0, hargs, rfl, rfl, h0, r0⟩ := trodAll_cons hA
  obtain ⟨v1, vs1, d1, ds1, p1, q1, rfl, rfl, rfl, h1, r1⟩ := trodAll_cons r0
  obtain ⟨rfl, rfl, rfl⟩ := trodAll_nil r1
  obtain rfl : args = #[v0, v1] := by cases args; simp_all
  obtain ⟨rfl, rfl⟩ := trodVars_none hV
  have k0 := h0
  have lt0 : ∀ x ∈ p0, x.block < W.heap.size := by obtain ⟨m, hm⟩ := k0; exact DataW.trod_lt m _ _ _ hm
  obtain ⟨x0, rfl⟩ := open_num (hval 0 26 v0 rfl rfl)
  have k1 := h1
  have lt1 : ∀ x ∈ p1, x.block < W.heap.size := by obtain ⟨m, hm⟩ := k1; exact DataW.trod_lt m _ _ _ hm
  obtain ⟨x1, rfl, g1⟩ := open_i64 (hval 1 3 v1 rfl rfl)
  clear hA0 hval0
  refine (walk x0 x1 g1 W).mono fun e W' ⟨he, bel⟩ => ?_
  subst he
  exact ⟨_, rfl, _, _, _, [], _, [], hW', trodAll_mk1 (shut_bool Try.underlying4 _), (trodAll_cons_mk (Below.trod Try.laidOut (by kernel_rfl) (of_decide_eq_true (by kernel_rfl)) k0 bel lt0) (trodAll_cons_mk (Below.trod Try.laidOut (by kernel_rfl) (of_decide_eq_true (by kernel_rfl)) k1 bel lt1) trodAll_mk0)), rfl, bel.frame _, fun h => by cases h⟩

theorem holds : Rows.FnShiftIsMulSaid :=
  OpenClaim.holds_of_wide 11 Try.f11 rfl rfl rfl rfl rfl rfl rfl ⟨rfl, rfl, rfl, rfl, rfl⟩ rfl rfl rfl rfl rfl (by kernel_rfl) Try.func11 (by kernel_rfl)
    (of_decide_eq_true (by kernel_rfl)) (by unfold Func.isWrapper; first | (rw [if_pos (by decide +kernel)]; kernel_rfl) | (rw [if_neg (by decide +kernel)]; exact ⟨rfl, rfl⟩))
    (fun os started H enc _ => lifted os started H enc)
#print axioms holds
end Go.Proofs.Ytoojfokhaennoaa.fnShiftIsMul
