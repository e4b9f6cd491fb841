/-
  Contracts of uint256's Slt and Sgt, of the thin package's, of the laws' top; comparison of signed numbers is comparison with the sign bit turned.
-/
import Derived.Test.YtnbjmmmefnedhaaSpec3
namespace Go.Proofs.Ytnbjmmmefnedhaa
open Go.RowKit
set_option linter.unusedVariables false
set_option linter.unusedSimpArgs false
/-- z is below x, both with signs. -/
def N4.slt (z x : N4) : Bool := if z.neg = x.neg then z.ltc x else z.neg
theorem sign_nonneg (x : N4) : (0 ≤ x.sign) ↔ x.neg = false := by
  rw [sign_eq]
  cases hz : x.isZ <;> cases hn : x.neg
  · decide
  · decide
  · decide
  · exfalso
    have h1 := (isZ_iff x).1 hz
    have h2 := (neg_iff x).1 hn
    apply h2
    rw [BitVec.lt_def]
    unfold N4.toNat at h1
    simp only [BitVec.toNat_ofNat]
    omega
theorem sign_neg (x : N4) : (x.sign < 0) ↔ x.neg = true := by
  have := sign_nonneg x
  cases h : x.neg
  · rw [h] at this; have := this.2 rfl; constructor
    · intro; omega
    · intro h; cases h
  · rw [h] at this
    constructor
    · intro; rfl
    · intro; rcases Int.lt_or_le x.sign 0 with h2 | h2
      · exact h2
      · have := this.1 h2; cases this
set_option maxHeartbeats 1000000 in
theorem slt_any (b o c p : Nat) (z x : N4) (w : World) (hz : At4 w b o z) (hx : At4 w c p x) :
    Calls Try.prog 54 #[.pointer (some ⟨b, o, none⟩), .pointer (some ⟨c, p, none⟩)] w fun e w' => e = .returned (.bool (z.slt x)) ∧ ∃ n, w' = w.drewN n := by
  have key : ∀ r, z.slt x = r → Hid (z.slt x = r) := fun _ h => h
  have Hz := Lib.hid hz
  have Hx := Lib.hid hx
  clear hz hx
  have SZ : Hid (∀ w, At4 w b o z → Calls Try.prog 80 #[.pointer (some ⟨b, o, none⟩)] w fun e w' => e = .returned (.int .i64 z.sign) ∧ ∃ n, w' = w.drewN n) := fun w h => sign_any b o z w h
  have SX : Hid (∀ w, At4 w c p x → Calls Try.prog 80 #[.pointer (some ⟨c, p, none⟩)] w fun e w' => e = .returned (.int .i64 x.sign) ∧ ∃ n, w' = w.drewN n) := fun w h => sign_any c p x w h
  have sz := sign_nonneg z
  have sx := sign_nonneg x
  cases h1 : z.neg <;> cases h2 : x.neg
  · have K := key (z.ltc x) (by unfold N4.slt; rw [h1, h2]; rfl)
    have s1 : 0 ≤ z.sign := sz.2 h1
    have s2 : ¬ x.sign < 0 := by have := sx.2 h2; omega
    have s2' : 0 ≤ x.sign := sx.2 h2
    have s1' : ¬ z.sign < 0 := by omega
    clear key sz sx h1 h2
    generalize z.sign = sgz at *
    generalize x.sign = sgx at *
    go_enter Try.func54, Try.ntmps54
    go_wp2_with fail
    refine (SZ.out _ Hz.out).mono ?_
    rintro e w1 ⟨rfl, n1, rfl⟩
    go_wp2_with fail
    refine (SX.out _ (Hx.out.drewN n1)).mono ?_
    rintro e w2 ⟨rfl, n2, rfl⟩
    go_wp2_with fail
    refine (lt_any b o c p z x _ (Hz.out.drewN (n1 + n2)) (Hx.out.drewN (n1 + n2))).mono ?_
    rintro e w3 ⟨rfl, n3, rfl⟩
    go_wp2
    go_ret
    rw [K.out]
    exact quiet_end _ rfl
  · have K := key false (by unfold N4.slt; rw [h1, h2]; rfl)
    have s1 : 0 ≤ z.sign := sz.2 h1
    have s2 : x.sign < 0 := (sign_neg x).2 h2
    clear key sz sx h1 h2
    generalize z.sign = sgz at *
    generalize x.sign = sgx at *
    go_enter Try.func54, Try.ntmps54
    go_wp2_with fail
    refine (SZ.out _ Hz.out).mono ?_
    rintro e w1 ⟨rfl, n1, rfl⟩
    go_wp2_with fail
    refine (SX.out _ (Hx.out.drewN n1)).mono ?_
    rintro e w2 ⟨rfl, n2, rfl⟩
    go_wp2
    go_ret
    rw [K.out]
    exact quiet_end _ rfl
  · have K := key true (by unfold N4.slt; rw [h1, h2]; rfl)
    have s1 : z.sign < 0 := (sign_neg z).2 h1
    have s2 : 0 ≤ x.sign := sx.2 h2
    have s1' : ¬ 0 ≤ z.sign := by omega
    clear key sz sx h1 h2
    generalize z.sign = sgz at *
    generalize x.sign = sgx at *
    go_enter Try.func54, Try.ntmps54
    go_wp2_with fail
    refine (SZ.out _ Hz.out).mono ?_
    rintro e w1 ⟨rfl, n1, rfl⟩
    go_wp2_with fail
    refine (SX.out _ (Hx.out.drewN n1)).mono ?_
    rintro e w2 ⟨rfl, n2, rfl⟩
    go_wp2
    go_ret
    rw [K.out]
    exact quiet_end _ rfl
  · have K := key (z.ltc x) (by unfold N4.slt; rw [h1, h2]; rfl)
    have s1 : z.sign < 0 := (sign_neg z).2 h1
    have s2 : x.sign < 0 := (sign_neg x).2 h2
    have s1' : ¬ 0 ≤ z.sign := by omega
    have s2' : ¬ 0 ≤ x.sign := by omega
    clear key sz sx h1 h2
    generalize z.sign = sgz at *
    generalize x.sign = sgx at *
    go_enter Try.func54, Try.ntmps54
    go_wp2_with fail
    refine (SZ.out _ Hz.out).mono ?_
    rintro e w1 ⟨rfl, n1, rfl⟩
    go_wp2_with fail
    refine (SX.out _ (Hx.out.drewN n1)).mono ?_
    rintro e w2 ⟨rfl, n2, rfl⟩
    go_wp2_with fail
    refine (lt_any b o c p z x _ (Hz.out.drewN (n1 + n2)) (Hx.out.drewN (n1 + n2))).mono ?_
    rintro e w3 ⟨rfl, n3, rfl⟩
    go_wp2
    go_ret
    rw [K.out]
    exact quiet_end _ rfl
set_option maxHeartbeats 1000000 in
theorem sgt_any (b o c p : Nat) (z x : N4) (w : World) (hz : At4 w b o z) (hx : At4 w c p x) :
    Calls Try.prog 55 #[.pointer (some ⟨b, o, none⟩), .pointer (some ⟨c, p, none⟩)] w fun e w' => e = .returned (.bool (x.slt z)) ∧ ∃ n, w' = w.drewN n := by
  have key : ∀ r, x.slt z = r → Hid (x.slt z = r) := fun _ h => h
  have Hz := Lib.hid hz
  have Hx := Lib.hid hx
  clear hz hx
  have SZ : Hid (∀ w, At4 w b o z → Calls Try.prog 80 #[.pointer (some ⟨b, o, none⟩)] w fun e w' => e = .returned (.int .i64 z.sign) ∧ ∃ n, w' = w.drewN n) := fun w h => sign_any b o z w h
  have SX : Hid (∀ w, At4 w c p x → Calls Try.prog 80 #[.pointer (some ⟨c, p, none⟩)] w fun e w' => e = .returned (.int .i64 x.sign) ∧ ∃ n, w' = w.drewN n) := fun w h => sign_any c p x w h
  have sz := sign_nonneg z
  have sx := sign_nonneg x
  cases h1 : z.neg <;> cases h2 : x.neg
  · have K := key (x.ltc z) (by unfold N4.slt; rw [h1, h2]; rfl)
    have s1 : 0 ≤ z.sign := sz.2 h1
    have s2 : ¬ x.sign < 0 := by have := sx.2 h2; omega
    have s2' : 0 ≤ x.sign := sx.2 h2
    have s1' : ¬ z.sign < 0 := by omega
    clear key sz sx h1 h2
    generalize z.sign = sgz at *
    generalize x.sign = sgx at *
    go_enter Try.func55, Try.ntmps55
    go_wp2_with fail
    refine (SZ.out _ Hz.out).mono ?_
    rintro e w1 ⟨rfl, n1, rfl⟩
    go_wp2_with fail
    refine (SX.out _ (Hx.out.drewN n1)).mono ?_
    rintro e w2 ⟨rfl, n2, rfl⟩
    go_wp2_with fail
    refine (gt_any b o c p z x _ (Hz.out.drewN (n1 + n2)) (Hx.out.drewN (n1 + n2))).mono ?_
    rintro e w3 ⟨rfl, n3, rfl⟩
    go_wp2
    go_ret
    rw [K.out]
    exact quiet_end _ rfl
  · have K := key true (by unfold N4.slt; rw [h1, h2]; rfl)
    have s1 : 0 ≤ z.sign := sz.2 h1
    have s2 : x.sign < 0 := (sign_neg x).2 h2
    clear key sz sx h1 h2
    generalize z.sign = sgz at *
    generalize x.sign = sgx at *
    go_enter Try.func55, Try.ntmps55
    go_wp2_with fail
    refine (SZ.out _ Hz.out).mono ?_
    rintro e w1 ⟨rfl, n1, rfl⟩
    go_wp2_with fail
    refine (SX.out _ (Hx.out.drewN n1)).mono ?_
    rintro e w2 ⟨rfl, n2, rfl⟩
    go_wp2
    go_ret
    rw [K.out]
    exact quiet_end _ rfl
  · have K := key false (by unfold N4.slt; rw [h1, h2]; rfl)
    have s1 : z.sign < 0 := (sign_neg z).2 h1
    have s2 : 0 ≤ x.sign := sx.2 h2
    have s1' : ¬ 0 ≤ z.sign := by omega
    clear key sz sx h1 h2
    generalize z.sign = sgz at *
    generalize x.sign = sgx at *
    go_enter Try.func55, Try.ntmps55
    go_wp2_with fail
    refine (SZ.out _ Hz.out).mono ?_
    rintro e w1 ⟨rfl, n1, rfl⟩
    go_wp2_with fail
    refine (SX.out _ (Hx.out.drewN n1)).mono ?_
    rintro e w2 ⟨rfl, n2, rfl⟩
    go_wp2
    go_ret
    rw [K.out]
    exact quiet_end _ rfl
  · have K := key (x.ltc z) (by unfold N4.slt; rw [h1, h2]; rfl)
    have s1 : z.sign < 0 := (sign_neg z).2 h1
    have s2 : x.sign < 0 := (sign_neg x).2 h2
    have s1' : ¬ 0 ≤ z.sign := by omega
    have s2' : ¬ 0 ≤ x.sign := by omega
    clear key sz sx h1 h2
    generalize z.sign = sgz at *
    generalize x.sign = sgx at *
    go_enter Try.func55, Try.ntmps55
    go_wp2_with fail
    refine (SZ.out _ Hz.out).mono ?_
    rintro e w1 ⟨rfl, n1, rfl⟩
    go_wp2_with fail
    refine (SX.out _ (Hx.out.drewN n1)).mono ?_
    rintro e w2 ⟨rfl, n2, rfl⟩
    go_wp2_with fail
    refine (gt_any b o c p z x _ (Hz.out.drewN (n1 + n2)) (Hx.out.drewN (n1 + n2))).mono ?_
    rintro e w3 ⟨rfl, n3, rfl⟩
    go_wp2
    go_ret
    rw [K.out]
    exact quiet_end _ rfl
set_option maxHeartbeats 400000 in
theorem implSlt_any (x y : N4) (w : World) : Calls Try.prog 25 #[x.v, y.v] w (RetBel (.bool (x.slt y)) w) := by
  go_enter Try.func25, Try.ntmps25
  go_wp2
  go_region_held3 (Keeps (w.heap.size + 2) ((w.alloc (Obj.cells #[V x.a, V x.b, V x.c, V x.d] 26)).alloc (Obj.cells #[V y.a, V y.b, V y.c, V y.d] 26))) (first | exact Keeps.start _ _ | exact Keeps.step (by assumption) (by simp) m.bel | exact Keeps.quiet (by assumption) _)
    (first | (go_at_call 53; refine (intOf_any _ _).mono ?_; rintro e w1 ⟨B, rfl, m⟩) | (go_at_call 54; refine (slt_any _ 0 _ 0 x y _ ((‹New4 _ _ _ x›).at4.bel (‹New4 _ _ _ y›).bel) (‹New4 _ _ _ y›).at4).mono ?_; rintro e w2 ⟨rfl, n, rfl⟩))
  go_wp2
  go_ret
  exact retBel rfl ((‹Keeps _ _ _›).bel (by omega) (bel_alloc (bel_alloc (bel_refl w) _) _))
set_option maxHeartbeats 400000 in
theorem implSgt_any (x y : N4) (w : World) : Calls Try.prog 26 #[x.v, y.v] w (RetBel (.bool (y.slt x)) w) := by
  go_enter Try.func26, Try.ntmps26
  go_wp2
  go_region_held3 (Keeps (w.heap.size + 2) ((w.alloc (Obj.cells #[V x.a, V x.b, V x.c, V x.d] 26)).alloc (Obj.cells #[V y.a, V y.b, V y.c, V y.d] 26))) (first | exact Keeps.start _ _ | exact Keeps.step (by assumption) (by simp) m.bel | exact Keeps.quiet (by assumption) _)
    (first | (go_at_call 53; refine (intOf_any _ _).mono ?_; rintro e w1 ⟨B, rfl, m⟩) | (go_at_call 55; refine (sgt_any _ 0 _ 0 x y _ ((‹New4 _ _ _ x›).at4.bel (‹New4 _ _ _ y›).bel) (‹New4 _ _ _ y›).at4).mono ?_; rintro e w2 ⟨rfl, n, rfl⟩))
  go_wp2
  go_ret
  exact retBel rfl ((‹Keeps _ _ _›).bel (by omega) (bel_alloc (bel_alloc (bel_refl w) _) _))
def topN : N4 := ⟨0#64, 0#64, 0#64, 9223372036854775808#64⟩
set_option maxHeartbeats 400000 in
theorem top_law (w : World) : Calls Try.prog 24 #[] w (RetBel topN.v w) := by
  go_enter Try.func24, Try.ntmps24
  go_wp2
  refine bodyPost_ret (v := topN.v) (by simp [results, Try.results24, go_sem] <;> first | rfl | exact ⟨rfl, rfl, rfl, rfl⟩) rfl (retBel rfl ?_)
  exact bel_alloc (bel_refl _) _
theorem xor63 (x : Nat) (h : x < 18446744073709551616) : x ^^^ 9223372036854775808 = (x + 9223372036854775808) % 18446744073709551616 := by
  have hq : x = 2 ^ 63 * (x / 2 ^ 63) + x % 2 ^ 63 := (Nat.div_add_mod x (2 ^ 63)).symm
  have hl : x % 2 ^ 63 < 2 ^ 63 := Nat.mod_lt _ (by decide)
  have hr : (x + 9223372036854775808) % 18446744073709551616 = 2 ^ 63 * (1 - x / 2 ^ 63) + x % 2 ^ 63 := by omega
  have h2 : x / 2 ^ 63 = 0 ∨ x / 2 ^ 63 = 1 := by omega
  rw [hr]
  conv => lhs; rw [hq]
  generalize x % 2 ^ 63 = r at hl
  generalize x / 2 ^ 63 = q at h2
  apply Nat.eq_of_testBit_eq
  intro j
  rw [Nat.testBit_xor, Nat.testBit_two_pow_mul_add _ hl, Nat.testBit_two_pow_mul_add _ hl, show (9223372036854775808 : Nat) = 2 ^ 63 from rfl, Nat.testBit_two_pow]
  by_cases hj : j < 63
  · rw [if_pos hj, if_pos hj, decide_eq_false (by omega), Bool.xor_false]
  · rw [if_neg hj, if_neg hj]
    by_cases h63 : 63 = j
    · subst h63
      rcases h2 with rfl | rfl <;> decide
    · rw [decide_eq_false h63, Bool.xor_false]
      have : 0 < j - 63 := by omega
      obtain ⟨m, hm⟩ : ∃ m, j - 63 = m + 1 := ⟨j - 64, by omega⟩
      rw [hm]
      rcases h2 with rfl | rfl <;> simp [Nat.testBit_succ]
theorem xor_top (x : N4) : (x.xor topN).toNat = if x.neg then x.toNat - 2 ^ 255 else x.toNat + 2 ^ 255 := by
  have e : (x.xor topN).toNat = x.a.toNat + 2 ^ 64 * x.b.toNat + 2 ^ 128 * x.c.toNat + 2 ^ 192 * ((x.d.toNat + 9223372036854775808) % 18446744073709551616) := by
    unfold N4.xor topN N4.toNat
    simp only [BitVec.toNat_xor, BitVec.toNat_ofNat]
    rw [Nat.mod_eq_of_lt (show 9223372036854775808 < 2 ^ 64 by decide), xor63 _ x.d.isLt]
    simp
  have hn := neg_iff x
  rw [BitVec.lt_def] at hn
  simp only [BitVec.toNat_ofNat] at hn
  have a4 := x.d.isLt
  rw [e]
  unfold N4.toNat
  cases h : x.neg
  · rw [h] at hn
    have : x.d.toNat < 9223372036854775808 := by
      rcases Nat.lt_or_ge x.d.toNat 9223372036854775808 with h2 | h2
      · exact h2
      · exact absurd (hn.2 (by omega)) (by decide)
    rw [if_neg (by decide)]
    omega
  · rw [h] at hn
    have : 9223372036854775808 ≤ x.d.toNat := by have := hn.1 rfl; omega
    rw [if_pos rfl]
    omega
theorem neg_toNat (x : N4) : x.neg = decide (2 ^ 255 ≤ x.toNat) := by
  have hn := neg_iff x
  rw [BitVec.lt_def] at hn
  simp only [BitVec.toNat_ofNat] at hn
  have a1 := x.a.isLt; have a2 := x.b.isLt; have a3 := x.c.isLt; have a4 := x.d.isLt
  rw [Bool.eq_iff_iff, decide_eq_true_eq, hn]
  unfold N4.toNat
  omega
theorem slt_cmp (z x : N4) : z.slt x = decide (cmpN (z.xor topN).toNat (x.xor topN).toNat < 0) := by
  have e : ∀ a b, decide (cmpN a b < 0) = decide (a < b) := fun a b => by
    unfold cmpN
    by_cases h : a < b
    · rw [if_pos h, decide_eq_true h]; rfl
    · rw [if_neg h, decide_eq_false h]; split <;> rfl
  have n1 := neg_toNat z
  have n2 := neg_toNat x
  have l1 := toNat_lt z
  have l2 := toNat_lt x
  rw [e, xor_top, xor_top]
  unfold N4.slt
  rw [ltc_eq]
  cases h1 : z.neg <;> cases h2 : x.neg
  · rw [if_pos rfl, if_neg (by decide), if_neg (by decide)]
    rw [Bool.eq_iff_iff, decide_eq_true_eq, decide_eq_true_eq]; omega
  · rw [if_neg (by decide), if_neg (by decide), if_pos rfl]
    rw [h1] at n1; rw [h2] at n2
    have m1 := of_decide_eq_false n1.symm
    have m2 := of_decide_eq_true n2.symm
    rw [eq_comm, decide_eq_false_iff_not]; omega
  · rw [if_neg (by decide), if_pos rfl, if_neg (by decide)]
    rw [h1] at n1; rw [h2] at n2
    have m1 := of_decide_eq_true n1.symm
    have m2 := of_decide_eq_false n2.symm
    rw [eq_comm, decide_eq_true_eq]; omega
  · rw [if_pos rfl, if_pos rfl, if_pos rfl]
    rw [h1] at n1; rw [h2] at n2
    have m1 := of_decide_eq_true n1.symm
    have m2 := of_decide_eq_true n2.symm
    rw [Bool.eq_iff_iff, decide_eq_true_eq, decide_eq_true_eq]; omega
theorem slt_cmp' (z x : N4) : x.slt z = decide (0 < cmpN (z.xor topN).toNat (x.xor topN).toNat) := by
  rw [slt_cmp]
  unfold cmpN
  generalize (z.xor topN).toNat = a
  generalize (x.xor topN).toNat = b
  rcases Nat.lt_trichotomy a b with h | h | h
  · rw [if_pos h, if_neg (by omega), if_neg (by omega)]; rfl
  · subst h; simp
  · rw [if_pos h, if_neg (show ¬ a < b by omega), if_neg (by omega)]; rfl
end Go.Proofs.Ytnbjmmmefnedhaa
