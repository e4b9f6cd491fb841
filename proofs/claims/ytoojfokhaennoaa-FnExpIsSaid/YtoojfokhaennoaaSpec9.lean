/-
  The reference's power.
-/
import Derived.Test.YtoojfokhaennoaaSpec4
import Derived.Test.YtoojfokhaennoaaDig7
import Derived.Test.YtoojfokhaennoaaSpec1
import Derived.Test.YtoojfokhaennoaaExp
namespace Go.Proofs.Ytoojfokhaennoaa
set_option maxRecDepth 20000
open Go.RowKit
set_option linter.unusedVariables false
set_option linter.unusedSimpArgs false
set_option maxRecDepth 20000
/-- What the loop keeps: the boxes, the result's cell, the number so far. -/
structure ExpS (w W : World) (x y acc : N4) : Prop where
  ax : At4 W w.heap.size 0 x
  ay : At4 W (w.heap.size + 1) 0 y
  ac : At4 W (w.heap.size + 3) 0 acc
  ta : W.there (w.heap.size + 3) 0 4
  tr : W.there (w.heap.size + 2) 0 4
  bel : Below w.heap.size w W
theorem ExpS.of {w W W' : World} {x y acc : N4} (h : ExpS w W x y acc) (k : Below W.heap.size W W') : ExpS w W' x y acc :=
  ⟨h.ax.bel k, h.ay.bel k, h.ac.bel k, there_bel h.ta (by omega) k, there_bel h.tr (by omega) k, bel_trans h.bel k⟩
theorem ExpS.store {w W : World} {x y acc : N4} (h : ExpS w W x y acc) (z : N4) : ExpS w (W.setCells (w.heap.size + 3) 0 [V z.a, V z.b, V z.c, V z.d]) x y z :=
  ⟨h.ax.setFar4 (by omega), h.ay.setFar4 (by omega), At4.setNew h.ta, World.there_setCells h.ta _ _ _, World.there_setCells h.tr _ _ _, setCells_bel h.bel (by omega)⟩
theorem exps_sq (x e k : Nat) : x ^ (e / 2 ^ (k + 1)) * x ^ (e / 2 ^ (k + 1)) = x ^ (2 * (e / 2 ^ (k + 1))) := by rw [← Nat.pow_add]; congr 1; omega
theorem exps_half (e k : Nat) : e / 2 ^ k = 2 * (e / 2 ^ (k + 1)) + e / 2 ^ k % 2 := by
  have h : e / 2 ^ (k + 1) = e / 2 ^ k / 2 := by rw [Nat.pow_succ, Nat.div_div_eq_div_mul]
  rw [h]; omega
theorem exps_mul (x e k : Nat) (h : e / 2 ^ k % 2 = 1) : ofN ((ofN (x ^ (2 * (e / 2 ^ (k + 1))))).toNat * x) = ofN (x ^ (e / 2 ^ k)) := by
  apply toNat_inj
  have hh := exps_half e k
  rw [h] at hh
  rw [hh, Nat.pow_succ x, ofN_toNat, ofN_toNat, ofN_toNat, Nat.mod_mul_mod]
set_option maxHeartbeats 8000000 in
theorem specExp_any (x y : N4) (w : World) : Calls Try.prog 18 #[x.v, y.v] w (RetBel (N4.v (x.exp y)) w) := by
  go_enter Try.func18, Try.ntmps18
  go_wp2_with fail
  go_loopw [6] (fun t wr => ∃ k : Nat, t = .int .i64 ((k : Int) - 1) ∧ k ≤ 256 ∧ Hid (ExpS w wr x y (ofN (x.toNat ^ (y.toNat / 2 ^ k))))) (fun t _ => (intOf t + 1).toNat)
  case atStart =>
    refine ⟨256, rfl, Nat.le_refl _, ?_⟩
    have e : y.toNat / 2 ^ 256 = 0 := Nat.div_eq_of_lt (toNat_lt y)
    refine ⟨?_, ?_, ?_, ?_, ?_, bel_alloc (bel_alloc (bel_alloc (bel_alloc (bel_refl w) _) _) _) _⟩
    · constructor <;> simp [go_sem]
    · constructor <;> simp [go_sem]
    · rw [e, Nat.pow_zero, ofN_one]
      constructor <;> simp [go_sem] <;> rfl
    · exact there_at _ _ _ _ _ (by simp) (by simp [go_sem])
    · exact there_bel (there_at _ _ _ _ _ (by simp) (by simp [go_sem])) (by omega) (bel_alloc (bel_refl _) _)
  case round =>
    obtain ⟨k, rfl, hk, H⟩ := hrel
    obtain ⟨wo, rfl⟩ : ∃ wo : World, wo = wr := ⟨_, rfl⟩
    rcases Nat.eq_zero_or_pos k with h0 | hp
    · subst h0
      obtain ⟨r0, r1, r2, r3⟩ := H.out.ac
      have hres := H.out.tr
      have hbel := H.out.bel
      rw [Nat.pow_zero, Nat.div_one] at r0 r1 r2 r3
      have R : Hid (x.exp y = ofN (x.toNat ^ y.toNat)) := rfl
      generalize ofN (x.toNat ^ y.toNat) = r at *
      clear H
      go_wp2_with (refine wpList_store_mid rfl 26 _ _ rfl (w.heap.size + 2) 0 [V (r).a, V (r).b, V (r).c, V (r).d].toArray rfl rfl hres (by kernel_rfl) (by simp [Value.oneCell']) ?_)
      exact retBel_row rfl rfl (w.heap.size + 2) [V (r).a, V (r).b, V (r).c, V (r).d] _ rfl (World.rangeAt_setCells_same wo _ 0 _ hres) Try.underlying26 rfl (by kernel_rfl) (by rw [R.out]) (setCells_bel hbel (by omega))
    · obtain ⟨n, rfl⟩ : ∃ n, k = n + 1 := ⟨k - 1, by omega⟩
      obtain ⟨r0, r1, r2, r3⟩ := H.out.ac
      have dk : decide ((n : Int) ≥ 0) = true := decide_eq_true (by omega)
      have E1 : Hid (ofN ((ofN (x.toNat ^ (y.toNat / 2 ^ (n + 1)))).toNat * (ofN (x.toNat ^ (y.toNat / 2 ^ (n + 1)))).toNat) = ofN (x.toNat ^ (2 * (y.toNat / 2 ^ (n + 1))))) := by
        show _ = _
        rw [ofN_mul, exps_sq]
      obtain ⟨a, ha⟩ : ∃ a, a = ofN (x.toNat ^ (y.toNat / 2 ^ (n + 1))) := ⟨_, rfl⟩
      rw [← ha] at H E1 r0 r1 r2 r3
      clear ha
      go_wp2_with fail
      refine (specMul_any a a _).mono ?_
      rintro e w1 ⟨rfl, hb1⟩
      rw [E1.out]
      have H1 := Lib.hid (H.out.of hb1)
      have T1 := H1.out.ta
      have H2 := Lib.hid (H1.out.store (ofN (x.toNat ^ (2 * (y.toNat / 2 ^ (n + 1))))))
      have HF := Lib.hid (exps_half y.toNat n)
      have H0 : Hid (ofN (x.toNat ^ (2 * (y.toNat / 2 ^ (n + 1)))) = ofN (x.toNat ^ (2 * (y.toNat / 2 ^ (n + 1))))) := rfl
      obtain ⟨b, hb⟩ : ∃ b, b = ofN (x.toNat ^ (2 * (y.toNat / 2 ^ (n + 1)))) := ⟨_, rfl⟩
      rw [← hb] at H2 ⊢
      have HB := Lib.hid hb
      clear hb r0 r1 r2 r3 H H1 H0 E1
      go_upto_region 6 with (refine wpList_store_mid rfl 26 _ _ rfl (w.heap.size + 3) 0 [V b.a, V b.b, V b.c, V b.d].toArray rfl rfl T1 (by kernel_rfl) (by simp [Value.oneCell']) ?_)
      generalize w1.setCells (w.heap.size + 3) 0 [V b.a, V b.b, V b.c, V b.d] = W at *
      obtain ⟨y0, y1, y2, y3⟩ := H2.out.ay
      go_wp2_with fail
      refine (whole_dg y _).mono ?_
      rintro e w2 ⟨vd, rfl, Dd, hb2⟩
      have H3 := Lib.hid (H2.out.of hb2)
      clear H2 y0 y1 y2 y3
      go_wp2_with fail
      refine (bit_dg vd y.toNat _ n _ Dd (by omega) (by omega)).mono ?_
      rintro e w' ⟨rfl, rfl⟩
      by_cases hbit : y.toNat / 2 ^ n % 2 = 1
      · have HX : Hid (ofN (b.toNat * x.toNat) = ofN (x.toNat ^ (y.toNat / 2 ^ n))) := by
          show _ = _
          rw [HB.out]
          exact exps_mul _ _ _ hbit
        rw [hbit]
        obtain ⟨x0, x1, x2, x3⟩ := H3.out.ax
        obtain ⟨b0, b1, b2, b3⟩ := H3.out.ac
        clear HB HF hbit Dd hb2 T1
        go_wp2_with fail
        refine (specMul_any b x _).mono ?_
        rintro e w3 ⟨rfl, hb3⟩
        rw [HX.out]
        clear x0 x1 x2 x3 b0 b1 b2 b3 HX
        have H4 := Lib.hid (H3.out.of hb3)
        have T4 := H4.out.ta
        obtain ⟨r, hr⟩ : ∃ r, r = ofN (x.toNat ^ (y.toNat / 2 ^ n)) := ⟨_, rfl⟩
        rw [← hr]
        have H5 := Lib.hid (H4.out.store r)
        have HR := Lib.hid hr
        clear hr H3 H4
        go_upto_region 4 with (refine wpList_store_mid rfl 26 _ _ rfl (w.heap.size + 3) 0 [V r.a, V r.b, V r.c, V r.d].toArray rfl rfl T4 (by kernel_rfl) (by simp [Value.oneCell']) ?_)
        clear T4
        go_wp2_with fail
        go_roundw
        case rel => exact ⟨n, rfl, by omega, by rw [← HR.out]; exact H5⟩
        case measure => simp [intOf] <;> omega
      · have HX : Hid (b = ofN (x.toNat ^ (y.toNat / 2 ^ n))) := by
          have h := HF.out
          show _ = _
          rw [HB.out]
          congr 2
          omega
        rw [HX.out] at H3
        have h01 : y.toNat / 2 ^ n % 2 = 0 := by omega
        rw [h01]
        clear HX HB HF hbit h01 Dd hb2 T1
        go_wp2_with fail
        go_roundw
        case rel => exact ⟨n, rfl, by omega, H3⟩
        case measure => simp [intOf] <;> omega
end Go.Proofs.Ytoojfokhaennoaa
