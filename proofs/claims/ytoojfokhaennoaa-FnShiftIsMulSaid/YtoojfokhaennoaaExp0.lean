/-
  Contracts of uint256's BitLen and squared.
-/
import Derived.Test.YtoojfokhaennoaaLen
import Derived.Test.YtoojfokhaennoaaArith
import Derived.Test.YtoojfokhaennoaaMulEx
import Derived.Deep.DeepCutAuto
import Derived.BigRegion
namespace Go.Proofs.Ytoojfokhaennoaa
open Go.RowKit
set_option linter.unusedVariables false
set_option linter.unusedSimpArgs false
set_option maxRecDepth 20000
/-- How many bits a number has. -/
def N4.bits (x : N4) : Nat := if x.d ≠ 0#64 then 192 + Lib.bitLen x.d.toNat else if x.c ≠ 0#64 then 128 + Lib.bitLen x.c.toNat else if x.b ≠ 0#64 then 64 + Lib.bitLen x.b.toNat else Lib.bitLen x.a.toNat
theorem word_bits (v : W64) (h : v ≠ 0#64) : 1 ≤ Lib.bitLen v.toNat ∧ Lib.bitLen v.toNat ≤ 64 ∧ 2 ^ (Lib.bitLen v.toNat - 1) ≤ v.toNat ∧ v.toNat < 2 ^ Lib.bitLen v.toNat := by
  have h0 : v.toNat ≠ 0 := fun e => h (BitVec.eq_of_toNat_eq e)
  obtain ⟨a, b, c⟩ := bl_bounds 64 v.toNat v.isLt h0
  exact ⟨a, bl_le _ v.isLt, b, c⟩
theorem bits_part (lo v k : Nat) (L : Nat) (h1 : 1 ≤ L) (h2 : 2 ^ (L - 1) ≤ v) (h3 : v < 2 ^ L) (hlo : lo < 2 ^ k) : 2 ^ (k + L - 1) ≤ lo + 2 ^ k * v ∧ lo + 2 ^ k * v < 2 ^ (k + L) := by
  have e1 : 2 ^ (k + L - 1) = 2 ^ k * 2 ^ (L - 1) := by rw [← Nat.pow_add]; congr 1; omega
  have e2 : 2 ^ (k + L) = 2 ^ k * 2 ^ L := Nat.pow_add _ _ _
  have h4 : 2 ^ k * 2 ^ (L - 1) ≤ 2 ^ k * v := Nat.mul_le_mul_left _ h2
  have h5 : 2 ^ k * (v + 1) ≤ 2 ^ k * 2 ^ L := Nat.mul_le_mul_left _ h3
  rw [Nat.mul_add, Nat.mul_one] at h5
  rw [e1, e2]
  omega
theorem bits_spec (x : N4) : x.toNat < 2 ^ x.bits ∧ (x.toNat ≠ 0 → 1 ≤ x.bits ∧ 2 ^ (x.bits - 1) ≤ x.toNat) ∧ x.bits ≤ 256 := by
  have a0 := x.a.isLt; have a1 := x.b.isLt; have a2 := x.c.isLt; have a3 := x.d.isLt
  unfold N4.bits
  by_cases hd : x.d ≠ 0#64
  · rw [if_pos hd]
    obtain ⟨h1, h2, h3, h4⟩ := word_bits x.d hd
    obtain ⟨k1, k2⟩ := bits_part (x.a.toNat + 2 ^ 64 * x.b.toNat + 2 ^ 128 * x.c.toNat) x.d.toNat 192 _ h1 h3 h4 (by omega)
    exact ⟨k2, fun _ => ⟨by omega, k1⟩, by omega⟩
  · rw [if_neg hd]
    have e3 : x.d.toNat = 0 := by rw [Decidable.not_not.1 hd]; rfl
    by_cases hc : x.c ≠ 0#64
    · rw [if_pos hc]
      obtain ⟨h1, h2, h3, h4⟩ := word_bits x.c hc
      obtain ⟨k1, k2⟩ := bits_part (x.a.toNat + 2 ^ 64 * x.b.toNat) x.c.toNat 128 _ h1 h3 h4 (by omega)
      have e : x.toNat = x.a.toNat + 2 ^ 64 * x.b.toNat + 2 ^ 128 * x.c.toNat := by unfold N4.toNat; omega
      rw [e]
      exact ⟨k2, fun _ => ⟨by omega, k1⟩, by omega⟩
    · rw [if_neg hc]
      have e2 : x.c.toNat = 0 := by rw [Decidable.not_not.1 hc]; rfl
      by_cases hb : x.b ≠ 0#64
      · rw [if_pos hb]
        obtain ⟨h1, h2, h3, h4⟩ := word_bits x.b hb
        obtain ⟨k1, k2⟩ := bits_part x.a.toNat x.b.toNat 64 _ h1 h3 h4 (by omega)
        have e : x.toNat = x.a.toNat + 2 ^ 64 * x.b.toNat := by unfold N4.toNat; omega
        rw [e]
        exact ⟨k2, fun _ => ⟨by omega, k1⟩, by omega⟩
      · rw [if_neg hb]
        have e1 : x.b.toNat = 0 := by rw [Decidable.not_not.1 hb]; rfl
        have e : x.toNat = x.a.toNat := by unfold N4.toNat; omega
        rw [e]
        by_cases ha : x.a = 0#64
        · rw [ha]
          exact ⟨by decide, fun h => absurd rfl h, by decide⟩
        · obtain ⟨h1, h2, h3, h4⟩ := word_bits x.a ha
          exact ⟨h4, fun _ => ⟨h1, h3⟩, by omega⟩
set_option maxHeartbeats 1000000 in
theorem bitLen_any (b o : Nat) (x : N4) (w : World) (hx : At4 w b o x) : Calls Try.prog 82 #[.pointer (some ⟨b, o, none⟩)] w fun e w' => e = .returned (.int .i64 (x.bits : Nat)) ∧ w' = w := by
  obtain ⟨x0, x1, x2, x3⟩ := hx
  have key : ∀ n, x.bits = n → Hid (x.bits = n) := fun _ h => h
  have la := bl_le x.a.toNat x.a.isLt
  have lb := bl_le x.b.toNat x.b.isLt
  have lc := bl_le x.c.toNat x.c.isLt
  have ld := bl_le x.d.toNat x.d.isLt
  have LA := Lib.hid (len64_any x.a)
  have LB := Lib.hid (len64_any x.b)
  have LC := Lib.hid (len64_any x.c)
  have LD := Lib.hid (len64_any x.d)
  cases hd : (x.d != 0#64)
  · have hd' : ¬ x.d ≠ 0#64 := by simpa using hd
    cases hc : (x.c != 0#64)
    · have hc' : ¬ x.c ≠ 0#64 := by simpa using hc
      cases hb : (x.b != 0#64)
      · have hb' : ¬ x.b ≠ 0#64 := by simpa using hb
        have K := key _ (by unfold N4.bits; rw [if_neg hd', if_neg hc', if_neg hb'])
        clear key hd' hc' hb'
        generalize Lib.bitLen x.a.toNat = l at *
        go_enter Try.func82, Try.ntmps82
        go_wp2_with (go_at_call 113; refine (LA.out _).mono ?_; rintro e w' ⟨rfl, rfl⟩)
        go_ret
        rw [K.out]
        exact ⟨rfl, rfl⟩
      · have hb' : x.b ≠ 0#64 := by simpa using hb
        have K := key _ (by unfold N4.bits; rw [if_neg hd', if_neg hc', if_pos hb'])
        clear key hd' hc' hb'
        generalize Lib.bitLen x.b.toNat = l at *
        go_enter Try.func82, Try.ntmps82
        go_wp2_with (go_at_call 113; refine (LB.out _).mono ?_; rintro e w' ⟨rfl, rfl⟩)
        go_ret
        rw [K.out]
        exact ⟨by congr 2, rfl⟩
    · have hc' : x.c ≠ 0#64 := by simpa using hc
      have K := key _ (by unfold N4.bits; rw [if_neg hd', if_pos hc'])
      clear key hd' hc'
      generalize Lib.bitLen x.c.toNat = l at *
      go_enter Try.func82, Try.ntmps82
      go_wp2_with (go_at_call 113; refine (LC.out _).mono ?_; rintro e w' ⟨rfl, rfl⟩)
      go_ret
      rw [K.out]
      exact ⟨by congr 2, rfl⟩
  · have hd' : x.d ≠ 0#64 := by simpa using hd
    have K := key _ (by unfold N4.bits; rw [if_pos hd'])
    clear key hd'
    generalize Lib.bitLen x.d.toNat = l at *
    go_enter Try.func82, Try.ntmps82
    go_wp2_with (go_at_call 113; refine (LD.out _).mono ?_; rintro e w' ⟨rfl, rfl⟩)
    go_ret
    rw [K.out]
    exact ⟨by congr 2, rfl⟩
theorem sq_whole (x0 x1 x2 x3 : Nat) : (x0 + 2 ^ 64 * x1 + 2 ^ 128 * x2 + 2 ^ 192 * x3) * (x0 + 2 ^ 64 * x1 + 2 ^ 128 * x2 + 2 ^ 192 * x3) =
    x0 * x0 + 2 ^ 64 * (2 * (x0 * x1)) + 2 ^ 128 * (2 * (x0 * x2) + x1 * x1) + 2 ^ 192 * (2 * (x0 * x3 + x1 * x2)) + 2 ^ 256 * (2 * (x1 * x3) + x2 * x2 + 2 ^ 64 * (2 * (x2 * x3)) + 2 ^ 128 * (x3 * x3)) := by grind
theorem sq_sum (p00 p01 p02 p11 p03 p12 l2 h2 l3 h3 l4 h4 l5 h5 l6 h6 l7 h7 r3 rest : Nat) (E2 : l2 + 18446744073709551616 * h2 = p00) (E3 : l3 + 18446744073709551616 * h3 = h2 + p01) (E4 : l4 + 18446744073709551616 * h4 = h3 + p02)
    (E5 : l5 + 18446744073709551616 * h5 = l3 + p01) (E6 : l6 + 18446744073709551616 * h6 = l4 + p11 + h5) (E7 : l7 + 18446744073709551616 * h7 = l6 + p02) (hr : r3 = (2 * (p03 + p12) + h4 + h6 + h7) % 18446744073709551616)
    (b2 : l2 < 18446744073709551616) (b5 : l5 < 18446744073709551616) (b7 : l7 < 18446744073709551616) :
    l2 + 2 ^ 64 * l5 + 2 ^ 128 * l7 + 2 ^ 192 * r3 = (p00 + 2 ^ 64 * (2 * p01) + 2 ^ 128 * (2 * p02 + p11) + 2 ^ 192 * (2 * (p03 + p12)) + 2 ^ 256 * rest) % 2 ^ 256 := by omega
theorem u64_twice (x : W64) : IntKind.u64.wrap (2 * U x) = U (2#64 * x) := u64_mul 2#64 x
attribute [local go_sem] u64_twice
set_option maxHeartbeats 8000000 in
theorem squared_any (b o : Nat) (x : N4) (w : World) (hx : At4 w b o x) (fx : Free4 w b o) : Calls Try.prog 85 #[.pointer (some ⟨b, o, none⟩)] w fun e w' => e = .returned (.tuple #[]) ∧ ∃ n, w' = (put4 w b o (ofN (x.toNat * x.toNat))).drewN n := by
  obtain ⟨x0, x1, x2, x3⟩ := hx
  obtain ⟨f0, f1, f2, f3⟩ := fx
  go_enter Try.func85, Try.ntmps85
  go_wp2
  go_upto_region 2 with fail
  go_region_held3 (fun w' => w'.cell? ⟨b, o, none⟩ = some (V x.a)) (exact x0) ((go_at_call 116; refine (mul64_ex _ _ _).mono ?_; rintro e w' ⟨hi2, lo2, rfl, E2, rfl⟩))
  have HE2 := Lib.hid E2
  clear E2
  go_upto_region 3 with fail
  go_region_held3 (fun w' => w'.cell? ⟨b, o, none⟩ = some (V x.a) ∧ w'.cell? ⟨b, o + 1, none⟩ = some (V x.b)) (exact ⟨x0, x1⟩) ((go_at_call 117; refine (hop_ex _ _ _ _).mono ?_; rintro e w' ⟨hi3, lo3, rfl, E3, rfl⟩))
  have HE3 := Lib.hid E3
  clear E3
  go_upto_region 4 with fail
  go_region_held3 (fun w' => w'.cell? ⟨b, o, none⟩ = some (V x.a) ∧ w'.cell? ⟨b, o + 2, none⟩ = some (V x.c)) (exact ⟨x0, x2⟩) ((go_at_call 117; refine (hop_ex _ _ _ _).mono ?_; rintro e w' ⟨hi4, lo4, rfl, E4, rfl⟩))
  have HE4 := Lib.hid E4
  clear E4
  go_upto_region 5 with fail
  go_region_held3 (fun w' => w'.cell? ⟨b, o, none⟩ = some (V x.a) ∧ w'.cell? ⟨b, o + 1, none⟩ = some (V x.b)) (exact ⟨x0, x1⟩) ((go_at_call 117; refine (hop_ex _ _ _ _).mono ?_; rintro e w' ⟨hi5, lo5, rfl, E5, rfl⟩))
  have HE5 := Lib.hid E5
  clear E5
  go_upto_region 6 with fail
  go_region_held3 (fun w' => w'.cell? ⟨b, o + 1, none⟩ = some (V x.b)) (exact x1) ((go_at_call 118; refine (step_ex _ _ _ _ _).mono ?_; rintro e w' ⟨hi6, lo6, rfl, E6, rfl⟩))
  have HE6 := Lib.hid E6
  clear E6
  go_upto_region 7 with fail
  go_region_held3 (fun w' => w'.cell? ⟨b, o, none⟩ = some (V x.a) ∧ w'.cell? ⟨b, o + 2, none⟩ = some (V x.c)) (exact ⟨x0, x2⟩) ((go_at_call 117; refine (hop_ex _ _ _ _).mono ?_; rintro e w' ⟨hi7, lo7, rfl, E7, rfl⟩))
  have HE7 := Lib.hid E7
  clear E7
  go_upto_region 8 with fail
  go_quiet (fail)
  go_wp2
  go_region
  go_wp2
  have hv : (⟨lo2, lo5, lo7, 2#64 * (x.a * x.d + x.b * x.c) + hi4 + hi6 + hi7⟩ : N4) = ofN (x.toNat * x.toNat) := by
    apply eq_ofN
    have hr : (2#64 * (x.a * x.d + x.b * x.c) + hi4 + hi6 + hi7).toNat = (2 * (x.a.toNat * x.d.toNat + x.b.toNat * x.c.toNat) + hi4.toNat + hi6.toNat + hi7.toNat) % 18446744073709551616 := by
      simp only [BitVec.toNat_add, BitVec.toNat_mul, BitVec.toNat_ofNat]
      generalize x.a.toNat * x.d.toNat = p
      generalize x.b.toNat * x.c.toNat = q
      omega
    show lo2.toNat + 2 ^ 64 * lo5.toNat + 2 ^ 128 * lo7.toNat + 2 ^ 192 * (2#64 * (x.a * x.d + x.b * x.c) + hi4 + hi6 + hi7).toNat = _
    rw [show x.toNat = x.a.toNat + 2 ^ 64 * x.b.toNat + 2 ^ 128 * x.c.toNat + 2 ^ 192 * x.d.toNat from rfl, sq_whole]
    exact sq_sum _ _ _ _ _ _ _ _ _ _ _ _ _ _ _ _ _ _ _ _ HE2.out HE3.out HE4.out HE5.out HE6.out HE7.out hr lo2.isLt lo5.isLt lo7.isLt
  go_end0
  rw [← hv]
  exact ⟨rfl, _, rfl⟩
end Go.Proofs.Ytoojfokhaennoaa
