/-
  How many bits a number has; the contract of BitLen.
-/
import Derived.Test.YtfaocjcpnjmfiaaGreatDoorLen
namespace Go.Proofs.YtfaocjcpnjmfiaaGreatDoor
open Go.RowKit
set_option linter.unusedVariables false
set_option linter.unusedSimpArgs false
set_option maxRecDepth 20000
/-- How many bits a number has. -/
def N4.bits (x : N4) : Nat := if x.d ≠ 0#64 then 192 + Lib.bitLen x.d.toNat else if x.c ≠ 0#64 then 128 + Lib.bitLen x.c.toNat else if x.b ≠ 0#64 then 64 + Lib.bitLen x.b.toNat else Lib.bitLen x.a.toNat
theorem word_bits (v : W64) (h : v ≠ 0#64) : 1 ≤ Lib.bitLen v.toNat ∧ Lib.bitLen v.toNat ≤ 64 ∧ 2 ^ (Lib.bitLen v.toNat - 1) ≤ v.toNat ∧ v.toNat < 2 ^ Lib.bitLen v.toNat := by
  have h0 : v.toNat ≠ 0 := fun e => h (BitVec.eq_of_toNat_eq e)
  obtain ⟨a, b, c⟩ := bl_bounds 64 v.toNat v.isLt h0
  exact ⟨a, bl_le _ v.isLt, b, c⟩
theorem bits_part (lo v k : Nat) (L : Nat) (h1 : 1 ≤ L) (h2 : 2 ^ (L - 1) ≤ v) (h3 : v < 2 ^ L) (hlo : lo < 2 ^ k) : 2 ^ (k + L - 1) ≤ lo + 2 ^ k * v ∧ lo + 2 ^ k * v < 2 ^ (k + L) := by
  have e1 : 2 ^ (k + L - 1) = 2 ^ k * 2 ^ (L - 1) := by rw [← Nat.pow_add]; congr 1; omega
  have e2 : 2 ^ (k + L) = 2 ^ k * 2 ^ L := Nat.pow_add _ _ _
  have h4 : 2 ^ k * 2 ^ (L - 1) ≤ 2 ^ k * v := Nat.mul_le_mul_left _ h2
  have h5 : 2 ^ k * (v + 1) ≤ 2 ^ k * 2 ^ L := Nat.mul_le_mul_left _ h3
  rw [Nat.mul_add, Nat.mul_one] at h5
  rw [e1, e2]
  omega
theorem bits_spec (x : N4) : x.toNat < 2 ^ x.bits ∧ (x.toNat ≠ 0 → 1 ≤ x.bits ∧ 2 ^ (x.bits - 1) ≤ x.toNat) ∧ x.bits ≤ 256 := by
  have a0 := x.a.isLt; have a1 := x.b.isLt; have a2 := x.c.isLt; have a3 := x.d.isLt
  unfold N4.bits
  by_cases hd : x.d ≠ 0#64
  · rw [if_pos hd]
    obtain ⟨h1, h2, h3, h4⟩ := word_bits x.d hd
    obtain ⟨k1, k2⟩ := bits_part (x.a.toNat + 2 ^ 64 * x.b.toNat + 2 ^ 128 * x.c.toNat) x.d.toNat 192 _ h1 h3 h4 (by omega)
    exact ⟨k2, fun _ => ⟨by omega, k1⟩, by omega⟩
  · rw [if_neg hd]
    have e3 : x.d.toNat = 0 := by rw [Decidable.not_not.1 hd]; rfl
    by_cases hc : x.c ≠ 0#64
    · rw [if_pos hc]
      obtain ⟨h1, h2, h3, h4⟩ := word_bits x.c hc
      obtain ⟨k1, k2⟩ := bits_part (x.a.toNat + 2 ^ 64 * x.b.toNat) x.c.toNat 128 _ h1 h3 h4 (by omega)
      have e : x.toNat = x.a.toNat + 2 ^ 64 * x.b.toNat + 2 ^ 128 * x.c.toNat := by unfold N4.toNat; omega
      rw [e]
      exact ⟨k2, fun _ => ⟨by omega, k1⟩, by omega⟩
    · rw [if_neg hc]
      have e2 : x.c.toNat = 0 := by rw [Decidable.not_not.1 hc]; rfl
      by_cases hb : x.b ≠ 0#64
      · rw [if_pos hb]
        obtain ⟨h1, h2, h3, h4⟩ := word_bits x.b hb
        obtain ⟨k1, k2⟩ := bits_part x.a.toNat x.b.toNat 64 _ h1 h3 h4 (by omega)
        have e : x.toNat = x.a.toNat + 2 ^ 64 * x.b.toNat := by unfold N4.toNat; omega
        rw [e]
        exact ⟨k2, fun _ => ⟨by omega, k1⟩, by omega⟩
      · rw [if_neg hb]
        have e1 : x.b.toNat = 0 := by rw [Decidable.not_not.1 hb]; rfl
        have e : x.toNat = x.a.toNat := by unfold N4.toNat; omega
        rw [e]
        by_cases ha : x.a = 0#64
        · rw [ha]
          exact ⟨by decide, fun h => absurd rfl h, by decide⟩
        · obtain ⟨h1, h2, h3, h4⟩ := word_bits x.a ha
          exact ⟨h4, fun _ => ⟨h1, h3⟩, by omega⟩
set_option maxHeartbeats 1000000 in
theorem bitLen_any (b o : Nat) (x : N4) (w : World) (hx : At4 w b o x) : Calls Tryz.prog 35 #[.pointer (some ⟨b, o, none⟩)] w fun e w' => e = .returned (.int .i64 (x.bits : Nat)) ∧ w' = w := by
  obtain ⟨x0, x1, x2, x3⟩ := hx
  have key : ∀ n, x.bits = n → Hid (x.bits = n) := fun _ h => h
  have la := bl_le x.a.toNat x.a.isLt
  have lb := bl_le x.b.toNat x.b.isLt
  have lc := bl_le x.c.toNat x.c.isLt
  have ld := bl_le x.d.toNat x.d.isLt
  have LA := Lib.hid (len64_any x.a)
  have LB := Lib.hid (len64_any x.b)
  have LC := Lib.hid (len64_any x.c)
  have LD := Lib.hid (len64_any x.d)
  cases hd : (x.d != 0#64)
  · have hd' : ¬ x.d ≠ 0#64 := by simpa using hd
    cases hc : (x.c != 0#64)
    · have hc' : ¬ x.c ≠ 0#64 := by simpa using hc
      cases hb : (x.b != 0#64)
      · have hb' : ¬ x.b ≠ 0#64 := by simpa using hb
        have K := key _ (by unfold N4.bits; rw [if_neg hd', if_neg hc', if_neg hb'])
        clear key hd' hc' hb'
        generalize Lib.bitLen x.a.toNat = l at *
        go_enter Tryz.func35, Tryz.ntmps35
        go_wp2_with (go_at_call 47; refine (LA.out _).mono ?_; rintro e w' ⟨rfl, rfl⟩)
        go_ret
        rw [K.out]
        exact ⟨rfl, rfl⟩
      · have hb' : x.b ≠ 0#64 := by simpa using hb
        have K := key _ (by unfold N4.bits; rw [if_neg hd', if_neg hc', if_pos hb'])
        clear key hd' hc' hb'
        generalize Lib.bitLen x.b.toNat = l at *
        go_enter Tryz.func35, Tryz.ntmps35
        go_wp2_with (go_at_call 47; refine (LB.out _).mono ?_; rintro e w' ⟨rfl, rfl⟩)
        go_ret
        rw [K.out]
        exact ⟨by congr 2, rfl⟩
    · have hc' : x.c ≠ 0#64 := by simpa using hc
      have K := key _ (by unfold N4.bits; rw [if_neg hd', if_pos hc'])
      clear key hd' hc'
      generalize Lib.bitLen x.c.toNat = l at *
      go_enter Tryz.func35, Tryz.ntmps35
      go_wp2_with (go_at_call 47; refine (LC.out _).mono ?_; rintro e w' ⟨rfl, rfl⟩)
      go_ret
      rw [K.out]
      exact ⟨by congr 2, rfl⟩
  · have hd' : x.d ≠ 0#64 := by simpa using hd
    have K := key _ (by unfold N4.bits; rw [if_pos hd'])
    clear key hd'
    generalize Lib.bitLen x.d.toNat = l at *
    go_enter Tryz.func35, Tryz.ntmps35
    go_wp2_with (go_at_call 47; refine (LD.out _).mono ?_; rintro e w' ⟨rfl, rfl⟩)
    go_ret
    rw [K.out]
    exact ⟨by congr 2, rfl⟩
end Go.Proofs.YtfaocjcpnjmfiaaGreatDoor
