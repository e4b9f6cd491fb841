/-
  Contracts of math/bits.Len64 and LeadingZeros64 at every word.
-/
import Derived.Test.YtfaocjcpnjmfiaaGreatDoorBase
import Derived.Lib.Strings
import Derived.Lib.Slices
import Derived.Lib.Small
import Derived.Lib.Walk
import Derived.Lib.BitFns
import Derived.Deep.Light
namespace Go.Proofs.YtfaocjcpnjmfiaaGreatDoor
open Go.RowKit
set_option linter.unusedVariables false
set_option linter.unusedSimpArgs false
theorem bl_bounds : ∀ (f x : Nat), x < 2 ^ f → x ≠ 0 → 1 ≤ Lib.bitLenAux f x ∧ 2 ^ (Lib.bitLenAux f x - 1) ≤ x ∧ x < 2 ^ Lib.bitLenAux f x
  | 0, x, h, h0 => by simp at h; omega
  | f + 1, x, h, h0 => by
    rw [Lib.bitLenAux, if_neg h0]
    by_cases h2 : x / 2 = 0
    · have h1 : x = 1 := by omega
      subst h1
      have : Lib.bitLenAux f (1 / 2) = 0 := by cases f <;> simp [Lib.bitLenAux]
      rw [this]
      decide
    · obtain ⟨a, b, c⟩ := bl_bounds f (x / 2) (by rw [Nat.pow_succ] at h; omega) h2
      generalize Lib.bitLenAux f (x / 2) = L at a b c ⊢
      obtain ⟨m, rfl⟩ : ∃ m, L = m + 1 := ⟨L - 1, by omega⟩
      rw [Nat.add_sub_cancel] at b
      rw [show 1 + (m + 1) - 1 = m + 1 by omega, show 1 + (m + 1) = m + 1 + 1 by omega, Nat.pow_succ 2 (m + 1)]
      rw [Nat.pow_succ] at c ⊢
      omega
theorem bl_zero : Lib.bitLen 0 = 0 := by decide
theorem bl_le (x : Nat) (h : x < 18446744073709551616) : Lib.bitLen x ≤ 64 := Lib.bitLen_le x 64 (Nat.le_refl _) h
/-- A word that is not 0, shifted up until its highest bit is set. -/
theorem bl_shift (x : Nat) (h : x < 18446744073709551616) (h0 : x ≠ 0) : 1 ≤ Lib.bitLen x ∧ 9223372036854775808 ≤ x * 2 ^ (64 - Lib.bitLen x) ∧ x * 2 ^ (64 - Lib.bitLen x) < 18446744073709551616 := by
  obtain ⟨a, b, c⟩ := bl_bounds 64 x h h0
  have hl := bl_le x h
  unfold Lib.bitLen at *
  generalize Lib.bitLenAux 64 x = L at *
  refine ⟨a, ?_, ?_⟩
  · have := Nat.mul_le_mul_right (2 ^ (64 - L)) b
    rw [← Nat.pow_add, show L - 1 + (64 - L) = 63 by omega] at this
    exact this
  · have := Nat.mul_lt_mul_of_pos_right c (Nat.two_pow_pos (64 - L))
    rw [← Nat.pow_add, show L + (64 - L) = 64 by omega] at this
    exact this
theorem bl_top (x : Nat) (h : x < 18446744073709551616) (h1 : 9223372036854775808 ≤ x) : Lib.bitLen x = 64 := by
  obtain ⟨a, b, c⟩ := bl_bounds 64 x h (by omega)
  have hl := bl_le x h
  unfold Lib.bitLen at *
  generalize Lib.bitLenAux 64 x = L at *
  rcases Nat.lt_or_ge L 64 with k | k
  · have : 2 ^ L ≤ 2 ^ 63 := Nat.pow_le_pow_right (by decide) (by omega)
    omega
  · omega
set_option maxRecDepth 100000 in
theorem len8tab_size : (Lib.len8tab.size : Int) = 256 := by
  have : Lib.len8tab.size = 256 := by decide
  omega
theorem wrap_add (k a b : Nat) (hk : k ≤ 56) (ha : a ≤ 8) (hb : b = k + a) : RowKit.wrap64 ((k : Int) + RowKit.wrap64 (a : Int)) = (b : Int) := by
  unfold RowKit.wrap64
  omega
theorem wrap_wrap (a : Nat) (ha : a ≤ 8) : RowKit.wrap64 (RowKit.wrap64 (a : Int)) = (a : Int) := by
  unfold RowKit.wrap64
  omega
theorem wrap_one (a : Nat) (ha : a ≤ 8) : RowKit.wrap64 (a : Int) = (a : Int) := by
  unfold RowKit.wrap64
  omega
theorem len8_get (y : Int) (h : y.toNat < Lib.len8tab.size) : ((Lib.len8tab[y.toNat]'h).toNat : Int) = Lib.len8 y := by
  unfold Lib.len8
  rw [getElem?_pos Lib.len8tab y.toNat h]
  rfl
set_option maxHeartbeats 4000000 in
set_option maxRecDepth 100000 in
theorem len64_int (x : Int) (w : World) (h0 : 0 ≤ x) (h1 : x ≤ 18446744073709551615) :
    Calls Tryz.prog 47 #[.int .u64 x] w fun e w' => e = .returned (.int .i64 (Lib.bitLen x.toNat)) ∧ w' = w := by
  go_enter Tryz.func47, Tryz.ntmps47
  go_wp2
  all_goals first
    | (go_ret; refine ⟨congrArg Ending.returned (congrArg (Value.int IntKind.i64) ?_), rfl⟩; go_light)
    | (exfalso
       go_light
       have hs := len8tab_size
       omega)
  all_goals first
    | (rw [len8_get (x / 4294967296 / 65536 / 256) _, Lib.len8_of (x / 4294967296 / 65536 / 256) (by omega) (by omega)]
       have e : (x / 4294967296 / 65536 / 256).toNat = x.toNat / 72057594037927936 := by omega
       have l := Lib.bitLen_le8' (x / 4294967296 / 65536 / 256) (by omega) (by omega)
       have s := Lib.bitLen_shift56 x.toNat (by omega) (by omega)
       rw [e] at l ⊢
       exact wrap_add 56 _ _ (by decide) l s)
    | (rw [len8_get (x / 4294967296 / 65536) _, Lib.len8_of (x / 4294967296 / 65536) (by omega) (by omega)]
       have e : (x / 4294967296 / 65536).toNat = x.toNat / 281474976710656 := by omega
       have l := Lib.bitLen_le8' (x / 4294967296 / 65536) (by omega) (by omega)
       have s := Lib.bitLen_shift48 x.toNat (by omega) (by omega)
       rw [e] at l ⊢
       exact wrap_add 48 _ _ (by decide) l s)
    | (rw [len8_get (x / 4294967296 / 256) _, Lib.len8_of (x / 4294967296 / 256) (by omega) (by omega)]
       have e : (x / 4294967296 / 256).toNat = x.toNat / 1099511627776 := by omega
       have l := Lib.bitLen_le8' (x / 4294967296 / 256) (by omega) (by omega)
       have s := Lib.bitLen_shift40 x.toNat (by omega) (by omega)
       rw [e] at l ⊢
       exact wrap_add 40 _ _ (by decide) l s)
    | (rw [len8_get (x / 4294967296) _, Lib.len8_of (x / 4294967296) (by omega) (by omega)]
       have e : (x / 4294967296).toNat = x.toNat / 4294967296 := by omega
       have l := Lib.bitLen_le8' (x / 4294967296) (by omega) (by omega)
       have s := Lib.bitLen_shift32 x.toNat (by omega) (by omega)
       rw [e] at l ⊢
       exact wrap_add 32 _ _ (by decide) l s)
    | (rw [len8_get (x / 65536 / 256) _, Lib.len8_of (x / 65536 / 256) (by omega) (by omega)]
       have e : (x / 65536 / 256).toNat = x.toNat / 16777216 := by omega
       have l := Lib.bitLen_le8' (x / 65536 / 256) (by omega) (by omega)
       have s := Lib.bitLen_shift24 x.toNat (by omega) (by omega)
       rw [e] at l ⊢
       exact wrap_add 24 _ _ (by decide) l s)
    | (rw [len8_get (x / 65536) _, Lib.len8_of (x / 65536) (by omega) (by omega)]
       have e : (x / 65536).toNat = x.toNat / 65536 := by omega
       have l := Lib.bitLen_le8' (x / 65536) (by omega) (by omega)
       have s := Lib.bitLen_shift16 x.toNat (by omega) (by omega)
       rw [e] at l ⊢
       exact wrap_add 16 _ _ (by decide) l s)
    | (rw [len8_get (x / 256) _, Lib.len8_of (x / 256) (by omega) (by omega)]
       have e : (x / 256).toNat = x.toNat / 256 := by omega
       have l := Lib.bitLen_le8' (x / 256) (by omega) (by omega)
       have s := Lib.bitLen_shift8 x.toNat (by omega) (by omega)
       rw [e] at l ⊢
       exact wrap_add 8 _ _ (by decide) l s)
    | (rw [len8_get (x) _, Lib.len8_of (x) (by omega) (by omega)]
       have l := Lib.bitLen_le8' (x) (by omega) (by omega)
       first | exact wrap_wrap _ l | exact wrap_add 0 _ _ (by decide) l (by omega) | exact wrap_one _ l)
theorem len64_any (x : W64) (w : World) : Calls Tryz.prog 47 #[V x] w fun e w' => e = .returned (.int .i64 (Lib.bitLen x.toNat : Nat)) ∧ w = w' :=
  (len64_int (U x) w (U_nonneg x) (by have := U_lt x; omega)).mono fun _ _ ⟨he, hw⟩ => ⟨he, hw.symm⟩
theorem leadingZeros64_any (x : W64) (w : World) : Calls Tryz.prog 39 #[V x] w fun e w' => e = .returned (.int .i64 ((64 - Lib.bitLen x.toNat : Nat) : Int)) ∧ w = w' := by
  have hl := bl_le x.toNat x.isLt
  have h := len64_any x
  generalize Lib.bitLen x.toNat = L at *
  have H := Lib.hid h
  clear h
  have e : ((64 - L : Nat) : Int) = 64 - (L : Int) := by omega
  have E := Lib.hid e
  clear e
  go_enter Tryz.func39, Tryz.ntmps39
  go_wp2_with (go_at_call 47; refine (H.out _).mono ?_; rintro e w' ⟨rfl, rfl⟩)
  go_ret
  rw [E.out]
  exact ⟨rfl, rfl⟩
end Go.Proofs.YtfaocjcpnjmfiaaGreatDoor
