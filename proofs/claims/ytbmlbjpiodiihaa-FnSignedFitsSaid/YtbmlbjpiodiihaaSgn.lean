/-
  Signed division by worth: quotient, rest, sign and absolute value as numbers. Plain Lean.
-/
import Derived.Test.YtbmlbjpiodiihaaDiv8
import Derived.Test.YtbmlbjpiodiihaaArith
namespace Go.Proofs.Ytbmlbjpiodiihaa
open Go.RowKit
set_option linter.unusedVariables false
theorem negT (x : N4) : x.neg = decide (2 ^ 255 ≤ x.toNat) := by
  have h := neg_iff x
  rw [BitVec.lt_def] at h
  have := x.a.isLt; have := x.b.isLt; have := x.c.isLt; have := x.d.isLt
  rw [Bool.eq_iff_iff, h, decide_eq_true_eq]
  unfold N4.toNat
  simp only [BitVec.toNat_ofNat]
  omega
theorem signT (x : N4) : x.sign = if x.toNat = 0 then 0 else if 2 ^ 255 ≤ x.toNat then -1 else 1 := by
  rw [sign_eq, negT]
  by_cases h : x.toNat = 0
  · rw [if_pos h, if_pos ((isZ_iff x).2 h)]
  · rw [if_neg h, if_neg (fun e => h ((isZ_iff x).1 e))]
    by_cases h2 : 2 ^ 255 ≤ x.toNat
    · rw [if_pos h2, decide_eq_true h2]; rfl
    · rw [if_neg h2, decide_eq_false h2]; rfl
theorem sign_pos (x : N4) : (0 < x.sign) ↔ (0 < x.toNat ∧ x.toNat < 2 ^ 255) := by
  rw [signT]; split
  · simp; omega
  · split
    · simp; omega
    · simp; omega
theorem sign_neg (x : N4) : (x.sign < 0) ↔ 2 ^ 255 ≤ x.toNat := by
  rw [signT]; split
  · simp; omega
  · split
    · simp; omega
    · simp; omega
theorem sign_is (x : N4) : (x.sign == -1) = decide (2 ^ 255 ≤ x.toNat) := by
  rw [signT]; split
  · rw [decide_eq_false (by omega)]; rfl
  · split
    · rename_i h; rw [decide_eq_true h]; rfl
    · rename_i h; rw [decide_eq_false h]; rfl
theorem neg0_toNat (x : N4) : x.neg0.toNat = (2 ^ 256 - x.toNat) % 2 ^ 256 := dif_zero_toNat x
def absT (x : N4) : Nat := if 2 ^ 255 ≤ x.toNat then 2 ^ 256 - x.toNat else x.toNat
theorem neg0_absT (x : N4) (h : 2 ^ 255 ≤ x.toNat) : x.neg0.toNat = absT x := by
  have := toNat_lt x
  rw [neg0_toNat, absT, if_pos h]; omega
theorem absT_le (x : N4) : absT x ≤ 2 ^ 255 := by
  have := toNat_lt x
  unfold absT; split <;> omega
theorem absT_pos (x : N4) (h : 0 < x.toNat) : 0 < absT x := by
  have := toNat_lt x
  unfold absT; split <;> omega
theorem abs_toNat (x : N4) : x.abs.toNat = absT x := by
  have h := neg_iff x
  rw [negT, decide_eq_true_eq] at h
  unfold N4.abs
  by_cases h2 : x.d < 9223372036854775808#64
  · rw [if_pos h2, absT, if_neg (fun e => h.1 e h2)]
  · rw [if_neg h2]
    exact neg0_absT x (h.2 h2)
theorem div_lt' (a b : Nat) (h : a ≤ 2 ^ 255) : a / b < 2 ^ 256 := Nat.lt_of_le_of_lt (Nat.div_le_self _ _) (by omega)
theorem sdiv_toNat (x y : N4) (hy : 0 < y.toNat) : (x.sdiv y).toNat = if (2 ^ 255 ≤ x.toNat) ↔ (2 ^ 255 ≤ y.toNat) then absT x / absT y else (2 ^ 256 - absT x / absT y) % 2 ^ 256 := by
  have hx := toNat_lt x
  have d := div_lt' (absT x) (absT y) (absT_le x)
  unfold N4.sdiv
  by_cases px : 0 < x.toNat ∧ x.toNat < 2 ^ 255
  · have ax : absT x = x.toNat := by unfold absT; rw [if_neg (by omega)]
    rw [if_pos ((sign_pos x).2 px)]
    by_cases py : y.toNat < 2 ^ 255
    · have ay : absT y = y.toNat := by unfold absT; rw [if_neg (by omega)]
      rw [if_pos ((sign_pos y).2 ⟨hy, py⟩), if_pos (by constructor <;> omega), ofN_toNat, ax, ay]
      rw [ax, ay] at d
      exact Nat.mod_eq_of_lt d
    · rw [if_neg (fun e => py ((sign_pos y).1 e).2), if_neg (by intro e; omega), neg0_toNat, ofN_toNat, neg0_absT y (by omega), ← ax, Nat.mod_eq_of_lt d]
  · rw [if_neg (fun e => px ((sign_pos x).1 e))]
    by_cases zx : x.toNat = 0
    · have ax : absT x = 0 := by unfold absT; rw [if_neg (by omega), zx]
      have nx : x.neg0.toNat = 0 := by rw [neg0_toNat, zx]
      rw [ax, nx]
      simp only [Nat.zero_div]
      have z0 : (ofN 0).toNat = 0 := ofN_toNat 0
      have z1 : ((ofN 0).neg0).toNat = 0 := by rw [neg0_toNat, z0]
      have z2 : (2 ^ 256 - 0) % 2 ^ 256 = 0 := rfl
      rw [z2]
      split <;> split <;> first | exact z0 | exact z1
    · have nx : 2 ^ 255 ≤ x.toNat := by omega
      rw [neg0_absT x nx]
      by_cases py : y.toNat < 2 ^ 255
      · have ay : absT y = y.toNat := by unfold absT; rw [if_neg (by omega)]
        rw [if_neg (fun e => by have := (sign_neg y).1 e; omega), if_neg (by intro e; omega), neg0_toNat, ofN_toNat, ← ay, Nat.mod_eq_of_lt d]
      · rw [if_pos ((sign_neg y).2 (by omega)), if_pos (by constructor <;> omega), ofN_toNat, neg0_absT y (by omega), Nat.mod_eq_of_lt d]
theorem remN_toNat (x y : N4) (hy : 0 < y.toNat) : (remN x y).toNat = x.toNat % y.toNat := by
  unfold remN
  rw [if_neg (by omega), ofN_toNat]
  exact Nat.mod_eq_of_lt (Nat.lt_of_le_of_lt (Nat.mod_le _ _) (toNat_lt x))
theorem smod_toNat (x y : N4) (hy : 0 < y.toNat) : (x.smod y).toNat = if 2 ^ 255 ≤ x.toNat then (2 ^ 256 - absT x % absT y) % 2 ^ 256 else absT x % absT y := by
  have hb := absT_pos y hy
  unfold N4.smod
  rw [sign_is, sign_is]
  by_cases nx : 2 ^ 255 ≤ x.toNat
  · rw [if_pos (decide_eq_true nx), if_pos nx]
    by_cases ny : 2 ^ 255 ≤ y.toNat
    · have e := neg0_absT y ny
      rw [if_pos (decide_eq_true ny), neg0_toNat, remN_toNat _ _ (by omega), neg0_absT x nx, e]
    · have ay : absT y = y.toNat := by unfold absT; rw [if_neg ny]
      rw [decide_eq_false ny, if_neg (by decide), neg0_toNat, remN_toNat _ _ hy, neg0_absT x nx, ay]
  · have ax : absT x = x.toNat := by unfold absT; rw [if_neg nx]
    rw [decide_eq_false nx, if_neg (by decide), if_neg nx, ax]
    by_cases ny : 2 ^ 255 ≤ y.toNat
    · have e := neg0_absT y ny
      rw [if_pos (decide_eq_true ny), remN_toNat _ _ (by omega), e]
    · have ay : absT y = y.toNat := by unfold absT; rw [if_neg ny]
      rw [decide_eq_false ny, if_neg (by decide), remN_toNat _ _ hy, ay]
theorem mulU (M u k Y : Nat) (h : u + k = M) : u * Y + k * Y = M * Y := by rw [← h, Nat.add_mul]
theorem mulV (M q v b : Nat) (h : v + b = M) : q * v + q * b = q * M := by rw [← h, Nat.mul_add]
/-- The quotient times y and the rest are x. -/
theorem signed_whole (x y : N4) (hy : 0 < y.toNat) : (((x.sdiv y).mul y).add (x.smod y)) = x := by
  apply toNat_inj
  have hX := toNat_lt x
  have hY := toNat_lt y
  have hb := absT_pos y hy
  have dm := Nat.div_add_mod (absT x) (absT y)
  have ml := Nat.mod_lt (absT x) hb
  have lb := absT_le y
  have la := absT_le x
  have ax : absT x = if 2 ^ 255 ≤ x.toNat then 2 ^ 256 - x.toNat else x.toNat := rfl
  have ay : absT y = if 2 ^ 255 ≤ y.toNat then 2 ^ 256 - y.toNat else y.toNat := rfl
  have lq : absT x / absT y ≤ absT x := Nat.div_le_self _ _
  rw [add_toNat, mul_toNat, sdiv_toNat x y hy, smod_toNat x y hy]
  generalize absT x = a at *
  generalize absT y = b at *
  generalize a / b = q at *
  generalize a % b = r at *
  generalize x.toNat = X at *
  generalize y.toNat = Y at *
  rw [Nat.mul_comm b q] at dm
  by_cases nx : 2 ^ 255 ≤ X
  · rw [if_pos nx] at ax
    rw [if_pos nx]
    by_cases ny : 2 ^ 255 ≤ Y
    · rw [if_pos ny] at ay
      rw [if_pos (by constructor <;> omega)]
      have := mulV (2 ^ 256) q Y b (by omega)
      omega
    · rw [if_neg ny] at ay
      rw [if_neg (by intro e; omega), Nat.mod_mul_mod]
      have := mulU (2 ^ 256) (2 ^ 256 - q) q Y (by omega)
      subst ay
      omega
  · rw [if_neg nx] at ax
    rw [if_neg nx]
    by_cases ny : 2 ^ 255 ≤ Y
    · rw [if_pos ny] at ay
      rw [if_neg (by intro e; omega), Nat.mod_mul_mod]
      have h1 := mulV (2 ^ 256) (2 ^ 256 - q) Y b (by omega)
      have h2 := mulU (2 ^ 256) (2 ^ 256 - q) q b (by omega)
      omega
    · rw [if_neg ny] at ay
      rw [if_pos (by constructor <;> omega)]
      subst ay
      omega
theorem signed_abs (x y : N4) (hy : 0 < y.toNat) : absT (x.smod y) = absT x % absT y := by
  have ml := Nat.mod_lt (absT x) (absT_pos y hy)
  have lb := absT_le y
  have h : absT (x.smod y) = if 2 ^ 255 ≤ (x.smod y).toNat then 2 ^ 256 - (x.smod y).toNat else (x.smod y).toNat := rfl
  rw [h, smod_toNat x y hy]
  generalize absT x % absT y = r at *
  by_cases nx : 2 ^ 255 ≤ x.toNat
  · rw [if_pos nx]; split <;> omega
  · rw [if_neg nx]; split <;> omega
theorem signed_sign (x y : N4) (hy : 0 < y.toNat) (h0 : (x.smod y).toNat ≠ 0) : (x.smod y).sign = x.sign := by
  have ml := Nat.mod_lt (absT x) (absT_pos y hy)
  have lb := absT_le y
  have hle := Nat.mod_le (absT x) (absT y)
  have ax : absT x = if 2 ^ 255 ≤ x.toNat then 2 ^ 256 - x.toNat else x.toNat := rfl
  rw [signT, signT, if_neg h0]
  rw [smod_toNat x y hy] at h0 ⊢
  generalize absT x % absT y = r at *
  by_cases nx : 2 ^ 255 ≤ x.toNat
  · rw [if_pos nx] at h0 ⊢
    rw [if_pos (by omega), if_neg (by omega), if_pos nx]
  · rw [if_neg nx] at h0 ax ⊢
    rw [if_neg (by omega), if_neg (by omega), if_neg nx]
end Go.Proofs.Ytbmlbjpiodiihaa
