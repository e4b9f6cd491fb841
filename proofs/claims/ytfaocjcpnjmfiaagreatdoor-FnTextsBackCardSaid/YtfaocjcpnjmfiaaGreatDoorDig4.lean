/-
  The reference's Cut: the number of a list of digits, modulo 2^256.
-/
import Derived.Test.YtfaocjcpnjmfiaaGreatDoorDig3
import Derived.Test.YtfaocjcpnjmfiaaGreatDoorArith
namespace Go.Proofs.YtfaocjcpnjmfiaaGreatDoor
open Go.RowKit
set_option linter.unusedVariables false
theorem u64_wrapU (x : W64) : IntKind.u64.wrap (U x) = U x := by
  unfold U; rw [IntKind.wrap_u64]; have := x.isLt; omega
theorem u64_shl_nat (x : W64) (k : Nat) (hk : k ≤ 64) : Op.shift .shl .u64 (U x) .i64 (k : Int) = pure (.int .u64 (U (x <<< k))) := by
  rw [shift_shl_any _ _ _ _ (by omega)]
  congr 2
  unfold U
  rw [IntKind.wrap_u64, BitVec.toNat_shiftLeft, Nat.shiftLeft_eq, Int.toNat_natCast, show min k (IntKind.u64.bits) = k from Nat.min_eq_left hk]
  simp
theorem u64_shl0 (x : W64) : Op.shift .shl .u64 (U x) .i64 0 = pure (.int .u64 (U (x <<< 0))) := u64_shl_nat x 0 (by decide)
theorem u64_shl16 (x : W64) : Op.shift .shl .u64 (U x) .i64 16 = pure (.int .u64 (U (x <<< 16))) := u64_shl_nat x 16 (by decide)
theorem u64_shl32 (x : W64) : Op.shift .shl .u64 (U x) .i64 32 = pure (.int .u64 (U (x <<< 32))) := u64_shl_nat x 32 (by decide)
theorem u64_shl48 (x : W64) : Op.shift .shl .u64 (U x) .i64 48 = pure (.int .u64 (U (x <<< 48))) := u64_shl_nat x 48 (by decide)
theorem or_add (x : W64) (d k : Nat) (hx : x.toNat < 2 ^ k) (hd : d < 65536) (hk : k ≤ 48) : (x ||| (BitVec.ofNat 64 d <<< k)).toNat = x.toNat + 2 ^ k * d := by
  have hp : 2 ^ k ≤ 2 ^ 48 := Nat.pow_le_pow_right (by decide) hk
  have hm : 2 ^ k * d ≤ 2 ^ 48 * 65535 := Nat.mul_le_mul hp (by omega)
  rw [BitVec.toNat_or, BitVec.toNat_shiftLeft, BitVec.toNat_ofNat, Nat.shiftLeft_eq, Nat.mod_eq_of_lt (show d < 2 ^ 64 by omega), Nat.mul_comm d, Nat.mod_eq_of_lt (show 2 ^ k * d < 2 ^ 64 by omega), Nat.or_comm, ← Nat.two_pow_add_eq_or_of_lt hx]
  omega
theorem vlow_mod {l : List Nat} (h : Digits l) (n k : Nat) : vlow l (n + k) % 65536 ^ n = vlow l n := by
  induction k with
  | zero => exact Nat.mod_eq_of_lt (vlow_lt h n)
  | succ k ih =>
    rw [← Nat.add_assoc, vlow, Nat.pow_add, Nat.mul_assoc, Nat.add_mul_mod_self_left, ih]
theorem val_mod {l : List Nat} (h : Digits l) : val l % 2 ^ 256 = vlow l 16 := by
  rw [← pow16]
  rcases Nat.le_total l.length 16 with hl | hl
  · rw [← vlow_ge hl]; exact Nat.mod_eq_of_lt (vlow_lt h 16)
  · obtain ⟨k, hk⟩ : ∃ k, l.length = 16 + k := ⟨l.length - 16, by omega⟩
    unfold val
    rw [hk]; exact vlow_mod h 16 k
/-- A number with another word j. -/
def N4.setW (x : N4) (j : Nat) (v : W64) : N4 := if j = 0 then { x with a := v } else if j = 1 then { x with b := v } else if j = 2 then { x with c := v } else { x with d := v }
def cutW (x : N4) (l : List Nat) (i : Nat) : N4 := x.setW (i / 4) (x.wd (i / 4) ||| (BitVec.ofNat 64 (dig l i) <<< (16 * (i % 4))))
theorem cut_step (x : N4) (l : List Nat) (hd : Digits l) (i : Nat) (hi : i < 16) (h : x.toNat = vlow l i) : (cutW x l i).toNat = vlow l (i + 1) := by
  have hb := vlow_lt hd i
  have hdl := dig_lt hd i
  have xa := x.a.isLt
  have xb := x.b.isLt
  have xc := x.c.isLt
  have xd := x.d.isLt
  rw [vlow, ← h]
  rw [← h] at hb
  unfold N4.toNat at hb
  unfold cutW
  rcases (by omega : i = 0 ∨ i = 1 ∨ i = 2 ∨ i = 3 ∨ i = 4 ∨ i = 5 ∨ i = 6 ∨ i = 7 ∨ i = 8 ∨ i = 9 ∨ i = 10 ∨ i = 11 ∨ i = 12 ∨ i = 13 ∨ i = 14 ∨ i = 15) with rfl | rfl | rfl | rfl | rfl | rfl | rfl | rfl | rfl | rfl | rfl | rfl | rfl | rfl | rfl | rfl
  · have e := or_add x.a (dig l 0) 0 (by omega) hdl (by omega)
    show N4.toNat ({ x with a := x.a ||| (BitVec.ofNat 64 (dig l 0) <<< 0) }) = _
    unfold N4.toNat
    simp only [e]
    omega
  · have e := or_add x.a (dig l 1) 16 (by omega) hdl (by omega)
    show N4.toNat ({ x with a := x.a ||| (BitVec.ofNat 64 (dig l 1) <<< 16) }) = _
    unfold N4.toNat
    simp only [e]
    omega
  · have e := or_add x.a (dig l 2) 32 (by omega) hdl (by omega)
    show N4.toNat ({ x with a := x.a ||| (BitVec.ofNat 64 (dig l 2) <<< 32) }) = _
    unfold N4.toNat
    simp only [e]
    omega
  · have e := or_add x.a (dig l 3) 48 (by omega) hdl (by omega)
    show N4.toNat ({ x with a := x.a ||| (BitVec.ofNat 64 (dig l 3) <<< 48) }) = _
    unfold N4.toNat
    simp only [e]
    omega
  · have e := or_add x.b (dig l 4) 0 (by omega) hdl (by omega)
    show N4.toNat ({ x with b := x.b ||| (BitVec.ofNat 64 (dig l 4) <<< 0) }) = _
    unfold N4.toNat
    simp only [e]
    omega
  · have e := or_add x.b (dig l 5) 16 (by omega) hdl (by omega)
    show N4.toNat ({ x with b := x.b ||| (BitVec.ofNat 64 (dig l 5) <<< 16) }) = _
    unfold N4.toNat
    simp only [e]
    omega
  · have e := or_add x.b (dig l 6) 32 (by omega) hdl (by omega)
    show N4.toNat ({ x with b := x.b ||| (BitVec.ofNat 64 (dig l 6) <<< 32) }) = _
    unfold N4.toNat
    simp only [e]
    omega
  · have e := or_add x.b (dig l 7) 48 (by omega) hdl (by omega)
    show N4.toNat ({ x with b := x.b ||| (BitVec.ofNat 64 (dig l 7) <<< 48) }) = _
    unfold N4.toNat
    simp only [e]
    omega
  · have e := or_add x.c (dig l 8) 0 (by omega) hdl (by omega)
    show N4.toNat ({ x with c := x.c ||| (BitVec.ofNat 64 (dig l 8) <<< 0) }) = _
    unfold N4.toNat
    simp only [e]
    omega
  · have e := or_add x.c (dig l 9) 16 (by omega) hdl (by omega)
    show N4.toNat ({ x with c := x.c ||| (BitVec.ofNat 64 (dig l 9) <<< 16) }) = _
    unfold N4.toNat
    simp only [e]
    omega
  · have e := or_add x.c (dig l 10) 32 (by omega) hdl (by omega)
    show N4.toNat ({ x with c := x.c ||| (BitVec.ofNat 64 (dig l 10) <<< 32) }) = _
    unfold N4.toNat
    simp only [e]
    omega
  · have e := or_add x.c (dig l 11) 48 (by omega) hdl (by omega)
    show N4.toNat ({ x with c := x.c ||| (BitVec.ofNat 64 (dig l 11) <<< 48) }) = _
    unfold N4.toNat
    simp only [e]
    omega
  · have e := or_add x.d (dig l 12) 0 (by omega) hdl (by omega)
    show N4.toNat ({ x with d := x.d ||| (BitVec.ofNat 64 (dig l 12) <<< 0) }) = _
    unfold N4.toNat
    simp only [e]
    omega
  · have e := or_add x.d (dig l 13) 16 (by omega) hdl (by omega)
    show N4.toNat ({ x with d := x.d ||| (BitVec.ofNat 64 (dig l 13) <<< 16) }) = _
    unfold N4.toNat
    simp only [e]
    omega
  · have e := or_add x.d (dig l 14) 32 (by omega) hdl (by omega)
    show N4.toNat ({ x with d := x.d ||| (BitVec.ofNat 64 (dig l 14) <<< 32) }) = _
    unfold N4.toNat
    simp only [e]
    omega
  · have e := or_add x.d (dig l 15) 48 (by omega) hdl (by omega)
    show N4.toNat ({ x with d := x.d ||| (BitVec.ofNat 64 (dig l 15) <<< 48) }) = _
    unfold N4.toNat
    simp only [e]
    omega
theorem At4.one {w : World} {b : Nat} {x : N4} (h : At4 w b 0 x) (j : Nat) (hj : j < 4) (v : W64) : At4 (w.setCell ⟨b, j, none⟩ (V v)) b 0 (x.setW j v) := by
  obtain ⟨h0, h1, h2, h3⟩ := h
  simp only [Nat.zero_add] at h1 h2 h3
  rcases (by omega : j = 0 ∨ j = 1 ∨ j = 2 ∨ j = 3) with rfl | rfl | rfl | rfl
  all_goals
    constructor <;> simp [N4.setW, h0, h1, h2, h3, go_sem]
end Go.Proofs.YtfaocjcpnjmfiaaGreatDoor
