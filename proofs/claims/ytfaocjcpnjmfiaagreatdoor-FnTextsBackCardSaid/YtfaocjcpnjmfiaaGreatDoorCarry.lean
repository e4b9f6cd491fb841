/-
  The model's entries for math/bits Add64, Sub64 at words with a carry that is a Bool; no conditions.
-/
import Derived.Test.YtfaocjcpnjmfiaaGreatDoorBase
namespace Go.Proofs.YtfaocjcpnjmfiaaGreatDoor
open Go.RowKit
def bw (c : Bool) : W64 := if c then 1#64 else 0#64
def subD (x y : W64) (c : Bool) : W64 := x - y - bw c
def subC (x y : W64) (c : Bool) : Bool := decide (x.toNat < y.toNat + c.toNat)
def addS (x y : W64) (c : Bool) : W64 := x + y + bw c
def addC (x y : W64) (c : Bool) : Bool := decide (2 ^ 64 ≤ x.toNat + y.toNat + c.toNat)
theorem bw_ne (c : Bool) : (bw c != 0#64) = c := by cases c <;> rfl
theorem bw_eq0 (c : Bool) : (bw c == 0#64) = !c := by cases c <;> rfl
theorem bw_eq1 (c : Bool) : (bw c == 1#64) = c := by cases c <;> rfl
theorem U_bw (c : Bool) : U (bw c) = ((if c then 1 else 0 : Nat) : Int) := by cases c <;> rfl
attribute [go_sem] bw_ne bw_eq0 bw_eq1
theorem Tryz.sub64 (x y : W64) (c : Bool) (w : World) : (callFunc 70 #[.int .u64 (U x), .int .u64 (U y), .int .u64 (U (bw c))]).run Tryz.prog w =
      .ok (.value (.tuple #[.int .u64 (U (subD x y c)), .int .u64 (U (bw (subC x y c)))])) w := by
  rw [run_callFunc_extern (fn := Tryz.f70) Tryz.func70 (by kernel_rfl) (by kernel_rfl) (by kernel_rfl) (e := sub64Entry) (by kernel_rfl)]
  have h := run_sub64 (P := Tryz.prog) x.toNat y.toNat (if c then 1 else 0) (by split <;> omega) w
  rw [U_bw]
  unfold U
  rw [h]
  simp only [Result.andThen]
  have hx := x.isLt
  have hy := y.isLt
  congr 5
  · congr 1
    unfold subD bw
    rw [BitVec.toNat_sub, BitVec.toNat_sub]
    cases c <;> simp <;> omega
  · congr 2
    congr 1
    unfold subC bw
    cases c <;> simp <;> split <;> simp_all
theorem Tryz.sub64_0 (x y : W64) (w : World) : (callFunc 70 #[.int .u64 (U x), .int .u64 (U y), .int .u64 0]).run Tryz.prog w =
      .ok (.value (.tuple #[.int .u64 (U (subD x y false)), .int .u64 (U (bw (subC x y false)))])) w := Tryz.sub64 x y false w
theorem Tryz.sub64_z (x : W64) (c : Bool) (w : World) : (callFunc 70 #[.int .u64 (U x), .int .u64 0, .int .u64 (U (bw c))]).run Tryz.prog w =
      .ok (.value (.tuple #[.int .u64 (U (subD x 0#64 c)), .int .u64 (U (bw (subC x 0#64 c)))])) w := Tryz.sub64 x 0#64 c w
attribute [go_sem] Tryz.sub64 Tryz.sub64_0 Tryz.sub64_z
theorem Tryz.add64 (x y : W64) (c : Bool) (w : World) : (callFunc 62 #[.int .u64 (U x), .int .u64 (U y), .int .u64 (U (bw c))]).run Tryz.prog w =
      .ok (.value (.tuple #[.int .u64 (U (addS x y c)), .int .u64 (U (bw (addC x y c)))])) w := by
  rw [run_callFunc_extern (fn := Tryz.f62) Tryz.func62 (by kernel_rfl) (by kernel_rfl) (by kernel_rfl) (e := add64Entry) (by kernel_rfl)]
  have h := run_add64 (P := Tryz.prog) (U x) (U y) (U (bw c)) (U_nonneg _) (U_nonneg _) (U_nonneg _) (by rw [U_bw]; split <;> omega) w
  rw [h]
  simp only [Result.andThen]
  have hx := x.isLt
  have hy := y.isLt
  rw [U_bw]
  unfold U
  congr 5
  · congr 1
    unfold addS bw
    rw [BitVec.toNat_add, BitVec.toNat_add]
    cases c <;> simp <;> omega
  · congr 2
    unfold addC bw
    cases c
    · by_cases h : 2 ^ 64 ≤ x.toNat + y.toNat
      · simp [h]; omega
      · simp [h]; omega
    · by_cases h : 2 ^ 64 ≤ x.toNat + y.toNat + 1
      · simp [h]; omega
      · simp [h]; omega
theorem Tryz.add64_0 (x y : W64) (w : World) : (callFunc 62 #[.int .u64 (U x), .int .u64 (U y), .int .u64 0]).run Tryz.prog w =
      .ok (.value (.tuple #[.int .u64 (U (addS x y false)), .int .u64 (U (bw (addC x y false)))])) w := Tryz.add64 x y false w
theorem Tryz.add64_z (x : W64) (c : Bool) (w : World) : (callFunc 62 #[.int .u64 (U x), .int .u64 0, .int .u64 (U (bw c))]).run Tryz.prog w =
      .ok (.value (.tuple #[.int .u64 (U (addS x 0#64 c)), .int .u64 (U (bw (addC x 0#64 c)))])) w := Tryz.add64 x 0#64 c w
attribute [go_sem] Tryz.add64 Tryz.add64_0 Tryz.add64_z
end Go.Proofs.YtfaocjcpnjmfiaaGreatDoor
