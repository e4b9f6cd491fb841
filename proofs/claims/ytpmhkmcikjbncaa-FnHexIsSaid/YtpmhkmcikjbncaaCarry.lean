/-
  The model's entries for math/bits Add64, Sub64 at words with a carry that is a Bool; no conditions.
-/
import Derived.Test.YtpmhkmcikjbncaaBase
namespace Go.Proofs.Ytpmhkmcikjbncaa
open Go.RowKit
def bw (c : Bool) : W64 := if c then 1#64 else 0#64
def subD (x y : W64) (c : Bool) : W64 := x - y - bw c
def subC (x y : W64) (c : Bool) : Bool := decide (x.toNat < y.toNat + c.toNat)
def addS (x y : W64) (c : Bool) : W64 := x + y + bw c
def addC (x y : W64) (c : Bool) : Bool := decide (2 ^ 64 ≤ x.toNat + y.toNat + c.toNat)
theorem bw_ne (c : Bool) : (bw c != 0#64) = c := by cases c <;> rfl
theorem bw_eq0 (c : Bool) : (bw c == 0#64) = !c := by cases c <;> rfl
theorem bw_eq1 (c : Bool) : (bw c == 1#64) = c := by cases c <;> rfl
theorem U_bw (c : Bool) : U (bw c) = ((if c then 1 else 0 : Nat) : Int) := by cases c <;> rfl
attribute [go_sem] bw_ne bw_eq0 bw_eq1
end Go.Proofs.Ytpmhkmcikjbncaa
