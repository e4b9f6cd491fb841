/-
  Contracts of math/bits.Mul64, and of uint256's umulHop, umulStep, Mul.
-/
import Derived.Test.YtfaocjcpnjmfiaaGreatDoorWrite2
import Derived.Lib.Mul64
import Derived.Laws.Bits64b
namespace Go.Proofs.YtfaocjcpnjmfiaaGreatDoor
open Go.RowKit
set_option linter.unusedVariables false
set_option linter.unusedSimpArgs false
/-- The upper and the lower half of a product. -/
def mulH (x y : W64) : W64 := BitVec.ofNat 64 (x.toNat * y.toNat / 18446744073709551616)
def mulL (x y : W64) : W64 := x * y
theorem prod_lt (x y : W64) : x.toNat * y.toNat / 18446744073709551616 < 18446744073709551616 := by
  have := x.isLt; have := y.isLt
  apply Nat.div_lt_of_lt_mul
  exact Nat.mul_lt_mul_of_lt_of_lt x.isLt y.isLt
theorem mul_spec (x y : W64) : x.toNat * y.toNat = (mulL x y).toNat + 2 ^ 64 * (mulH x y).toNat := by
  unfold mulL mulH
  rw [BitVec.toNat_mul, BitVec.toNat_ofNat, Nat.mod_eq_of_lt (prod_lt x y)]
  have := Nat.mod_add_div (x.toNat * y.toNat) (2 ^ 64)
  exact this.symm
theorem mulMask (a : Nat) (ha : a < 18446744073709551616) : bits .and .u64 (a : Int) 4294967295 = ((a % 4294967296 : Nat) : Int) := by
  have h := bits_and_u64_nat a 4294967295 ha (by omega)
  have e : a &&& 4294967295 = a % 4294967296 := Nat.and_two_pow_sub_one_eq_mod a 32
  rw [e] at h
  exact h
theorem mulDiv (a : Nat) : (a : Int) / 4294967296 = ((a / 4294967296 : Nat) : Int) := by omega
theorem mulMul (a b : Nat) : (a : Int) * (b : Int) = ((a * b : Nat) : Int) := (Int.natCast_mul a b).symm
theorem mulAdd (a b : Nat) : (a : Int) + (b : Int) = ((a + b : Nat) : Int) := (Int.natCast_add a b).symm
theorem mulWrap (a : Nat) (ha : a < 18446744073709551616) : IntKind.u64.wrap (a : Int) = (a : Int) := by rw [IntKind.wrap_u64]; omega
theorem mulMod (a : Nat) : IntKind.u64.wrap (a : Int) = ((a % 18446744073709551616 : Nat) : Int) := by rw [IntKind.wrap_u64]; omega
set_option maxHeartbeats 1000000 in
theorem mul64_nat (x y : Nat) (hx : x < 18446744073709551616) (hy : y < 18446744073709551616) (w : World) :
    Calls Tryz.prog 57 #[.int .u64 (x : Int), .int .u64 (y : Int)] w fun e w' => e = .returned (.tuple #[.int .u64 ((x * y / 18446744073709551616 : Nat) : Int), .int .u64 ((x * y % 18446744073709551616 : Nat) : Int)]) ∧ w = w' := by
  obtain ⟨bd, bt, bw, hhi⟩ := Lib.mul64_hi x y hx hy
  have ba := Lib.half_mul_le (a := x / 4294967296) (b := y / 4294967296) (by omega) (by omega)
  have bb := Lib.half_mul_le (a := x / 4294967296) (b := y % 4294967296) (by omega) (by omega)
  have bc := Lib.half_mul_le (a := x % 4294967296) (b := y / 4294967296) (by omega) (by omega)
  have ba' : x / 4294967296 * (y / 4294967296) < 18446744073709551616 := by omega
  have bb' : x / 4294967296 * (y % 4294967296) < 18446744073709551616 := by omega
  have bc' : x % 4294967296 * (y / 4294967296) < 18446744073709551616 := by omega
  have bh1 : x / 4294967296 * (y / 4294967296) + (x / 4294967296 * (y % 4294967296) + x % 4294967296 * (y % 4294967296) / 4294967296) / 4294967296 < 18446744073709551616 := by omega
  have bh : x / 4294967296 * (y / 4294967296) + (x / 4294967296 * (y % 4294967296) + x % 4294967296 * (y % 4294967296) / 4294967296) / 4294967296 + ((x / 4294967296 * (y % 4294967296) + x % 4294967296 * (y % 4294967296) / 4294967296) % 4294967296 + x % 4294967296 * (y / 4294967296)) / 4294967296 < 18446744073709551616 := by omega
  go_enter Tryz.func57, Tryz.ntmps57
  go_wp2
  simp only [mulMask x hx, mulMask y hy, mulDiv, mulMul, mulAdd, mulWrap _ bd, mulWrap _ bb', mulWrap _ bt, mulMask _ bt, mulWrap _ bc', mulWrap _ bw, mulWrap _ ba', mulWrap _ bh1, mulWrap _ bh, mulMod (x * y)]
  rw [hhi]
  go_ret2
  exact ⟨rfl, rfl⟩
theorem mul64_any (x y : W64) (w : World) : Calls Tryz.prog 57 #[V x, V y] w fun e w' => e = .returned (.tuple #[V (mulH x y), V (mulL x y)]) ∧ w = w' := by
  have h := mul64_nat x.toNat y.toNat x.isLt y.isLt w
  have e1 : U (mulH x y) = ((x.toNat * y.toNat / 18446744073709551616 : Nat) : Int) := by unfold mulH; rw [U_ofNat _ (prod_lt x y)]
  have e2 : U (mulL x y) = ((x.toNat * y.toNat % 18446744073709551616 : Nat) : Int) := by unfold mulL U; rw [BitVec.toNat_mul]
  rw [show V (mulH x y) = .int .u64 ((x.toNat * y.toNat / 18446744073709551616 : Nat) : Int) by rw [← e1], show V (mulL x y) = .int .u64 ((x.toNat * y.toNat % 18446744073709551616 : Nat) : Int) by rw [← e2]]
  exact h
/-- x * y + z as two words. -/
def hopL (z x y : W64) : W64 := addS (mulL x y) z false
def hopH (z x y : W64) : W64 := addS (mulH x y) 0#64 (addC (mulL x y) z false)
/-- x * y + c + z as two words. -/
def stepL (z x y c : W64) : W64 := addS (addS (mulL x y) c false) z false
def stepH (z x y c : W64) : W64 := addS (addS (mulH x y) 0#64 (addC (mulL x y) c false)) 0#64 (addC (addS (mulL x y) c false) z false)
set_option maxHeartbeats 400000 in
theorem umulHop_any (z x y : W64) (w : World) : Calls Tryz.prog 63 #[V z, V x, V y] w fun e w' => e = .returned (.tuple #[V (hopH z x y), V (hopL z x y)]) ∧ w = w' := by
  go_enter Tryz.func63, Tryz.ntmps63
  go_wp2_with (go_at_call 57; refine (mul64_any _ _ _).mono ?_; rintro e w' ⟨rfl, rfl⟩)
  go_ret2
  exact ⟨rfl, rfl⟩
set_option maxHeartbeats 400000 in
theorem umulStep_any (z x y c : W64) (w : World) : Calls Tryz.prog 64 #[V z, V x, V y, V c] w fun e w' => e = .returned (.tuple #[V (stepH z x y c), V (stepL z x y c)]) ∧ w = w' := by
  go_enter Tryz.func64, Tryz.ntmps64
  go_wp2_with (go_at_call 57; refine (mul64_any _ _ _).mono ?_; rintro e w' ⟨rfl, rfl⟩)
  go_ret2
  exact ⟨rfl, rfl⟩
/-! ### the product of two numbers -/
theorem add_spec' (x y : W64) (c : Bool) : x.toNat + y.toNat + c.toNat = (addS x y c).toNat + 2 ^ 64 * (addC x y c).toNat := by
  have a1 := x.isLt; have b1 := y.isLt
  unfold addS addC bw
  cases c
  · by_cases h : 2 ^ 64 ≤ x.toNat + y.toNat
    · simp [BitVec.toNat_add, h]; omega
    · simp [BitVec.toNat_add, h]; omega
  · by_cases h : 2 ^ 64 ≤ x.toNat + y.toNat + 1
    · simp [BitVec.toNat_add, h]; omega
    · simp [BitVec.toNat_add, h]; omega
theorem word_prod_le (x y : W64) : x.toNat * y.toNat ≤ 340282366920938463426481119284349108225 := by
  have h1 := x.isLt; have h2 := y.isLt
  exact Nat.mul_le_mul (show x.toNat ≤ 18446744073709551615 by omega) (show y.toNat ≤ 18446744073709551615 by omega)
theorem hop_spec (z x y : W64) : (hopL z x y).toNat + 2 ^ 64 * (hopH z x y).toNat = z.toNat + x.toNat * y.toNat := by
  have h0 := mul_spec x y
  have h1 := add_spec' (mulL x y) z false
  have h2 := add_spec' (mulH x y) 0#64 (addC (mulL x y) z false)
  have hp := word_prod_le x y
  have e0 : (0#64 : W64).toNat = 0 := rfl
  have hz := z.isLt
  have c1 : (addC (mulH x y) 0#64 (addC (mulL x y) z false)).toNat ≤ 1 := by cases addC (mulH x y) 0#64 (addC (mulL x y) z false) <;> decide
  have l1 := (addS (mulL x y) z false).isLt
  rw [e0] at h2
  simp only [Bool.toNat_false] at h1
  unfold hopL hopH
  generalize x.toNat * y.toNat = p at *
  omega
theorem step_spec (z x y c : W64) : (stepL z x y c).toNat + 2 ^ 64 * (stepH z x y c).toNat = z.toNat + x.toNat * y.toNat + c.toNat := by
  have h0 := mul_spec x y
  have h1 := add_spec' (mulL x y) c false
  have h2 := add_spec' (mulH x y) 0#64 (addC (mulL x y) c false)
  have h3 := add_spec' (addS (mulL x y) c false) z false
  have h4 := add_spec' (addS (mulH x y) 0#64 (addC (mulL x y) c false)) 0#64 (addC (addS (mulL x y) c false) z false)
  have hp := word_prod_le x y
  have e0 : (0#64 : W64).toNat = 0 := rfl
  have hz := z.isLt
  have hc := c.isLt
  have c1 : (addC (mulH x y) 0#64 (addC (mulL x y) c false)).toNat ≤ 1 := by cases addC (mulH x y) 0#64 (addC (mulL x y) c false) <;> decide
  have c2 : (addC (addS (mulH x y) 0#64 (addC (mulL x y) c false)) 0#64 (addC (addS (mulL x y) c false) z false)).toNat ≤ 1 := by cases addC (addS (mulH x y) 0#64 (addC (mulL x y) c false)) 0#64 (addC (addS (mulL x y) c false) z false) <;> decide
  rw [e0] at h2 h4
  simp only [Bool.toNat_false] at h1 h3
  unfold stepL stepH
  generalize x.toNat * y.toNat = p at *
  omega
/-- The parts of the product, as the code has them. -/
def m1H (x y : N4) : W64 := hopH (mulH x.a y.a) x.b y.a
def m1L (x y : N4) : W64 := hopL (mulH x.a y.a) x.b y.a
def m2H (x y : N4) : W64 := hopH (m1H x y) x.c y.a
def m2L (x y : N4) : W64 := hopL (m1H x y) x.c y.a
def m3H (x y : N4) : W64 := hopH (m1L x y) x.a y.b
def m3L (x y : N4) : W64 := hopL (m1L x y) x.a y.b
def m4H (x y : N4) : W64 := stepH (m2L x y) x.b y.b (m3H x y)
def m4L (x y : N4) : W64 := stepL (m2L x y) x.b y.b (m3H x y)
def m5H (x y : N4) : W64 := hopH (m4L x y) x.a y.c
def m5L (x y : N4) : W64 := hopL (m4L x y) x.a y.c
def N4.mul (x y : N4) : N4 := ⟨mulL x.a y.a, m3L x y, m5L x y, x.d * y.a + x.c * y.b + x.a * y.d + x.b * y.c + m2H x y + m4H x y + m5H x y⟩
theorem mul_whole (x0 x1 x2 x3 y0 y1 y2 y3 : Nat) : (x0 + 2 ^ 64 * x1 + 2 ^ 128 * x2 + 2 ^ 192 * x3) * (y0 + 2 ^ 64 * y1 + 2 ^ 128 * y2 + 2 ^ 192 * y3) =
    x0 * y0 + 2 ^ 64 * (x0 * y1 + x1 * y0) + 2 ^ 128 * (x0 * y2 + x1 * y1 + x2 * y0) + 2 ^ 192 * (x0 * y3 + x1 * y2 + x2 * y1 + x3 * y0) + 2 ^ 256 * (x1 * y3 + x2 * y2 + x3 * y1 + 2 ^ 64 * (x2 * y3 + x3 * y2) + 2 ^ 128 * (x3 * y3)) := by grind
theorem mul_toNat (x y : N4) : (x.mul y).toNat = x.toNat * y.toNat % 2 ^ 256 := by
  have e1 := mul_spec x.a y.a
  have e2 := hop_spec (mulH x.a y.a) x.b y.a
  have e3 := hop_spec (m1H x y) x.c y.a
  have e4 := hop_spec (m1L x y) x.a y.b
  have e5 := step_spec (m2L x y) x.b y.b (m3H x y)
  have e6 := hop_spec (m4L x y) x.a y.c
  have hw := mul_whole x.a.toNat x.b.toNat x.c.toNat x.d.toNat y.a.toNat y.b.toNat y.c.toNat y.d.toNat
  rw [show (x.toNat) = x.a.toNat + 2 ^ 64 * x.b.toNat + 2 ^ 128 * x.c.toNat + 2 ^ 192 * x.d.toNat from rfl, show (y.toNat) = y.a.toNat + 2 ^ 64 * y.b.toNat + 2 ^ 128 * y.c.toNat + 2 ^ 192 * y.d.toNat from rfl, hw]
  clear hw
  show (mulL x.a y.a).toNat + 2 ^ 64 * (m3L x y).toNat + 2 ^ 128 * (m5L x y).toNat + 2 ^ 192 * (x.d * y.a + x.c * y.b + x.a * y.d + x.b * y.c + m2H x y + m4H x y + m5H x y).toNat = _
  rw [show hopL (mulH x.a y.a) x.b y.a = m1L x y from rfl, show hopH (mulH x.a y.a) x.b y.a = m1H x y from rfl] at e2
  rw [show hopL (m1H x y) x.c y.a = m2L x y from rfl, show hopH (m1H x y) x.c y.a = m2H x y from rfl] at e3
  rw [show hopL (m1L x y) x.a y.b = m3L x y from rfl, show hopH (m1L x y) x.a y.b = m3H x y from rfl] at e4
  rw [show stepL (m2L x y) x.b y.b (m3H x y) = m4L x y from rfl, show stepH (m2L x y) x.b y.b (m3H x y) = m4H x y from rfl] at e5
  rw [show hopL (m4L x y) x.a y.c = m5L x y from rfl, show hopH (m4L x y) x.a y.c = m5H x y from rfl] at e6
  simp only [BitVec.toNat_add, BitVec.toNat_mul]
  have b0 := (mulL x.a y.a).isLt
  have b1 := (m3L x y).isLt
  have b2 := (m5L x y).isLt
  generalize x.a.toNat * y.a.toNat = p00 at *
  generalize x.b.toNat * y.a.toNat = p10 at *
  generalize x.c.toNat * y.a.toNat = p20 at *
  generalize x.a.toNat * y.b.toNat = p01 at *
  generalize x.b.toNat * y.b.toNat = p11 at *
  generalize x.a.toNat * y.c.toNat = p02 at *
  generalize x.d.toNat * y.a.toNat = p30 at *
  generalize x.c.toNat * y.b.toNat = p21 at *
  generalize x.a.toNat * y.d.toNat = p03 at *
  generalize x.b.toNat * y.c.toNat = p12 at *
  generalize x.b.toNat * y.d.toNat + x.c.toNat * y.c.toNat + x.d.toNat * y.b.toNat + 2 ^ 64 * (x.c.toNat * y.d.toNat + x.d.toNat * y.c.toNat) + 2 ^ 128 * (x.d.toNat * y.d.toNat) = rest
  omega
theorem retPut2 {b o n : Nat} {z : N4} {v : Value} {w W : World} (hv : v = .pointer (some ⟨b, o, none⟩)) (h : W = put4 (w.drewN n) b o z) : RetPut b o z w (.returned v) W.drew.drew := ⟨by rw [hv], n + 2, by rw [h]; rfl⟩
set_option maxRecDepth 100000 in
set_option maxHeartbeats 4000000 in
theorem mulInt_any (b o c p d q : Nat) (z x y : N4) (w : World) (hz : At4 w b o z) (fz : Free4 w b o) (hx : At4 w c p x) (hy : At4 w d q y) :
    Calls Tryz.prog 50 #[.pointer (some ⟨b, o, none⟩), .pointer (some ⟨c, p, none⟩), .pointer (some ⟨d, q, none⟩)] w (RetPut b o (x.mul y) w) := by
  obtain ⟨z0, z1, z2, z3⟩ := hz
  obtain ⟨f0, f1, f2, f3⟩ := fz
  obtain ⟨x0, x1, x2, x3⟩ := hx
  obtain ⟨y0, y1, y2, y3⟩ := hy
  go_enter Tryz.func50, Tryz.ntmps50
  go_wp2
  go_quiet (fail)
  go_wp2
  go_quiet (fail)
  go_wp2
  go_region_with (go_at_call 57; refine (mul64_any _ _ _).mono ?_; rintro e w' ⟨rfl, rfl⟩)
  all_goals
    go_wp2_with (go_at_call 63; refine (umulHop_any _ _ _ _).mono ?_; rintro e w' ⟨rfl, rfl⟩)
    go_region_with (go_at_call 63; refine (umulHop_any _ _ _ _).mono ?_; rintro e w' ⟨rfl, rfl⟩)
    all_goals
      go_wp2_with (go_at_call 64; refine (umulStep_any _ _ _ _ _).mono ?_; rintro e w' ⟨rfl, rfl⟩)
      go_region_with (go_at_call 63; refine (umulHop_any _ _ _ _).mono ?_; rintro e w' ⟨rfl, rfl⟩)
      all_goals
        go_wp2
        go_ret
        exact retPut2 rfl rfl
end Go.Proofs.YtfaocjcpnjmfiaaGreatDoor
