/-
  The contracts of uint256's Clone and AddMod, whatever places receiver and operands are.
-/
import Derived.Test.YtpjljjajnfoccaaSetw
import Derived.Test.YtpjljjajnfoccaaSlw
import Derived.Test.YtpjljjajnfoccaaArith
import Derived.Deep.DeepCutAuto
import Derived.Deep.CutBlock
import Derived.Outline
namespace Go.Proofs.Ytpjljjajnfoccaa
open Go.RowKit
set_option linter.unusedVariables false
set_option linter.unusedSimpArgs false
set_option maxRecDepth 100000
set_option maxHeartbeats 1000000 in
theorem clone_any (c p : Nat) (x : N4) (w : World) (hx : At4 w c p x) :
    Calls Try.prog 43 #[.pointer (some ⟨c, p, none⟩)] w fun e w' => e = .returned (.pointer (some ⟨w.heap.size, 0, none⟩)) ∧ At4 w' w.heap.size 0 x ∧ But [] w w' := by
  have hc := hx.lt
  obtain ⟨x0, x1, x2, x3⟩ := hx
  go_enter Try.func43, Try.ntmps43
  go_wp2
  go_region
  go_wp2
  go_ret
  refine ⟨rfl, ?_, ?_⟩
  · constructor <;> simp [go_sem]
  · exact ((But.refl [] w).alloc _).drew
/-- The sum modulo m, 0 where m is 0. -/
def addModN (x y m : N4) : N4 := if m.toNat = 0 then ⟨0#64, 0#64, 0#64, 0#64⟩ else ofN ((x.toNat + y.toNat) % m.toNat)
def redN (x m : N4) : N4 := if x.ltc m = true then x else x.dif m
theorem below_two (x m : N4) (h0 : m.d ≠ 0#64) (h : x.d ≤ m.d) : x.toNat < 2 * m.toNat := by
  have h1 : m.d.toNat ≠ 0 := fun e => h0 (BitVec.eq_of_toNat_eq e)
  rw [BitVec.le_def] at h
  have := x.a.isLt; have := x.b.isLt; have := x.c.isLt; have := x.d.isLt
  have := m.a.isLt; have := m.b.isLt; have := m.c.isLt
  unfold N4.toNat
  omega
theorem redN_toNat (x m : N4) (h0 : m.d ≠ 0#64) (h : x.d ≤ m.d) : (redN x m).toNat = x.toNat % m.toNat := by
  have h2 := below_two x m h0 h
  unfold redN
  by_cases hl : x.toNat < m.toNat
  · rw [if_pos (by rw [ltc_eq]; exact decide_eq_true hl), Nat.mod_eq_of_lt hl]
  · rw [if_neg (by rw [ltc_eq, decide_eq_false hl]; decide), dif_toNat]
    have := toNat_lt x
    have e : x.toNat % m.toNat = x.toNat - m.toNat := by
      rw [Nat.mod_eq_sub_mod (by omega)]
      exact Nat.mod_eq_of_lt (by omega)
    rw [e]
    omega
theorem fast_end (x y m : N4) (h0 : m.d ≠ 0#64) (hx : x.d ≤ m.d) (hy : y.d ≤ m.d) :
    (if (!(redN x m).addc (redN y m) && ((redN x m).add (redN y m)).ltc m) = true then (redN x m).add (redN y m) else ((redN x m).add (redN y m)).dif m) = addModN x y m := by
  have ex := redN_toNat x m h0 hx
  have ey := redN_toNat y m h0 hy
  have hm : 0 < m.toNat := by
    have := below_two m m h0 (BitVec.le_refl _)
    omega
  have lx := Nat.mod_lt x.toNat hm
  have ly := Nat.mod_lt y.toNat hm
  have lm := toNat_lt m
  have key : (x.toNat + y.toNat) % m.toNat = if x.toNat % m.toNat + y.toNat % m.toNat < m.toNat then x.toNat % m.toNat + y.toNat % m.toNat else x.toNat % m.toNat + y.toNat % m.toNat - m.toNat := by
    rw [Nat.add_mod]
    by_cases h : x.toNat % m.toNat + y.toNat % m.toNat < m.toNat
    · rw [if_pos h, Nat.mod_eq_of_lt h]
    · rw [if_neg h, Nat.mod_eq_sub_mod (by omega), Nat.mod_eq_of_lt (by omega)]
  apply toNat_inj
  have em : addModN x y m = ofN ((x.toNat + y.toNat) % m.toNat) := if_neg (by omega)
  rw [em, ofN_toNat, key, ltc_eq, addc_eq, add_toNat, ex, ey]
  by_cases h : x.toNat % m.toNat + y.toNat % m.toNat < m.toNat
  · rw [if_pos h, if_pos (by rw [decide_eq_false (by omega), decide_eq_true (by rw [Nat.mod_eq_of_lt (show x.toNat % m.toNat + y.toNat % m.toNat < 2 ^ 256 by omega)]; exact h)]; rfl), add_toNat, ex, ey]
  · rw [if_neg h, if_neg (by
      intro hb
      rw [Bool.and_eq_true, Bool.not_eq_true', decide_eq_false_iff_not, decide_eq_true_eq] at hb
      rw [Nat.mod_eq_of_lt (show x.toNat % m.toNat + y.toNat % m.toNat < 2 ^ 256 by omega)] at hb
      omega), dif_toNat, add_toNat, ex, ey]
    omega
/-! ### the fast way, by the evaluator -/
theorem mod_of {S M R k : Nat} (h : R < M) (e : S = R + k * M) : S % M = R := by
  rw [e, Nat.add_mul_mod_self_right, Nat.mod_eq_of_lt h]
theorem fast_nat {X Y M Pd Qd S T A C pc qc sc tc : Nat} (hX : X < 2 * M) (hY : Y < 2 * M) (lM : M < 2 ^ 256) (lX : X < 2 ^ 256) (lY : Y < 2 ^ 256) (lP : Pd < 2 ^ 256) (lQ : Qd < 2 ^ 256) (lS : S < 2 ^ 256) (lT : T < 2 ^ 256)
    (b1 : pc ≤ 1) (b2 : qc ≤ 1) (b3 : sc ≤ 1) (b4 : tc ≤ 1) (e1 : Pd + M = X + 2 ^ 256 * pc) (e2 : Qd + M = Y + 2 ^ 256 * qc) (hA : A = if pc = 0 then Pd else X) (hC : C = if qc = 0 then Qd else Y)
    (e3 : S + 2 ^ 256 * sc = A + C) (e4 : T + M = S + 2 ^ 256 * tc) : (X + Y) % M = if sc = 0 ∧ tc ≠ 0 then S else T := by
  have p : pc = 0 ∨ pc = 1 := by omega
  have q : qc = 0 ∨ qc = 1 := by omega
  have s : sc = 0 ∨ sc = 1 := by omega
  have t : tc = 0 ∨ tc = 1 := by omega
  rcases p with rfl | rfl <;> rcases q with rfl | rfl <;> simp only [if_true, if_false, Nat.one_ne_zero] at hA hC <;> subst hA hC <;> rcases s with rfl | rfl <;> rcases t with rfl | rfl <;>
    simp only [ne_eq, not_true, not_false_iff, and_true, and_false, true_and, false_and, if_true, if_false, Nat.one_ne_zero, Nat.zero_ne_one] <;>
    first
      | exact mod_of (k := 0) (by omega) (by omega)
      | exact mod_of (k := 1) (by omega) (by omega)
      | exact mod_of (k := 2) (by omega) (by omega)
      | exact mod_of (k := 3) (by omega) (by omega)
      | omega
theorem sub4 {a0 a1 a2 a3 b0 b1 b2 b3 d0 d1 d2 d3 c0 c1 c2 c3 : Nat} (e0 : d0 + b0 + 0 = a0 + 18446744073709551616 * c0) (e1 : d1 + b1 + c0 = a1 + 18446744073709551616 * c1) (e2 : d2 + b2 + c1 = a2 + 18446744073709551616 * c2) (e3 : d3 + b3 + c2 = a3 + 18446744073709551616 * c3) :
    (d0 + 2 ^ 64 * d1 + 2 ^ 128 * d2 + 2 ^ 192 * d3) + (b0 + 2 ^ 64 * b1 + 2 ^ 128 * b2 + 2 ^ 192 * b3) = (a0 + 2 ^ 64 * a1 + 2 ^ 128 * a2 + 2 ^ 192 * a3) + 2 ^ 256 * c3 := by omega
theorem add4 {a0 a1 a2 a3 b0 b1 b2 b3 d0 d1 d2 d3 c0 c1 c2 c3 : Nat} (e0 : d0 + 18446744073709551616 * c0 = a0 + b0 + 0) (e1 : d1 + 18446744073709551616 * c1 = a1 + b1 + c0) (e2 : d2 + 18446744073709551616 * c2 = a2 + b2 + c1) (e3 : d3 + 18446744073709551616 * c3 = a3 + b3 + c2) :
    (d0 + 2 ^ 64 * d1 + 2 ^ 128 * d2 + 2 ^ 192 * d3) + 2 ^ 256 * c3 = (a0 + 2 ^ 64 * a1 + 2 ^ 128 * a2 + 2 ^ 192 * a3) + (b0 + 2 ^ 64 * b1 + 2 ^ 128 * b2 + 2 ^ 192 * b3) := by omega
theorem lt4 {a0 a1 a2 a3 : Nat} (h0 : a0 < 18446744073709551616) (h1 : a1 < 18446744073709551616) (h2 : a2 < 18446744073709551616) (h3 : a3 < 18446744073709551616) : a0 + 2 ^ 64 * a1 + 2 ^ 128 * a2 + 2 ^ 192 * a3 < 2 ^ 256 := by omega
noncomputable def addModCode : Code := (Try.f20.body).getD .skip
noncomputable def fastCode : Code := Sl.nav [true, false, true, false] addModCode
noncomputable def fastK30 : Code := Sl.nav (List.replicate 26 true) fastCode
def fastS : Sl.S := Sl.s00 [(0, .p 0 0), (1, .p 1 0), (2, .p 2 0), (3, .p 3 0)] 12 (Sl.four 1 0 ++ (Sl.four 2 4 ++ Sl.four 3 8)) 4 323
def fastCells : List (Nat × Nat) := [(6, 0), (6, 1), (6, 2), (6, 3), (7, 0), (7, 1), (7, 2), (7, 3)]
def fastV0 : Sl.Sight := ⟨[.cmp 47 1 (.v 45) (.k 0), .cmp 46 0 (.v 37) (.k 0), .sub 44 45 (.v 36) (.v 11) (.v 43), .sub 42 43 (.v 34) (.v 10) (.v 41), .sub 40 41 (.v 32) (.v 9) (.v 39), .sub 38 39 (.v 30) (.v 8) (.k 0), .add 36 37 (.v 18) (.v 26) (.v 35), .add 34 35 (.v 16) (.v 24) (.v 33), .add 32 33 (.v 14) (.v 22) (.v 31), .add 30 31 (.v 12) (.v 20) (.k 0), .cmp 29 0 (.v 27) (.k 0), .cmp 28 0 (.v 19) (.k 0), .sub 26 27 (.v 7) (.v 11) (.v 25), .sub 24 25 (.v 6) (.v 10) (.v 23), .sub 22 23 (.v 5) (.v 9) (.v 21), .sub 20 21 (.v 4) (.v 8) (.k 0), .sub 18 19 (.v 3) (.v 11) (.v 17), .sub 16 17 (.v 2) (.v 10) (.v 15), .sub 14 15 (.v 1) (.v 9) (.v 13), .sub 12 13 (.v 0) (.v 8) (.k 0)],
  [some (.p 0 0), some (.p 6 0), some (.p 7 0)], [some (.v 30), some (.v 32), some (.v 34), some (.v 36), some (.v 38), some (.v 40), some (.v 42), some (.v 44)], [(47, true), (46, true), (29, true), (28, true)], 323, [7, 6, 5, 4]⟩
def fastV1 : Sl.Sight := ⟨[.cmp 47 1 (.v 45) (.k 0), .cmp 46 0 (.v 37) (.k 0), .sub 44 45 (.v 36) (.v 11) (.v 43), .sub 42 43 (.v 34) (.v 10) (.v 41), .sub 40 41 (.v 32) (.v 9) (.v 39), .sub 38 39 (.v 30) (.v 8) (.k 0), .add 36 37 (.v 18) (.v 26) (.v 35), .add 34 35 (.v 16) (.v 24) (.v 33), .add 32 33 (.v 14) (.v 22) (.v 31), .add 30 31 (.v 12) (.v 20) (.k 0), .cmp 29 0 (.v 27) (.k 0), .cmp 28 0 (.v 19) (.k 0), .sub 26 27 (.v 7) (.v 11) (.v 25), .sub 24 25 (.v 6) (.v 10) (.v 23), .sub 22 23 (.v 5) (.v 9) (.v 21), .sub 20 21 (.v 4) (.v 8) (.k 0), .sub 18 19 (.v 3) (.v 11) (.v 17), .sub 16 17 (.v 2) (.v 10) (.v 15), .sub 14 15 (.v 1) (.v 9) (.v 13), .sub 12 13 (.v 0) (.v 8) (.k 0)],
  [some (.p 0 0), some (.p 6 0), some (.p 7 0)], [some (.v 30), some (.v 32), some (.v 34), some (.v 36), some (.v 38), some (.v 40), some (.v 42), some (.v 44)], [(47, false), (46, true), (29, true), (28, true)], 323, [7, 6, 5, 4]⟩
def fastV2 : Sl.Sight := ⟨[.cmp 46 0 (.v 37) (.k 0), .sub 44 45 (.v 36) (.v 11) (.v 43), .sub 42 43 (.v 34) (.v 10) (.v 41), .sub 40 41 (.v 32) (.v 9) (.v 39), .sub 38 39 (.v 30) (.v 8) (.k 0), .add 36 37 (.v 18) (.v 26) (.v 35), .add 34 35 (.v 16) (.v 24) (.v 33), .add 32 33 (.v 14) (.v 22) (.v 31), .add 30 31 (.v 12) (.v 20) (.k 0), .cmp 29 0 (.v 27) (.k 0), .cmp 28 0 (.v 19) (.k 0), .sub 26 27 (.v 7) (.v 11) (.v 25), .sub 24 25 (.v 6) (.v 10) (.v 23), .sub 22 23 (.v 5) (.v 9) (.v 21), .sub 20 21 (.v 4) (.v 8) (.k 0), .sub 18 19 (.v 3) (.v 11) (.v 17), .sub 16 17 (.v 2) (.v 10) (.v 15), .sub 14 15 (.v 1) (.v 9) (.v 13), .sub 12 13 (.v 0) (.v 8) (.k 0)],
  [some (.p 0 0), some (.p 6 0), some (.p 7 0)], [some (.v 30), some (.v 32), some (.v 34), some (.v 36), some (.v 38), some (.v 40), some (.v 42), some (.v 44)], [(46, false), (29, true), (28, true)], 323, [7, 6, 5, 4]⟩
def fastV3 : Sl.Sight := ⟨[.cmp 47 1 (.v 45) (.k 0), .cmp 46 0 (.v 37) (.k 0), .sub 44 45 (.v 36) (.v 11) (.v 43), .sub 42 43 (.v 34) (.v 10) (.v 41), .sub 40 41 (.v 32) (.v 9) (.v 39), .sub 38 39 (.v 30) (.v 8) (.k 0), .add 36 37 (.v 18) (.v 7) (.v 35), .add 34 35 (.v 16) (.v 6) (.v 33), .add 32 33 (.v 14) (.v 5) (.v 31), .add 30 31 (.v 12) (.v 4) (.k 0), .cmp 29 0 (.v 27) (.k 0), .cmp 28 0 (.v 19) (.k 0), .sub 26 27 (.v 7) (.v 11) (.v 25), .sub 24 25 (.v 6) (.v 10) (.v 23), .sub 22 23 (.v 5) (.v 9) (.v 21), .sub 20 21 (.v 4) (.v 8) (.k 0), .sub 18 19 (.v 3) (.v 11) (.v 17), .sub 16 17 (.v 2) (.v 10) (.v 15), .sub 14 15 (.v 1) (.v 9) (.v 13), .sub 12 13 (.v 0) (.v 8) (.k 0)],
  [some (.p 0 0), some (.p 6 0), some (.p 7 0)], [some (.v 30), some (.v 32), some (.v 34), some (.v 36), some (.v 38), some (.v 40), some (.v 42), some (.v 44)], [(47, true), (46, true), (29, false), (28, true)], 323, [7, 6, 5, 4]⟩
def fastV4 : Sl.Sight := ⟨[.cmp 47 1 (.v 45) (.k 0), .cmp 46 0 (.v 37) (.k 0), .sub 44 45 (.v 36) (.v 11) (.v 43), .sub 42 43 (.v 34) (.v 10) (.v 41), .sub 40 41 (.v 32) (.v 9) (.v 39), .sub 38 39 (.v 30) (.v 8) (.k 0), .add 36 37 (.v 18) (.v 7) (.v 35), .add 34 35 (.v 16) (.v 6) (.v 33), .add 32 33 (.v 14) (.v 5) (.v 31), .add 30 31 (.v 12) (.v 4) (.k 0), .cmp 29 0 (.v 27) (.k 0), .cmp 28 0 (.v 19) (.k 0), .sub 26 27 (.v 7) (.v 11) (.v 25), .sub 24 25 (.v 6) (.v 10) (.v 23), .sub 22 23 (.v 5) (.v 9) (.v 21), .sub 20 21 (.v 4) (.v 8) (.k 0), .sub 18 19 (.v 3) (.v 11) (.v 17), .sub 16 17 (.v 2) (.v 10) (.v 15), .sub 14 15 (.v 1) (.v 9) (.v 13), .sub 12 13 (.v 0) (.v 8) (.k 0)],
  [some (.p 0 0), some (.p 6 0), some (.p 7 0)], [some (.v 30), some (.v 32), some (.v 34), some (.v 36), some (.v 38), some (.v 40), some (.v 42), some (.v 44)], [(47, false), (46, true), (29, false), (28, true)], 323, [7, 6, 5, 4]⟩
def fastV5 : Sl.Sight := ⟨[.cmp 46 0 (.v 37) (.k 0), .sub 44 45 (.v 36) (.v 11) (.v 43), .sub 42 43 (.v 34) (.v 10) (.v 41), .sub 40 41 (.v 32) (.v 9) (.v 39), .sub 38 39 (.v 30) (.v 8) (.k 0), .add 36 37 (.v 18) (.v 7) (.v 35), .add 34 35 (.v 16) (.v 6) (.v 33), .add 32 33 (.v 14) (.v 5) (.v 31), .add 30 31 (.v 12) (.v 4) (.k 0), .cmp 29 0 (.v 27) (.k 0), .cmp 28 0 (.v 19) (.k 0), .sub 26 27 (.v 7) (.v 11) (.v 25), .sub 24 25 (.v 6) (.v 10) (.v 23), .sub 22 23 (.v 5) (.v 9) (.v 21), .sub 20 21 (.v 4) (.v 8) (.k 0), .sub 18 19 (.v 3) (.v 11) (.v 17), .sub 16 17 (.v 2) (.v 10) (.v 15), .sub 14 15 (.v 1) (.v 9) (.v 13), .sub 12 13 (.v 0) (.v 8) (.k 0)],
  [some (.p 0 0), some (.p 6 0), some (.p 7 0)], [some (.v 30), some (.v 32), some (.v 34), some (.v 36), some (.v 38), some (.v 40), some (.v 42), some (.v 44)], [(46, false), (29, false), (28, true)], 323, [7, 6, 5, 4]⟩
def fastV6 : Sl.Sight := ⟨[.cmp 47 1 (.v 45) (.k 0), .cmp 46 0 (.v 37) (.k 0), .sub 44 45 (.v 36) (.v 11) (.v 43), .sub 42 43 (.v 34) (.v 10) (.v 41), .sub 40 41 (.v 32) (.v 9) (.v 39), .sub 38 39 (.v 30) (.v 8) (.k 0), .add 36 37 (.v 3) (.v 26) (.v 35), .add 34 35 (.v 2) (.v 24) (.v 33), .add 32 33 (.v 1) (.v 22) (.v 31), .add 30 31 (.v 0) (.v 20) (.k 0), .cmp 29 0 (.v 27) (.k 0), .cmp 28 0 (.v 19) (.k 0), .sub 26 27 (.v 7) (.v 11) (.v 25), .sub 24 25 (.v 6) (.v 10) (.v 23), .sub 22 23 (.v 5) (.v 9) (.v 21), .sub 20 21 (.v 4) (.v 8) (.k 0), .sub 18 19 (.v 3) (.v 11) (.v 17), .sub 16 17 (.v 2) (.v 10) (.v 15), .sub 14 15 (.v 1) (.v 9) (.v 13), .sub 12 13 (.v 0) (.v 8) (.k 0)],
  [some (.p 0 0), some (.p 6 0), some (.p 7 0)], [some (.v 30), some (.v 32), some (.v 34), some (.v 36), some (.v 38), some (.v 40), some (.v 42), some (.v 44)], [(47, true), (46, true), (29, true), (28, false)], 323, [7, 6, 5, 4]⟩
def fastV7 : Sl.Sight := ⟨[.cmp 47 1 (.v 45) (.k 0), .cmp 46 0 (.v 37) (.k 0), .sub 44 45 (.v 36) (.v 11) (.v 43), .sub 42 43 (.v 34) (.v 10) (.v 41), .sub 40 41 (.v 32) (.v 9) (.v 39), .sub 38 39 (.v 30) (.v 8) (.k 0), .add 36 37 (.v 3) (.v 26) (.v 35), .add 34 35 (.v 2) (.v 24) (.v 33), .add 32 33 (.v 1) (.v 22) (.v 31), .add 30 31 (.v 0) (.v 20) (.k 0), .cmp 29 0 (.v 27) (.k 0), .cmp 28 0 (.v 19) (.k 0), .sub 26 27 (.v 7) (.v 11) (.v 25), .sub 24 25 (.v 6) (.v 10) (.v 23), .sub 22 23 (.v 5) (.v 9) (.v 21), .sub 20 21 (.v 4) (.v 8) (.k 0), .sub 18 19 (.v 3) (.v 11) (.v 17), .sub 16 17 (.v 2) (.v 10) (.v 15), .sub 14 15 (.v 1) (.v 9) (.v 13), .sub 12 13 (.v 0) (.v 8) (.k 0)],
  [some (.p 0 0), some (.p 6 0), some (.p 7 0)], [some (.v 30), some (.v 32), some (.v 34), some (.v 36), some (.v 38), some (.v 40), some (.v 42), some (.v 44)], [(47, false), (46, true), (29, true), (28, false)], 323, [7, 6, 5, 4]⟩
def fastV8 : Sl.Sight := ⟨[.cmp 46 0 (.v 37) (.k 0), .sub 44 45 (.v 36) (.v 11) (.v 43), .sub 42 43 (.v 34) (.v 10) (.v 41), .sub 40 41 (.v 32) (.v 9) (.v 39), .sub 38 39 (.v 30) (.v 8) (.k 0), .add 36 37 (.v 3) (.v 26) (.v 35), .add 34 35 (.v 2) (.v 24) (.v 33), .add 32 33 (.v 1) (.v 22) (.v 31), .add 30 31 (.v 0) (.v 20) (.k 0), .cmp 29 0 (.v 27) (.k 0), .cmp 28 0 (.v 19) (.k 0), .sub 26 27 (.v 7) (.v 11) (.v 25), .sub 24 25 (.v 6) (.v 10) (.v 23), .sub 22 23 (.v 5) (.v 9) (.v 21), .sub 20 21 (.v 4) (.v 8) (.k 0), .sub 18 19 (.v 3) (.v 11) (.v 17), .sub 16 17 (.v 2) (.v 10) (.v 15), .sub 14 15 (.v 1) (.v 9) (.v 13), .sub 12 13 (.v 0) (.v 8) (.k 0)],
  [some (.p 0 0), some (.p 6 0), some (.p 7 0)], [some (.v 30), some (.v 32), some (.v 34), some (.v 36), some (.v 38), some (.v 40), some (.v 42), some (.v 44)], [(46, false), (29, true), (28, false)], 323, [7, 6, 5, 4]⟩
def fastV9 : Sl.Sight := ⟨[.cmp 47 1 (.v 45) (.k 0), .cmp 46 0 (.v 37) (.k 0), .sub 44 45 (.v 36) (.v 11) (.v 43), .sub 42 43 (.v 34) (.v 10) (.v 41), .sub 40 41 (.v 32) (.v 9) (.v 39), .sub 38 39 (.v 30) (.v 8) (.k 0), .add 36 37 (.v 3) (.v 7) (.v 35), .add 34 35 (.v 2) (.v 6) (.v 33), .add 32 33 (.v 1) (.v 5) (.v 31), .add 30 31 (.v 0) (.v 4) (.k 0), .cmp 29 0 (.v 27) (.k 0), .cmp 28 0 (.v 19) (.k 0), .sub 26 27 (.v 7) (.v 11) (.v 25), .sub 24 25 (.v 6) (.v 10) (.v 23), .sub 22 23 (.v 5) (.v 9) (.v 21), .sub 20 21 (.v 4) (.v 8) (.k 0), .sub 18 19 (.v 3) (.v 11) (.v 17), .sub 16 17 (.v 2) (.v 10) (.v 15), .sub 14 15 (.v 1) (.v 9) (.v 13), .sub 12 13 (.v 0) (.v 8) (.k 0)],
  [some (.p 0 0), some (.p 6 0), some (.p 7 0)], [some (.v 30), some (.v 32), some (.v 34), some (.v 36), some (.v 38), some (.v 40), some (.v 42), some (.v 44)], [(47, true), (46, true), (29, false), (28, false)], 323, [7, 6, 5, 4]⟩
def fastV10 : Sl.Sight := ⟨[.cmp 47 1 (.v 45) (.k 0), .cmp 46 0 (.v 37) (.k 0), .sub 44 45 (.v 36) (.v 11) (.v 43), .sub 42 43 (.v 34) (.v 10) (.v 41), .sub 40 41 (.v 32) (.v 9) (.v 39), .sub 38 39 (.v 30) (.v 8) (.k 0), .add 36 37 (.v 3) (.v 7) (.v 35), .add 34 35 (.v 2) (.v 6) (.v 33), .add 32 33 (.v 1) (.v 5) (.v 31), .add 30 31 (.v 0) (.v 4) (.k 0), .cmp 29 0 (.v 27) (.k 0), .cmp 28 0 (.v 19) (.k 0), .sub 26 27 (.v 7) (.v 11) (.v 25), .sub 24 25 (.v 6) (.v 10) (.v 23), .sub 22 23 (.v 5) (.v 9) (.v 21), .sub 20 21 (.v 4) (.v 8) (.k 0), .sub 18 19 (.v 3) (.v 11) (.v 17), .sub 16 17 (.v 2) (.v 10) (.v 15), .sub 14 15 (.v 1) (.v 9) (.v 13), .sub 12 13 (.v 0) (.v 8) (.k 0)],
  [some (.p 0 0), some (.p 6 0), some (.p 7 0)], [some (.v 30), some (.v 32), some (.v 34), some (.v 36), some (.v 38), some (.v 40), some (.v 42), some (.v 44)], [(47, false), (46, true), (29, false), (28, false)], 323, [7, 6, 5, 4]⟩
def fastV11 : Sl.Sight := ⟨[.cmp 46 0 (.v 37) (.k 0), .sub 44 45 (.v 36) (.v 11) (.v 43), .sub 42 43 (.v 34) (.v 10) (.v 41), .sub 40 41 (.v 32) (.v 9) (.v 39), .sub 38 39 (.v 30) (.v 8) (.k 0), .add 36 37 (.v 3) (.v 7) (.v 35), .add 34 35 (.v 2) (.v 6) (.v 33), .add 32 33 (.v 1) (.v 5) (.v 31), .add 30 31 (.v 0) (.v 4) (.k 0), .cmp 29 0 (.v 27) (.k 0), .cmp 28 0 (.v 19) (.k 0), .sub 26 27 (.v 7) (.v 11) (.v 25), .sub 24 25 (.v 6) (.v 10) (.v 23), .sub 22 23 (.v 5) (.v 9) (.v 21), .sub 20 21 (.v 4) (.v 8) (.k 0), .sub 18 19 (.v 3) (.v 11) (.v 17), .sub 16 17 (.v 2) (.v 10) (.v 15), .sub 14 15 (.v 1) (.v 9) (.v 13), .sub 12 13 (.v 0) (.v 8) (.k 0)],
  [some (.p 0 0), some (.p 6 0), some (.p 7 0)], [some (.v 30), some (.v 32), some (.v 34), some (.v 36), some (.v 38), some (.v 40), some (.v 42), some (.v 44)], [(46, false), (29, false), (28, false)], 323, [7, 6, 5, 4]⟩
noncomputable def fastA : List Code := [Sl.nav [false, true, false, false] fastK30, .ret, Sl.nav [true] fastK30]
noncomputable def fastB : List Code := [Sl.nav [true, false] fastK30, .ret]
set_option maxRecDepth 1000000 in
theorem fast_run : (Sl.runK Sl.nums 300 [fastCode] fastS).map (fun out => out.map (Sl.sight [0, 13, 16] fastCells)) =
    some [(.stop fastA, fastV0), (.stop fastB, fastV1), (.stop fastB, fastV2), (.stop fastA, fastV3), (.stop fastB, fastV4), (.stop fastB, fastV5), (.stop fastA, fastV6), (.stop fastB, fastV7), (.stop fastB, fastV8), (.stop fastA, fastV9), (.stop fastB, fastV10), (.stop fastB, fastV11)] := by kernel_rfl
def fastν (x y m : N4) : Nat → Nat := Sl.nth 0 [x.a.toNat, x.b.toNat, x.c.toNat, x.d.toNat, y.a.toNat, y.b.toNat, y.c.toNat, y.d.toNat, m.a.toNat, m.b.toNat, m.c.toNat, m.d.toNat]
def fastβ (b o c p d q f r : Nat) : Nat → Nat × Nat := Sl.nth (0, 0) [(b, o), (c, p), (d, q), (f, r)]
/-- The number that a path ends with is the sum modulo m. -/
theorem fast_num {x y m : N4} (h0 : m.d ≠ 0#64) (h1 : x.d ≤ m.d) (h2 : y.d ≤ m.d) {a0 a1 a2 a3 : Nat} (l0 : a0 < 18446744073709551616) (l1 : a1 < 18446744073709551616) (l2 : a2 < 18446744073709551616) (l3 : a3 < 18446744073709551616)
    (h : (x.toNat + y.toNat) % m.toNat = a0 + 2 ^ 64 * a1 + 2 ^ 128 * a2 + 2 ^ 192 * a3) : Sl.num4 a0 a1 a2 a3 = addModN x y m := by
  have := below_two m m h0 (BitVec.le_refl _)
  apply toNat_inj
  rw [Sl.num4_toNat l0 l1 l2 l3]
  unfold addModN
  rw [if_neg (by omega), ofN_toNat, h]
  exact (Nat.mod_eq_of_lt (by omega)).symm
section
variable {b o c p d q f r : Nat} {z x y m : N4} {w : World} {Q : Exit → Act → World → Prop}
/-- The end: Set of the new number. -/
theorem fast_set (S T D1 D2 : Nat) {k : Code} {rest : List Code} (hk : Sl.callShape k = some (.tmp 0, D1, 40, .tmp S, D2, 8)) (h1 : D1 < 323) (h2 : D2 < 323) (h3 : D1 ≠ S)
    (hz : At4 w b o z) (fz : Free4 w b o) {a' : Act} {w' : World} (hsz : a'.tmps.size = 323) (hd : a'.defers = []) (hb : Below w.heap.size w w') (s0 : a'.tmps[0]? = some (.pointer (some ⟨b, o, none⟩))) {g h : Nat} (sS : a'.tmps[S]? = some (.pointer (some ⟨g, h, none⟩)))
    {R : N4} (hR : At4 w' g h R) (hg : g ≠ b) (hQ : ∀ a1 w1, a1.tmps[8]? = some (.pointer (some ⟨b, o, none⟩)) → a1.defers = [] → Left w b o R w1 → Q .ret a1 w1) : Sl.wpK Try.prog Q (k :: .ret :: rest) a' w' := by
  have hbl := hz.lt
  have e0 : a'.eval (.tmp 0) = .pointer (some ⟨b, o, none⟩) := by simp only [Act.eval, Array.getD_eq_getD_getElem?, s0, Option.getD_some]
  have eS : ∀ v, (a'.put (some D1) v).eval (.tmp S) = .pointer (some ⟨g, h, none⟩) := fun v => by
    simp only [Act.eval, Act.put, Array.getD_eq_getD_getElem?, Array.getElem?_setIfInBounds_ne h3, sS, Option.getD_some]
  refine Sl.wp_call3 hk e0 (by omega) (by omega) eS (fun w => Sl.run_enter Try.func40 (by kernel_rfl) (by kernel_rfl) _ w) ?_
  refine (set_any b o g h z R w' (hz.bel hb) (fz.bel hbl hb) hR (Sep.blocks hg.symm)).mono ?_
  rintro e w1 ⟨rfl, m1, rfl⟩
  refine ⟨_, rfl, ?_⟩
  refine wp_ret (hQ _ _ ?_ ?_ (Left.of_alloc hb hbl))
  · have : 8 < ((a'.put (some D1) (.pointer (some ⟨b, o, none⟩))).put (some D2) (.pointer (some ⟨b, o, none⟩))).tmps.size := by simp only [Act.put, Array.size_setIfInBounds]; omega
    simp only [Act.put] at this ⊢
    rw [Array.getElem?_setIfInBounds_self_of_lt this]
  · simp only [Act.put]; exact hd
theorem fast_leaf0 (hz : At4 w b o z) (fz : Free4 w b o) (h0 : m.d ≠ 0#64) (h1 : x.d ≤ m.d) (h2 : y.d ≤ m.d) (hQ : ∀ a1 w1, a1.tmps[8]? = some (.pointer (some ⟨b, o, none⟩)) → a1.defers = [] → Left w b o (addModN x y m) w1 → Q .ret a1 w1)
    {ν : Nat → Nat} {β : Nat → Nat × Nat} {a' : Act} {w' : World} (g1 : Sl.Agree 12 (fastν x y m) ν) (g2 : Sl.Agree 4 (fastβ b o c p d q f r) β) (F : Sl.Facts w.heap.size w [0, 13, 16] fastCells [] fastV0 ν β a' w') :
    (Sl.Leaf.stop fastA).post Try.prog Q a' w' := by
  obtain ⟨I0, I1, I2, I3, I4, I5, I6, I7, I8, I9, I10, I11, I12, I13, I14, I15, I16, I17, I18, I19, _⟩ := F.ins
  have E0_0 : ν 47 = (Sl.cmpN 1 (ν 45) 0).toNat := I0
  clear I0
  have E1_0 : ν 46 = (Sl.cmpN 0 (ν 37) 0).toNat := I1
  clear I1
  have E2_0 : ν 44 + ν 11 + ν 43 = ν 36 + 18446744073709551616 * ν 45 := I2.1
  have E2_1 : ν 44 < 18446744073709551616 := I2.2.1
  have E2_2 : ν 45 ≤ 1 := I2.2.2
  clear I2
  have E3_0 : ν 42 + ν 10 + ν 41 = ν 34 + 18446744073709551616 * ν 43 := I3.1
  have E3_1 : ν 42 < 18446744073709551616 := I3.2.1
  have E3_2 : ν 43 ≤ 1 := I3.2.2
  clear I3
  have E4_0 : ν 40 + ν 9 + ν 39 = ν 32 + 18446744073709551616 * ν 41 := I4.1
  have E4_1 : ν 40 < 18446744073709551616 := I4.2.1
  have E4_2 : ν 41 ≤ 1 := I4.2.2
  clear I4
  have E5_0 : ν 38 + ν 8 + 0 = ν 30 + 18446744073709551616 * ν 39 := I5.1
  have E5_1 : ν 38 < 18446744073709551616 := I5.2.1
  have E5_2 : ν 39 ≤ 1 := I5.2.2
  clear I5
  have E6_0 : ν 36 + 18446744073709551616 * ν 37 = ν 18 + ν 26 + ν 35 := I6.1
  have E6_1 : ν 36 < 18446744073709551616 := I6.2.1
  have E6_2 : ν 37 ≤ 1 := I6.2.2
  clear I6
  have E7_0 : ν 34 + 18446744073709551616 * ν 35 = ν 16 + ν 24 + ν 33 := I7.1
  have E7_1 : ν 34 < 18446744073709551616 := I7.2.1
  have E7_2 : ν 35 ≤ 1 := I7.2.2
  clear I7
  have E8_0 : ν 32 + 18446744073709551616 * ν 33 = ν 14 + ν 22 + ν 31 := I8.1
  have E8_1 : ν 32 < 18446744073709551616 := I8.2.1
  have E8_2 : ν 33 ≤ 1 := I8.2.2
  clear I8
  have E9_0 : ν 30 + 18446744073709551616 * ν 31 = ν 12 + ν 20 + 0 := I9.1
  have E9_1 : ν 30 < 18446744073709551616 := I9.2.1
  have E9_2 : ν 31 ≤ 1 := I9.2.2
  clear I9
  have E10_0 : ν 29 = (Sl.cmpN 0 (ν 27) 0).toNat := I10
  clear I10
  have E11_0 : ν 28 = (Sl.cmpN 0 (ν 19) 0).toNat := I11
  clear I11
  have E12_0 : ν 26 + ν 11 + ν 25 = ν 7 + 18446744073709551616 * ν 27 := I12.1
  have E12_1 : ν 26 < 18446744073709551616 := I12.2.1
  have E12_2 : ν 27 ≤ 1 := I12.2.2
  clear I12
  have E13_0 : ν 24 + ν 10 + ν 23 = ν 6 + 18446744073709551616 * ν 25 := I13.1
  have E13_1 : ν 24 < 18446744073709551616 := I13.2.1
  have E13_2 : ν 25 ≤ 1 := I13.2.2
  clear I13
  have E14_0 : ν 22 + ν 9 + ν 21 = ν 5 + 18446744073709551616 * ν 23 := I14.1
  have E14_1 : ν 22 < 18446744073709551616 := I14.2.1
  have E14_2 : ν 23 ≤ 1 := I14.2.2
  clear I14
  have E15_0 : ν 20 + ν 8 + 0 = ν 4 + 18446744073709551616 * ν 21 := I15.1
  have E15_1 : ν 20 < 18446744073709551616 := I15.2.1
  have E15_2 : ν 21 ≤ 1 := I15.2.2
  clear I15
  have E16_0 : ν 18 + ν 11 + ν 17 = ν 3 + 18446744073709551616 * ν 19 := I16.1
  have E16_1 : ν 18 < 18446744073709551616 := I16.2.1
  have E16_2 : ν 19 ≤ 1 := I16.2.2
  clear I16
  have E17_0 : ν 16 + ν 10 + ν 15 = ν 2 + 18446744073709551616 * ν 17 := I17.1
  have E17_1 : ν 16 < 18446744073709551616 := I17.2.1
  have E17_2 : ν 17 ≤ 1 := I17.2.2
  clear I17
  have E18_0 : ν 14 + ν 9 + ν 13 = ν 1 + 18446744073709551616 * ν 15 := I18.1
  have E18_1 : ν 14 < 18446744073709551616 := I18.2.1
  have E18_2 : ν 15 ≤ 1 := I18.2.2
  clear I18
  have E19_0 : ν 12 + ν 8 + 0 = ν 0 + 18446744073709551616 * ν 13 := I19.1
  have E19_1 : ν 12 < 18446744073709551616 := I19.2.1
  have E19_2 : ν 13 ≤ 1 := I19.2.2
  clear I19
  obtain ⟨K0, K1, K2, K3, _⟩ := F.kn
  have D45 := Sl.ne_yes E0_0 K0
  have D37 := Sl.eq_yes E1_0 K1
  have D27 := Sl.eq_yes E10_0 K2
  have D19 := Sl.eq_yes E11_0 K3
  have x0 : ν 0 = x.a.toNat := g1 0 (by decide)
  have x1 : ν 1 = x.b.toNat := g1 1 (by decide)
  have x2 : ν 2 = x.c.toNat := g1 2 (by decide)
  have x3 : ν 3 = x.d.toNat := g1 3 (by decide)
  have x4 : ν 4 = y.a.toNat := g1 4 (by decide)
  have x5 : ν 5 = y.b.toNat := g1 5 (by decide)
  have x6 : ν 6 = y.c.toNat := g1 6 (by decide)
  have x7 : ν 7 = y.d.toNat := g1 7 (by decide)
  have x8 : ν 8 = m.a.toNat := g1 8 (by decide)
  have x9 : ν 9 = m.b.toNat := g1 9 (by decide)
  have x10 : ν 10 = m.c.toNat := g1 10 (by decide)
  have x11 : ν 11 = m.d.toNat := g1 11 (by decide)
  have hX := below_two x m h0 h1
  have hY := below_two y m h0 h2
  have lM := toNat_lt m
  have lX := toNat_lt x
  have lY := toNat_lt y
  have vX : x.toNat = ν 0 + 2 ^ 64 * ν 1 + 2 ^ 128 * ν 2 + 2 ^ 192 * ν 3 := by rw [x0, x1, x2, x3]; rfl
  have vY : y.toNat = ν 4 + 2 ^ 64 * ν 5 + 2 ^ 128 * ν 6 + 2 ^ 192 * ν 7 := by rw [x4, x5, x6, x7]; rfl
  have vM : m.toNat = ν 8 + 2 ^ 64 * ν 9 + 2 ^ 128 * ν 10 + 2 ^ 192 * ν 11 := by rw [x8, x9, x10, x11]; rfl
  have key := fast_nat (X := ν 0 + 2 ^ 64 * ν 1 + 2 ^ 128 * ν 2 + 2 ^ 192 * ν 3) (Y := ν 4 + 2 ^ 64 * ν 5 + 2 ^ 128 * ν 6 + 2 ^ 192 * ν 7) (M := ν 8 + 2 ^ 64 * ν 9 + 2 ^ 128 * ν 10 + 2 ^ 192 * ν 11) (Pd := ν 12 + 2 ^ 64 * ν 14 + 2 ^ 128 * ν 16 + 2 ^ 192 * ν 18) (Qd := ν 20 + 2 ^ 64 * ν 22 + 2 ^ 128 * ν 24 + 2 ^ 192 * ν 26) (S := ν 30 + 2 ^ 64 * ν 32 + 2 ^ 128 * ν 34 + 2 ^ 192 * ν 36) (T := ν 38 + 2 ^ 64 * ν 40 + 2 ^ 128 * ν 42 + 2 ^ 192 * ν 44) (A := ν 12 + 2 ^ 64 * ν 14 + 2 ^ 128 * ν 16 + 2 ^ 192 * ν 18) (C := ν 20 + 2 ^ 64 * ν 22 + 2 ^ 128 * ν 24 + 2 ^ 192 * ν 26) (pc := ν 19) (qc := ν 27) (sc := ν 37) (tc := ν 45)
    (by rw [← vX, ← vM]; exact hX) (by rw [← vY, ← vM]; exact hY) (by rw [← vM]; exact lM) (by rw [← vX]; exact lX) (by rw [← vY]; exact lY) (lt4 E19_1 E18_1 E17_1 E16_1) (lt4 E15_1 E14_1 E13_1 E12_1) (lt4 E9_1 E8_1 E7_1 E6_1) (lt4 E5_1 E4_1 E3_1 E2_1) E16_2 E12_2 E6_2 E2_2
    (sub4 E19_0 E18_0 E17_0 E16_0) (sub4 E15_0 E14_0 E13_0 E12_0) (if_pos D19).symm (if_pos D27).symm (add4 E9_0 E8_0 E7_0 E6_0) (sub4 E5_0 E4_0 E3_0 E2_0)
  rw [← vX, ← vY, ← vM] at key
  rw [if_pos ⟨D37, D45⟩] at key
  have hnum := fast_num h0 h1 h2 E9_1 E8_1 E7_1 E6_1 key
  obtain ⟨s0, s13, s16, _⟩ := F.slot
  obtain ⟨m60, m61, m62, m63, m70, m71, m72, m73, _⟩ := F.cell
  have hb0 : β 0 = (b, o) := g2 0 (by decide)
  have hbl := hz.lt
  have s0' : a'.tmps[0]? = some (.pointer (some ⟨b, o, none⟩)) := by
    rw [s0]; simp only [Sl.SV.val, hb0, Nat.add_zero]
  have hR : At4 w' (β 6).1 (β 6).2 (addModN x y m) := by
    rw [← hnum]
    exact Sl.at4_of m60 m61 m62 m63 E9_1 E8_1 E7_1 E6_1
  exact fast_set 13 0 275 276 (by kernel_rfl) (by decide) (by decide) (by decide) hz fz F.size F.defers F.bel s0' s13 hR (by have := F.own 6 (by decide); omega) hQ
theorem fast_leaf1 (hz : At4 w b o z) (fz : Free4 w b o) (h0 : m.d ≠ 0#64) (h1 : x.d ≤ m.d) (h2 : y.d ≤ m.d) (hQ : ∀ a1 w1, a1.tmps[8]? = some (.pointer (some ⟨b, o, none⟩)) → a1.defers = [] → Left w b o (addModN x y m) w1 → Q .ret a1 w1)
    {ν : Nat → Nat} {β : Nat → Nat × Nat} {a' : Act} {w' : World} (g1 : Sl.Agree 12 (fastν x y m) ν) (g2 : Sl.Agree 4 (fastβ b o c p d q f r) β) (F : Sl.Facts w.heap.size w [0, 13, 16] fastCells [] fastV1 ν β a' w') :
    (Sl.Leaf.stop fastB).post Try.prog Q a' w' := by
  obtain ⟨I0, I1, I2, I3, I4, I5, I6, I7, I8, I9, I10, I11, I12, I13, I14, I15, I16, I17, I18, I19, _⟩ := F.ins
  have E0_0 : ν 47 = (Sl.cmpN 1 (ν 45) 0).toNat := I0
  clear I0
  have E1_0 : ν 46 = (Sl.cmpN 0 (ν 37) 0).toNat := I1
  clear I1
  have E2_0 : ν 44 + ν 11 + ν 43 = ν 36 + 18446744073709551616 * ν 45 := I2.1
  have E2_1 : ν 44 < 18446744073709551616 := I2.2.1
  have E2_2 : ν 45 ≤ 1 := I2.2.2
  clear I2
  have E3_0 : ν 42 + ν 10 + ν 41 = ν 34 + 18446744073709551616 * ν 43 := I3.1
  have E3_1 : ν 42 < 18446744073709551616 := I3.2.1
  have E3_2 : ν 43 ≤ 1 := I3.2.2
  clear I3
  have E4_0 : ν 40 + ν 9 + ν 39 = ν 32 + 18446744073709551616 * ν 41 := I4.1
  have E4_1 : ν 40 < 18446744073709551616 := I4.2.1
  have E4_2 : ν 41 ≤ 1 := I4.2.2
  clear I4
  have E5_0 : ν 38 + ν 8 + 0 = ν 30 + 18446744073709551616 * ν 39 := I5.1
  have E5_1 : ν 38 < 18446744073709551616 := I5.2.1
  have E5_2 : ν 39 ≤ 1 := I5.2.2
  clear I5
  have E6_0 : ν 36 + 18446744073709551616 * ν 37 = ν 18 + ν 26 + ν 35 := I6.1
  have E6_1 : ν 36 < 18446744073709551616 := I6.2.1
  have E6_2 : ν 37 ≤ 1 := I6.2.2
  clear I6
  have E7_0 : ν 34 + 18446744073709551616 * ν 35 = ν 16 + ν 24 + ν 33 := I7.1
  have E7_1 : ν 34 < 18446744073709551616 := I7.2.1
  have E7_2 : ν 35 ≤ 1 := I7.2.2
  clear I7
  have E8_0 : ν 32 + 18446744073709551616 * ν 33 = ν 14 + ν 22 + ν 31 := I8.1
  have E8_1 : ν 32 < 18446744073709551616 := I8.2.1
  have E8_2 : ν 33 ≤ 1 := I8.2.2
  clear I8
  have E9_0 : ν 30 + 18446744073709551616 * ν 31 = ν 12 + ν 20 + 0 := I9.1
  have E9_1 : ν 30 < 18446744073709551616 := I9.2.1
  have E9_2 : ν 31 ≤ 1 := I9.2.2
  clear I9
  have E10_0 : ν 29 = (Sl.cmpN 0 (ν 27) 0).toNat := I10
  clear I10
  have E11_0 : ν 28 = (Sl.cmpN 0 (ν 19) 0).toNat := I11
  clear I11
  have E12_0 : ν 26 + ν 11 + ν 25 = ν 7 + 18446744073709551616 * ν 27 := I12.1
  have E12_1 : ν 26 < 18446744073709551616 := I12.2.1
  have E12_2 : ν 27 ≤ 1 := I12.2.2
  clear I12
  have E13_0 : ν 24 + ν 10 + ν 23 = ν 6 + 18446744073709551616 * ν 25 := I13.1
  have E13_1 : ν 24 < 18446744073709551616 := I13.2.1
  have E13_2 : ν 25 ≤ 1 := I13.2.2
  clear I13
  have E14_0 : ν 22 + ν 9 + ν 21 = ν 5 + 18446744073709551616 * ν 23 := I14.1
  have E14_1 : ν 22 < 18446744073709551616 := I14.2.1
  have E14_2 : ν 23 ≤ 1 := I14.2.2
  clear I14
  have E15_0 : ν 20 + ν 8 + 0 = ν 4 + 18446744073709551616 * ν 21 := I15.1
  have E15_1 : ν 20 < 18446744073709551616 := I15.2.1
  have E15_2 : ν 21 ≤ 1 := I15.2.2
  clear I15
  have E16_0 : ν 18 + ν 11 + ν 17 = ν 3 + 18446744073709551616 * ν 19 := I16.1
  have E16_1 : ν 18 < 18446744073709551616 := I16.2.1
  have E16_2 : ν 19 ≤ 1 := I16.2.2
  clear I16
  have E17_0 : ν 16 + ν 10 + ν 15 = ν 2 + 18446744073709551616 * ν 17 := I17.1
  have E17_1 : ν 16 < 18446744073709551616 := I17.2.1
  have E17_2 : ν 17 ≤ 1 := I17.2.2
  clear I17
  have E18_0 : ν 14 + ν 9 + ν 13 = ν 1 + 18446744073709551616 * ν 15 := I18.1
  have E18_1 : ν 14 < 18446744073709551616 := I18.2.1
  have E18_2 : ν 15 ≤ 1 := I18.2.2
  clear I18
  have E19_0 : ν 12 + ν 8 + 0 = ν 0 + 18446744073709551616 * ν 13 := I19.1
  have E19_1 : ν 12 < 18446744073709551616 := I19.2.1
  have E19_2 : ν 13 ≤ 1 := I19.2.2
  clear I19
  obtain ⟨K0, K1, K2, K3, _⟩ := F.kn
  have D45 := Sl.ne_no E0_0 K0
  have D37 := Sl.eq_yes E1_0 K1
  have D27 := Sl.eq_yes E10_0 K2
  have D19 := Sl.eq_yes E11_0 K3
  have x0 : ν 0 = x.a.toNat := g1 0 (by decide)
  have x1 : ν 1 = x.b.toNat := g1 1 (by decide)
  have x2 : ν 2 = x.c.toNat := g1 2 (by decide)
  have x3 : ν 3 = x.d.toNat := g1 3 (by decide)
  have x4 : ν 4 = y.a.toNat := g1 4 (by decide)
  have x5 : ν 5 = y.b.toNat := g1 5 (by decide)
  have x6 : ν 6 = y.c.toNat := g1 6 (by decide)
  have x7 : ν 7 = y.d.toNat := g1 7 (by decide)
  have x8 : ν 8 = m.a.toNat := g1 8 (by decide)
  have x9 : ν 9 = m.b.toNat := g1 9 (by decide)
  have x10 : ν 10 = m.c.toNat := g1 10 (by decide)
  have x11 : ν 11 = m.d.toNat := g1 11 (by decide)
  have hX := below_two x m h0 h1
  have hY := below_two y m h0 h2
  have lM := toNat_lt m
  have lX := toNat_lt x
  have lY := toNat_lt y
  have vX : x.toNat = ν 0 + 2 ^ 64 * ν 1 + 2 ^ 128 * ν 2 + 2 ^ 192 * ν 3 := by rw [x0, x1, x2, x3]; rfl
  have vY : y.toNat = ν 4 + 2 ^ 64 * ν 5 + 2 ^ 128 * ν 6 + 2 ^ 192 * ν 7 := by rw [x4, x5, x6, x7]; rfl
  have vM : m.toNat = ν 8 + 2 ^ 64 * ν 9 + 2 ^ 128 * ν 10 + 2 ^ 192 * ν 11 := by rw [x8, x9, x10, x11]; rfl
  have key := fast_nat (X := ν 0 + 2 ^ 64 * ν 1 + 2 ^ 128 * ν 2 + 2 ^ 192 * ν 3) (Y := ν 4 + 2 ^ 64 * ν 5 + 2 ^ 128 * ν 6 + 2 ^ 192 * ν 7) (M := ν 8 + 2 ^ 64 * ν 9 + 2 ^ 128 * ν 10 + 2 ^ 192 * ν 11) (Pd := ν 12 + 2 ^ 64 * ν 14 + 2 ^ 128 * ν 16 + 2 ^ 192 * ν 18) (Qd := ν 20 + 2 ^ 64 * ν 22 + 2 ^ 128 * ν 24 + 2 ^ 192 * ν 26) (S := ν 30 + 2 ^ 64 * ν 32 + 2 ^ 128 * ν 34 + 2 ^ 192 * ν 36) (T := ν 38 + 2 ^ 64 * ν 40 + 2 ^ 128 * ν 42 + 2 ^ 192 * ν 44) (A := ν 12 + 2 ^ 64 * ν 14 + 2 ^ 128 * ν 16 + 2 ^ 192 * ν 18) (C := ν 20 + 2 ^ 64 * ν 22 + 2 ^ 128 * ν 24 + 2 ^ 192 * ν 26) (pc := ν 19) (qc := ν 27) (sc := ν 37) (tc := ν 45)
    (by rw [← vX, ← vM]; exact hX) (by rw [← vY, ← vM]; exact hY) (by rw [← vM]; exact lM) (by rw [← vX]; exact lX) (by rw [← vY]; exact lY) (lt4 E19_1 E18_1 E17_1 E16_1) (lt4 E15_1 E14_1 E13_1 E12_1) (lt4 E9_1 E8_1 E7_1 E6_1) (lt4 E5_1 E4_1 E3_1 E2_1) E16_2 E12_2 E6_2 E2_2
    (sub4 E19_0 E18_0 E17_0 E16_0) (sub4 E15_0 E14_0 E13_0 E12_0) (if_pos D19).symm (if_pos D27).symm (add4 E9_0 E8_0 E7_0 E6_0) (sub4 E5_0 E4_0 E3_0 E2_0)
  rw [← vX, ← vY, ← vM] at key
  rw [if_neg (fun h => h.2 D45)] at key
  have hnum := fast_num h0 h1 h2 E5_1 E4_1 E3_1 E2_1 key
  obtain ⟨s0, s13, s16, _⟩ := F.slot
  obtain ⟨m60, m61, m62, m63, m70, m71, m72, m73, _⟩ := F.cell
  have hb0 : β 0 = (b, o) := g2 0 (by decide)
  have hbl := hz.lt
  have s0' : a'.tmps[0]? = some (.pointer (some ⟨b, o, none⟩)) := by
    rw [s0]; simp only [Sl.SV.val, hb0, Nat.add_zero]
  have hR : At4 w' (β 7).1 (β 7).2 (addModN x y m) := by
    rw [← hnum]
    exact Sl.at4_of m70 m71 m72 m73 E5_1 E4_1 E3_1 E2_1
  exact fast_set 16 0 277 278 (by kernel_rfl) (by decide) (by decide) (by decide) hz fz F.size F.defers F.bel s0' s16 hR (by have := F.own 7 (by decide); omega) hQ
theorem fast_leaf2 (hz : At4 w b o z) (fz : Free4 w b o) (h0 : m.d ≠ 0#64) (h1 : x.d ≤ m.d) (h2 : y.d ≤ m.d) (hQ : ∀ a1 w1, a1.tmps[8]? = some (.pointer (some ⟨b, o, none⟩)) → a1.defers = [] → Left w b o (addModN x y m) w1 → Q .ret a1 w1)
    {ν : Nat → Nat} {β : Nat → Nat × Nat} {a' : Act} {w' : World} (g1 : Sl.Agree 12 (fastν x y m) ν) (g2 : Sl.Agree 4 (fastβ b o c p d q f r) β) (F : Sl.Facts w.heap.size w [0, 13, 16] fastCells [] fastV2 ν β a' w') :
    (Sl.Leaf.stop fastB).post Try.prog Q a' w' := by
  obtain ⟨I0, I1, I2, I3, I4, I5, I6, I7, I8, I9, I10, I11, I12, I13, I14, I15, I16, I17, I18, _⟩ := F.ins
  have E0_0 : ν 46 = (Sl.cmpN 0 (ν 37) 0).toNat := I0
  clear I0
  have E1_0 : ν 44 + ν 11 + ν 43 = ν 36 + 18446744073709551616 * ν 45 := I1.1
  have E1_1 : ν 44 < 18446744073709551616 := I1.2.1
  have E1_2 : ν 45 ≤ 1 := I1.2.2
  clear I1
  have E2_0 : ν 42 + ν 10 + ν 41 = ν 34 + 18446744073709551616 * ν 43 := I2.1
  have E2_1 : ν 42 < 18446744073709551616 := I2.2.1
  have E2_2 : ν 43 ≤ 1 := I2.2.2
  clear I2
  have E3_0 : ν 40 + ν 9 + ν 39 = ν 32 + 18446744073709551616 * ν 41 := I3.1
  have E3_1 : ν 40 < 18446744073709551616 := I3.2.1
  have E3_2 : ν 41 ≤ 1 := I3.2.2
  clear I3
  have E4_0 : ν 38 + ν 8 + 0 = ν 30 + 18446744073709551616 * ν 39 := I4.1
  have E4_1 : ν 38 < 18446744073709551616 := I4.2.1
  have E4_2 : ν 39 ≤ 1 := I4.2.2
  clear I4
  have E5_0 : ν 36 + 18446744073709551616 * ν 37 = ν 18 + ν 26 + ν 35 := I5.1
  have E5_1 : ν 36 < 18446744073709551616 := I5.2.1
  have E5_2 : ν 37 ≤ 1 := I5.2.2
  clear I5
  have E6_0 : ν 34 + 18446744073709551616 * ν 35 = ν 16 + ν 24 + ν 33 := I6.1
  have E6_1 : ν 34 < 18446744073709551616 := I6.2.1
  have E6_2 : ν 35 ≤ 1 := I6.2.2
  clear I6
  have E7_0 : ν 32 + 18446744073709551616 * ν 33 = ν 14 + ν 22 + ν 31 := I7.1
  have E7_1 : ν 32 < 18446744073709551616 := I7.2.1
  have E7_2 : ν 33 ≤ 1 := I7.2.2
  clear I7
  have E8_0 : ν 30 + 18446744073709551616 * ν 31 = ν 12 + ν 20 + 0 := I8.1
  have E8_1 : ν 30 < 18446744073709551616 := I8.2.1
  have E8_2 : ν 31 ≤ 1 := I8.2.2
  clear I8
  have E9_0 : ν 29 = (Sl.cmpN 0 (ν 27) 0).toNat := I9
  clear I9
  have E10_0 : ν 28 = (Sl.cmpN 0 (ν 19) 0).toNat := I10
  clear I10
  have E11_0 : ν 26 + ν 11 + ν 25 = ν 7 + 18446744073709551616 * ν 27 := I11.1
  have E11_1 : ν 26 < 18446744073709551616 := I11.2.1
  have E11_2 : ν 27 ≤ 1 := I11.2.2
  clear I11
  have E12_0 : ν 24 + ν 10 + ν 23 = ν 6 + 18446744073709551616 * ν 25 := I12.1
  have E12_1 : ν 24 < 18446744073709551616 := I12.2.1
  have E12_2 : ν 25 ≤ 1 := I12.2.2
  clear I12
  have E13_0 : ν 22 + ν 9 + ν 21 = ν 5 + 18446744073709551616 * ν 23 := I13.1
  have E13_1 : ν 22 < 18446744073709551616 := I13.2.1
  have E13_2 : ν 23 ≤ 1 := I13.2.2
  clear I13
  have E14_0 : ν 20 + ν 8 + 0 = ν 4 + 18446744073709551616 * ν 21 := I14.1
  have E14_1 : ν 20 < 18446744073709551616 := I14.2.1
  have E14_2 : ν 21 ≤ 1 := I14.2.2
  clear I14
  have E15_0 : ν 18 + ν 11 + ν 17 = ν 3 + 18446744073709551616 * ν 19 := I15.1
  have E15_1 : ν 18 < 18446744073709551616 := I15.2.1
  have E15_2 : ν 19 ≤ 1 := I15.2.2
  clear I15
  have E16_0 : ν 16 + ν 10 + ν 15 = ν 2 + 18446744073709551616 * ν 17 := I16.1
  have E16_1 : ν 16 < 18446744073709551616 := I16.2.1
  have E16_2 : ν 17 ≤ 1 := I16.2.2
  clear I16
  have E17_0 : ν 14 + ν 9 + ν 13 = ν 1 + 18446744073709551616 * ν 15 := I17.1
  have E17_1 : ν 14 < 18446744073709551616 := I17.2.1
  have E17_2 : ν 15 ≤ 1 := I17.2.2
  clear I17
  have E18_0 : ν 12 + ν 8 + 0 = ν 0 + 18446744073709551616 * ν 13 := I18.1
  have E18_1 : ν 12 < 18446744073709551616 := I18.2.1
  have E18_2 : ν 13 ≤ 1 := I18.2.2
  clear I18
  obtain ⟨K0, K1, K2, _⟩ := F.kn
  have D37 := Sl.eq_no E0_0 K0
  have D27 := Sl.eq_yes E9_0 K1
  have D19 := Sl.eq_yes E10_0 K2
  have x0 : ν 0 = x.a.toNat := g1 0 (by decide)
  have x1 : ν 1 = x.b.toNat := g1 1 (by decide)
  have x2 : ν 2 = x.c.toNat := g1 2 (by decide)
  have x3 : ν 3 = x.d.toNat := g1 3 (by decide)
  have x4 : ν 4 = y.a.toNat := g1 4 (by decide)
  have x5 : ν 5 = y.b.toNat := g1 5 (by decide)
  have x6 : ν 6 = y.c.toNat := g1 6 (by decide)
  have x7 : ν 7 = y.d.toNat := g1 7 (by decide)
  have x8 : ν 8 = m.a.toNat := g1 8 (by decide)
  have x9 : ν 9 = m.b.toNat := g1 9 (by decide)
  have x10 : ν 10 = m.c.toNat := g1 10 (by decide)
  have x11 : ν 11 = m.d.toNat := g1 11 (by decide)
  have hX := below_two x m h0 h1
  have hY := below_two y m h0 h2
  have lM := toNat_lt m
  have lX := toNat_lt x
  have lY := toNat_lt y
  have vX : x.toNat = ν 0 + 2 ^ 64 * ν 1 + 2 ^ 128 * ν 2 + 2 ^ 192 * ν 3 := by rw [x0, x1, x2, x3]; rfl
  have vY : y.toNat = ν 4 + 2 ^ 64 * ν 5 + 2 ^ 128 * ν 6 + 2 ^ 192 * ν 7 := by rw [x4, x5, x6, x7]; rfl
  have vM : m.toNat = ν 8 + 2 ^ 64 * ν 9 + 2 ^ 128 * ν 10 + 2 ^ 192 * ν 11 := by rw [x8, x9, x10, x11]; rfl
  have key := fast_nat (X := ν 0 + 2 ^ 64 * ν 1 + 2 ^ 128 * ν 2 + 2 ^ 192 * ν 3) (Y := ν 4 + 2 ^ 64 * ν 5 + 2 ^ 128 * ν 6 + 2 ^ 192 * ν 7) (M := ν 8 + 2 ^ 64 * ν 9 + 2 ^ 128 * ν 10 + 2 ^ 192 * ν 11) (Pd := ν 12 + 2 ^ 64 * ν 14 + 2 ^ 128 * ν 16 + 2 ^ 192 * ν 18) (Qd := ν 20 + 2 ^ 64 * ν 22 + 2 ^ 128 * ν 24 + 2 ^ 192 * ν 26) (S := ν 30 + 2 ^ 64 * ν 32 + 2 ^ 128 * ν 34 + 2 ^ 192 * ν 36) (T := ν 38 + 2 ^ 64 * ν 40 + 2 ^ 128 * ν 42 + 2 ^ 192 * ν 44) (A := ν 12 + 2 ^ 64 * ν 14 + 2 ^ 128 * ν 16 + 2 ^ 192 * ν 18) (C := ν 20 + 2 ^ 64 * ν 22 + 2 ^ 128 * ν 24 + 2 ^ 192 * ν 26) (pc := ν 19) (qc := ν 27) (sc := ν 37) (tc := ν 45)
    (by rw [← vX, ← vM]; exact hX) (by rw [← vY, ← vM]; exact hY) (by rw [← vM]; exact lM) (by rw [← vX]; exact lX) (by rw [← vY]; exact lY) (lt4 E18_1 E17_1 E16_1 E15_1) (lt4 E14_1 E13_1 E12_1 E11_1) (lt4 E8_1 E7_1 E6_1 E5_1) (lt4 E4_1 E3_1 E2_1 E1_1) E15_2 E11_2 E5_2 E1_2
    (sub4 E18_0 E17_0 E16_0 E15_0) (sub4 E14_0 E13_0 E12_0 E11_0) (if_pos D19).symm (if_pos D27).symm (add4 E8_0 E7_0 E6_0 E5_0) (sub4 E4_0 E3_0 E2_0 E1_0)
  rw [← vX, ← vY, ← vM] at key
  rw [if_neg (fun h => D37 h.1)] at key
  have hnum := fast_num h0 h1 h2 E4_1 E3_1 E2_1 E1_1 key
  obtain ⟨s0, s13, s16, _⟩ := F.slot
  obtain ⟨m60, m61, m62, m63, m70, m71, m72, m73, _⟩ := F.cell
  have hb0 : β 0 = (b, o) := g2 0 (by decide)
  have hbl := hz.lt
  have s0' : a'.tmps[0]? = some (.pointer (some ⟨b, o, none⟩)) := by
    rw [s0]; simp only [Sl.SV.val, hb0, Nat.add_zero]
  have hR : At4 w' (β 7).1 (β 7).2 (addModN x y m) := by
    rw [← hnum]
    exact Sl.at4_of m70 m71 m72 m73 E4_1 E3_1 E2_1 E1_1
  exact fast_set 16 0 277 278 (by kernel_rfl) (by decide) (by decide) (by decide) hz fz F.size F.defers F.bel s0' s16 hR (by have := F.own 7 (by decide); omega) hQ
theorem fast_leaf3 (hz : At4 w b o z) (fz : Free4 w b o) (h0 : m.d ≠ 0#64) (h1 : x.d ≤ m.d) (h2 : y.d ≤ m.d) (hQ : ∀ a1 w1, a1.tmps[8]? = some (.pointer (some ⟨b, o, none⟩)) → a1.defers = [] → Left w b o (addModN x y m) w1 → Q .ret a1 w1)
    {ν : Nat → Nat} {β : Nat → Nat × Nat} {a' : Act} {w' : World} (g1 : Sl.Agree 12 (fastν x y m) ν) (g2 : Sl.Agree 4 (fastβ b o c p d q f r) β) (F : Sl.Facts w.heap.size w [0, 13, 16] fastCells [] fastV3 ν β a' w') :
    (Sl.Leaf.stop fastA).post Try.prog Q a' w' := by
  obtain ⟨I0, I1, I2, I3, I4, I5, I6, I7, I8, I9, I10, I11, I12, I13, I14, I15, I16, I17, I18, I19, _⟩ := F.ins
  have E0_0 : ν 47 = (Sl.cmpN 1 (ν 45) 0).toNat := I0
  clear I0
  have E1_0 : ν 46 = (Sl.cmpN 0 (ν 37) 0).toNat := I1
  clear I1
  have E2_0 : ν 44 + ν 11 + ν 43 = ν 36 + 18446744073709551616 * ν 45 := I2.1
  have E2_1 : ν 44 < 18446744073709551616 := I2.2.1
  have E2_2 : ν 45 ≤ 1 := I2.2.2
  clear I2
  have E3_0 : ν 42 + ν 10 + ν 41 = ν 34 + 18446744073709551616 * ν 43 := I3.1
  have E3_1 : ν 42 < 18446744073709551616 := I3.2.1
  have E3_2 : ν 43 ≤ 1 := I3.2.2
  clear I3
  have E4_0 : ν 40 + ν 9 + ν 39 = ν 32 + 18446744073709551616 * ν 41 := I4.1
  have E4_1 : ν 40 < 18446744073709551616 := I4.2.1
  have E4_2 : ν 41 ≤ 1 := I4.2.2
  clear I4
  have E5_0 : ν 38 + ν 8 + 0 = ν 30 + 18446744073709551616 * ν 39 := I5.1
  have E5_1 : ν 38 < 18446744073709551616 := I5.2.1
  have E5_2 : ν 39 ≤ 1 := I5.2.2
  clear I5
  have E6_0 : ν 36 + 18446744073709551616 * ν 37 = ν 18 + ν 7 + ν 35 := I6.1
  have E6_1 : ν 36 < 18446744073709551616 := I6.2.1
  have E6_2 : ν 37 ≤ 1 := I6.2.2
  clear I6
  have E7_0 : ν 34 + 18446744073709551616 * ν 35 = ν 16 + ν 6 + ν 33 := I7.1
  have E7_1 : ν 34 < 18446744073709551616 := I7.2.1
  have E7_2 : ν 35 ≤ 1 := I7.2.2
  clear I7
  have E8_0 : ν 32 + 18446744073709551616 * ν 33 = ν 14 + ν 5 + ν 31 := I8.1
  have E8_1 : ν 32 < 18446744073709551616 := I8.2.1
  have E8_2 : ν 33 ≤ 1 := I8.2.2
  clear I8
  have E9_0 : ν 30 + 18446744073709551616 * ν 31 = ν 12 + ν 4 + 0 := I9.1
  have E9_1 : ν 30 < 18446744073709551616 := I9.2.1
  have E9_2 : ν 31 ≤ 1 := I9.2.2
  clear I9
  have E10_0 : ν 29 = (Sl.cmpN 0 (ν 27) 0).toNat := I10
  clear I10
  have E11_0 : ν 28 = (Sl.cmpN 0 (ν 19) 0).toNat := I11
  clear I11
  have E12_0 : ν 26 + ν 11 + ν 25 = ν 7 + 18446744073709551616 * ν 27 := I12.1
  have E12_1 : ν 26 < 18446744073709551616 := I12.2.1
  have E12_2 : ν 27 ≤ 1 := I12.2.2
  clear I12
  have E13_0 : ν 24 + ν 10 + ν 23 = ν 6 + 18446744073709551616 * ν 25 := I13.1
  have E13_1 : ν 24 < 18446744073709551616 := I13.2.1
  have E13_2 : ν 25 ≤ 1 := I13.2.2
  clear I13
  have E14_0 : ν 22 + ν 9 + ν 21 = ν 5 + 18446744073709551616 * ν 23 := I14.1
  have E14_1 : ν 22 < 18446744073709551616 := I14.2.1
  have E14_2 : ν 23 ≤ 1 := I14.2.2
  clear I14
  have E15_0 : ν 20 + ν 8 + 0 = ν 4 + 18446744073709551616 * ν 21 := I15.1
  have E15_1 : ν 20 < 18446744073709551616 := I15.2.1
  have E15_2 : ν 21 ≤ 1 := I15.2.2
  clear I15
  have E16_0 : ν 18 + ν 11 + ν 17 = ν 3 + 18446744073709551616 * ν 19 := I16.1
  have E16_1 : ν 18 < 18446744073709551616 := I16.2.1
  have E16_2 : ν 19 ≤ 1 := I16.2.2
  clear I16
  have E17_0 : ν 16 + ν 10 + ν 15 = ν 2 + 18446744073709551616 * ν 17 := I17.1
  have E17_1 : ν 16 < 18446744073709551616 := I17.2.1
  have E17_2 : ν 17 ≤ 1 := I17.2.2
  clear I17
  have E18_0 : ν 14 + ν 9 + ν 13 = ν 1 + 18446744073709551616 * ν 15 := I18.1
  have E18_1 : ν 14 < 18446744073709551616 := I18.2.1
  have E18_2 : ν 15 ≤ 1 := I18.2.2
  clear I18
  have E19_0 : ν 12 + ν 8 + 0 = ν 0 + 18446744073709551616 * ν 13 := I19.1
  have E19_1 : ν 12 < 18446744073709551616 := I19.2.1
  have E19_2 : ν 13 ≤ 1 := I19.2.2
  clear I19
  obtain ⟨K0, K1, K2, K3, _⟩ := F.kn
  have D45 := Sl.ne_yes E0_0 K0
  have D37 := Sl.eq_yes E1_0 K1
  have D27 := Sl.eq_no E10_0 K2
  have D19 := Sl.eq_yes E11_0 K3
  have x0 : ν 0 = x.a.toNat := g1 0 (by decide)
  have x1 : ν 1 = x.b.toNat := g1 1 (by decide)
  have x2 : ν 2 = x.c.toNat := g1 2 (by decide)
  have x3 : ν 3 = x.d.toNat := g1 3 (by decide)
  have x4 : ν 4 = y.a.toNat := g1 4 (by decide)
  have x5 : ν 5 = y.b.toNat := g1 5 (by decide)
  have x6 : ν 6 = y.c.toNat := g1 6 (by decide)
  have x7 : ν 7 = y.d.toNat := g1 7 (by decide)
  have x8 : ν 8 = m.a.toNat := g1 8 (by decide)
  have x9 : ν 9 = m.b.toNat := g1 9 (by decide)
  have x10 : ν 10 = m.c.toNat := g1 10 (by decide)
  have x11 : ν 11 = m.d.toNat := g1 11 (by decide)
  have hX := below_two x m h0 h1
  have hY := below_two y m h0 h2
  have lM := toNat_lt m
  have lX := toNat_lt x
  have lY := toNat_lt y
  have vX : x.toNat = ν 0 + 2 ^ 64 * ν 1 + 2 ^ 128 * ν 2 + 2 ^ 192 * ν 3 := by rw [x0, x1, x2, x3]; rfl
  have vY : y.toNat = ν 4 + 2 ^ 64 * ν 5 + 2 ^ 128 * ν 6 + 2 ^ 192 * ν 7 := by rw [x4, x5, x6, x7]; rfl
  have vM : m.toNat = ν 8 + 2 ^ 64 * ν 9 + 2 ^ 128 * ν 10 + 2 ^ 192 * ν 11 := by rw [x8, x9, x10, x11]; rfl
  have key := fast_nat (X := ν 0 + 2 ^ 64 * ν 1 + 2 ^ 128 * ν 2 + 2 ^ 192 * ν 3) (Y := ν 4 + 2 ^ 64 * ν 5 + 2 ^ 128 * ν 6 + 2 ^ 192 * ν 7) (M := ν 8 + 2 ^ 64 * ν 9 + 2 ^ 128 * ν 10 + 2 ^ 192 * ν 11) (Pd := ν 12 + 2 ^ 64 * ν 14 + 2 ^ 128 * ν 16 + 2 ^ 192 * ν 18) (Qd := ν 20 + 2 ^ 64 * ν 22 + 2 ^ 128 * ν 24 + 2 ^ 192 * ν 26) (S := ν 30 + 2 ^ 64 * ν 32 + 2 ^ 128 * ν 34 + 2 ^ 192 * ν 36) (T := ν 38 + 2 ^ 64 * ν 40 + 2 ^ 128 * ν 42 + 2 ^ 192 * ν 44) (A := ν 12 + 2 ^ 64 * ν 14 + 2 ^ 128 * ν 16 + 2 ^ 192 * ν 18) (C := ν 4 + 2 ^ 64 * ν 5 + 2 ^ 128 * ν 6 + 2 ^ 192 * ν 7) (pc := ν 19) (qc := ν 27) (sc := ν 37) (tc := ν 45)
    (by rw [← vX, ← vM]; exact hX) (by rw [← vY, ← vM]; exact hY) (by rw [← vM]; exact lM) (by rw [← vX]; exact lX) (by rw [← vY]; exact lY) (lt4 E19_1 E18_1 E17_1 E16_1) (lt4 E15_1 E14_1 E13_1 E12_1) (lt4 E9_1 E8_1 E7_1 E6_1) (lt4 E5_1 E4_1 E3_1 E2_1) E16_2 E12_2 E6_2 E2_2
    (sub4 E19_0 E18_0 E17_0 E16_0) (sub4 E15_0 E14_0 E13_0 E12_0) (if_pos D19).symm (if_neg D27).symm (add4 E9_0 E8_0 E7_0 E6_0) (sub4 E5_0 E4_0 E3_0 E2_0)
  rw [← vX, ← vY, ← vM] at key
  rw [if_pos ⟨D37, D45⟩] at key
  have hnum := fast_num h0 h1 h2 E9_1 E8_1 E7_1 E6_1 key
  obtain ⟨s0, s13, s16, _⟩ := F.slot
  obtain ⟨m60, m61, m62, m63, m70, m71, m72, m73, _⟩ := F.cell
  have hb0 : β 0 = (b, o) := g2 0 (by decide)
  have hbl := hz.lt
  have s0' : a'.tmps[0]? = some (.pointer (some ⟨b, o, none⟩)) := by
    rw [s0]; simp only [Sl.SV.val, hb0, Nat.add_zero]
  have hR : At4 w' (β 6).1 (β 6).2 (addModN x y m) := by
    rw [← hnum]
    exact Sl.at4_of m60 m61 m62 m63 E9_1 E8_1 E7_1 E6_1
  exact fast_set 13 0 275 276 (by kernel_rfl) (by decide) (by decide) (by decide) hz fz F.size F.defers F.bel s0' s13 hR (by have := F.own 6 (by decide); omega) hQ
theorem fast_leaf4 (hz : At4 w b o z) (fz : Free4 w b o) (h0 : m.d ≠ 0#64) (h1 : x.d ≤ m.d) (h2 : y.d ≤ m.d) (hQ : ∀ a1 w1, a1.tmps[8]? = some (.pointer (some ⟨b, o, none⟩)) → a1.defers = [] → Left w b o (addModN x y m) w1 → Q .ret a1 w1)
    {ν : Nat → Nat} {β : Nat → Nat × Nat} {a' : Act} {w' : World} (g1 : Sl.Agree 12 (fastν x y m) ν) (g2 : Sl.Agree 4 (fastβ b o c p d q f r) β) (F : Sl.Facts w.heap.size w [0, 13, 16] fastCells [] fastV4 ν β a' w') :
    (Sl.Leaf.stop fastB).post Try.prog Q a' w' := by
  obtain ⟨I0, I1, I2, I3, I4, I5, I6, I7, I8, I9, I10, I11, I12, I13, I14, I15, I16, I17, I18, I19, _⟩ := F.ins
  have E0_0 : ν 47 = (Sl.cmpN 1 (ν 45) 0).toNat := I0
  clear I0
  have E1_0 : ν 46 = (Sl.cmpN 0 (ν 37) 0).toNat := I1
  clear I1
  have E2_0 : ν 44 + ν 11 + ν 43 = ν 36 + 18446744073709551616 * ν 45 := I2.1
  have E2_1 : ν 44 < 18446744073709551616 := I2.2.1
  have E2_2 : ν 45 ≤ 1 := I2.2.2
  clear I2
  have E3_0 : ν 42 + ν 10 + ν 41 = ν 34 + 18446744073709551616 * ν 43 := I3.1
  have E3_1 : ν 42 < 18446744073709551616 := I3.2.1
  have E3_2 : ν 43 ≤ 1 := I3.2.2
  clear I3
  have E4_0 : ν 40 + ν 9 + ν 39 = ν 32 + 18446744073709551616 * ν 41 := I4.1
  have E4_1 : ν 40 < 18446744073709551616 := I4.2.1
  have E4_2 : ν 41 ≤ 1 := I4.2.2
  clear I4
  have E5_0 : ν 38 + ν 8 + 0 = ν 30 + 18446744073709551616 * ν 39 := I5.1
  have E5_1 : ν 38 < 18446744073709551616 := I5.2.1
  have E5_2 : ν 39 ≤ 1 := I5.2.2
  clear I5
  have E6_0 : ν 36 + 18446744073709551616 * ν 37 = ν 18 + ν 7 + ν 35 := I6.1
  have E6_1 : ν 36 < 18446744073709551616 := I6.2.1
  have E6_2 : ν 37 ≤ 1 := I6.2.2
  clear I6
  have E7_0 : ν 34 + 18446744073709551616 * ν 35 = ν 16 + ν 6 + ν 33 := I7.1
  have E7_1 : ν 34 < 18446744073709551616 := I7.2.1
  have E7_2 : ν 35 ≤ 1 := I7.2.2
  clear I7
  have E8_0 : ν 32 + 18446744073709551616 * ν 33 = ν 14 + ν 5 + ν 31 := I8.1
  have E8_1 : ν 32 < 18446744073709551616 := I8.2.1
  have E8_2 : ν 33 ≤ 1 := I8.2.2
  clear I8
  have E9_0 : ν 30 + 18446744073709551616 * ν 31 = ν 12 + ν 4 + 0 := I9.1
  have E9_1 : ν 30 < 18446744073709551616 := I9.2.1
  have E9_2 : ν 31 ≤ 1 := I9.2.2
  clear I9
  have E10_0 : ν 29 = (Sl.cmpN 0 (ν 27) 0).toNat := I10
  clear I10
  have E11_0 : ν 28 = (Sl.cmpN 0 (ν 19) 0).toNat := I11
  clear I11
  have E12_0 : ν 26 + ν 11 + ν 25 = ν 7 + 18446744073709551616 * ν 27 := I12.1
  have E12_1 : ν 26 < 18446744073709551616 := I12.2.1
  have E12_2 : ν 27 ≤ 1 := I12.2.2
  clear I12
  have E13_0 : ν 24 + ν 10 + ν 23 = ν 6 + 18446744073709551616 * ν 25 := I13.1
  have E13_1 : ν 24 < 18446744073709551616 := I13.2.1
  have E13_2 : ν 25 ≤ 1 := I13.2.2
  clear I13
  have E14_0 : ν 22 + ν 9 + ν 21 = ν 5 + 18446744073709551616 * ν 23 := I14.1
  have E14_1 : ν 22 < 18446744073709551616 := I14.2.1
  have E14_2 : ν 23 ≤ 1 := I14.2.2
  clear I14
  have E15_0 : ν 20 + ν 8 + 0 = ν 4 + 18446744073709551616 * ν 21 := I15.1
  have E15_1 : ν 20 < 18446744073709551616 := I15.2.1
  have E15_2 : ν 21 ≤ 1 := I15.2.2
  clear I15
  have E16_0 : ν 18 + ν 11 + ν 17 = ν 3 + 18446744073709551616 * ν 19 := I16.1
  have E16_1 : ν 18 < 18446744073709551616 := I16.2.1
  have E16_2 : ν 19 ≤ 1 := I16.2.2
  clear I16
  have E17_0 : ν 16 + ν 10 + ν 15 = ν 2 + 18446744073709551616 * ν 17 := I17.1
  have E17_1 : ν 16 < 18446744073709551616 := I17.2.1
  have E17_2 : ν 17 ≤ 1 := I17.2.2
  clear I17
  have E18_0 : ν 14 + ν 9 + ν 13 = ν 1 + 18446744073709551616 * ν 15 := I18.1
  have E18_1 : ν 14 < 18446744073709551616 := I18.2.1
  have E18_2 : ν 15 ≤ 1 := I18.2.2
  clear I18
  have E19_0 : ν 12 + ν 8 + 0 = ν 0 + 18446744073709551616 * ν 13 := I19.1
  have E19_1 : ν 12 < 18446744073709551616 := I19.2.1
  have E19_2 : ν 13 ≤ 1 := I19.2.2
  clear I19
  obtain ⟨K0, K1, K2, K3, _⟩ := F.kn
  have D45 := Sl.ne_no E0_0 K0
  have D37 := Sl.eq_yes E1_0 K1
  have D27 := Sl.eq_no E10_0 K2
  have D19 := Sl.eq_yes E11_0 K3
  have x0 : ν 0 = x.a.toNat := g1 0 (by decide)
  have x1 : ν 1 = x.b.toNat := g1 1 (by decide)
  have x2 : ν 2 = x.c.toNat := g1 2 (by decide)
  have x3 : ν 3 = x.d.toNat := g1 3 (by decide)
  have x4 : ν 4 = y.a.toNat := g1 4 (by decide)
  have x5 : ν 5 = y.b.toNat := g1 5 (by decide)
  have x6 : ν 6 = y.c.toNat := g1 6 (by decide)
  have x7 : ν 7 = y.d.toNat := g1 7 (by decide)
  have x8 : ν 8 = m.a.toNat := g1 8 (by decide)
  have x9 : ν 9 = m.b.toNat := g1 9 (by decide)
  have x10 : ν 10 = m.c.toNat := g1 10 (by decide)
  have x11 : ν 11 = m.d.toNat := g1 11 (by decide)
  have hX := below_two x m h0 h1
  have hY := below_two y m h0 h2
  have lM := toNat_lt m
  have lX := toNat_lt x
  have lY := toNat_lt y
  have vX : x.toNat = ν 0 + 2 ^ 64 * ν 1 + 2 ^ 128 * ν 2 + 2 ^ 192 * ν 3 := by rw [x0, x1, x2, x3]; rfl
  have vY : y.toNat = ν 4 + 2 ^ 64 * ν 5 + 2 ^ 128 * ν 6 + 2 ^ 192 * ν 7 := by rw [x4, x5, x6, x7]; rfl
  have vM : m.toNat = ν 8 + 2 ^ 64 * ν 9 + 2 ^ 128 * ν 10 + 2 ^ 192 * ν 11 := by rw [x8, x9, x10, x11]; rfl
  have key := fast_nat (X := ν 0 + 2 ^ 64 * ν 1 + 2 ^ 128 * ν 2 + 2 ^ 192 * ν 3) (Y := ν 4 + 2 ^ 64 * ν 5 + 2 ^ 128 * ν 6 + 2 ^ 192 * ν 7) (M := ν 8 + 2 ^ 64 * ν 9 + 2 ^ 128 * ν 10 + 2 ^ 192 * ν 11) (Pd := ν 12 + 2 ^ 64 * ν 14 + 2 ^ 128 * ν 16 + 2 ^ 192 * ν 18) (Qd := ν 20 + 2 ^ 64 * ν 22 + 2 ^ 128 * ν 24 + 2 ^ 192 * ν 26) (S := ν 30 + 2 ^ 64 * ν 32 + 2 ^ 128 * ν 34 + 2 ^ 192 * ν 36) (T := ν 38 + 2 ^ 64 * ν 40 + 2 ^ 128 * ν 42 + 2 ^ 192 * ν 44) (A := ν 12 + 2 ^ 64 * ν 14 + 2 ^ 128 * ν 16 + 2 ^ 192 * ν 18) (C := ν 4 + 2 ^ 64 * ν 5 + 2 ^ 128 * ν 6 + 2 ^ 192 * ν 7) (pc := ν 19) (qc := ν 27) (sc := ν 37) (tc := ν 45)
    (by rw [← vX, ← vM]; exact hX) (by rw [← vY, ← vM]; exact hY) (by rw [← vM]; exact lM) (by rw [← vX]; exact lX) (by rw [← vY]; exact lY) (lt4 E19_1 E18_1 E17_1 E16_1) (lt4 E15_1 E14_1 E13_1 E12_1) (lt4 E9_1 E8_1 E7_1 E6_1) (lt4 E5_1 E4_1 E3_1 E2_1) E16_2 E12_2 E6_2 E2_2
    (sub4 E19_0 E18_0 E17_0 E16_0) (sub4 E15_0 E14_0 E13_0 E12_0) (if_pos D19).symm (if_neg D27).symm (add4 E9_0 E8_0 E7_0 E6_0) (sub4 E5_0 E4_0 E3_0 E2_0)
  rw [← vX, ← vY, ← vM] at key
  rw [if_neg (fun h => h.2 D45)] at key
  have hnum := fast_num h0 h1 h2 E5_1 E4_1 E3_1 E2_1 key
  obtain ⟨s0, s13, s16, _⟩ := F.slot
  obtain ⟨m60, m61, m62, m63, m70, m71, m72, m73, _⟩ := F.cell
  have hb0 : β 0 = (b, o) := g2 0 (by decide)
  have hbl := hz.lt
  have s0' : a'.tmps[0]? = some (.pointer (some ⟨b, o, none⟩)) := by
    rw [s0]; simp only [Sl.SV.val, hb0, Nat.add_zero]
  have hR : At4 w' (β 7).1 (β 7).2 (addModN x y m) := by
    rw [← hnum]
    exact Sl.at4_of m70 m71 m72 m73 E5_1 E4_1 E3_1 E2_1
  exact fast_set 16 0 277 278 (by kernel_rfl) (by decide) (by decide) (by decide) hz fz F.size F.defers F.bel s0' s16 hR (by have := F.own 7 (by decide); omega) hQ
theorem fast_leaf5 (hz : At4 w b o z) (fz : Free4 w b o) (h0 : m.d ≠ 0#64) (h1 : x.d ≤ m.d) (h2 : y.d ≤ m.d) (hQ : ∀ a1 w1, a1.tmps[8]? = some (.pointer (some ⟨b, o, none⟩)) → a1.defers = [] → Left w b o (addModN x y m) w1 → Q .ret a1 w1)
    {ν : Nat → Nat} {β : Nat → Nat × Nat} {a' : Act} {w' : World} (g1 : Sl.Agree 12 (fastν x y m) ν) (g2 : Sl.Agree 4 (fastβ b o c p d q f r) β) (F : Sl.Facts w.heap.size w [0, 13, 16] fastCells [] fastV5 ν β a' w') :
    (Sl.Leaf.stop fastB).post Try.prog Q a' w' := by
  obtain ⟨I0, I1, I2, I3, I4, I5, I6, I7, I8, I9, I10, I11, I12, I13, I14, I15, I16, I17, I18, _⟩ := F.ins
  have E0_0 : ν 46 = (Sl.cmpN 0 (ν 37) 0).toNat := I0
  clear I0
  have E1_0 : ν 44 + ν 11 + ν 43 = ν 36 + 18446744073709551616 * ν 45 := I1.1
  have E1_1 : ν 44 < 18446744073709551616 := I1.2.1
  have E1_2 : ν 45 ≤ 1 := I1.2.2
  clear I1
  have E2_0 : ν 42 + ν 10 + ν 41 = ν 34 + 18446744073709551616 * ν 43 := I2.1
  have E2_1 : ν 42 < 18446744073709551616 := I2.2.1
  have E2_2 : ν 43 ≤ 1 := I2.2.2
  clear I2
  have E3_0 : ν 40 + ν 9 + ν 39 = ν 32 + 18446744073709551616 * ν 41 := I3.1
  have E3_1 : ν 40 < 18446744073709551616 := I3.2.1
  have E3_2 : ν 41 ≤ 1 := I3.2.2
  clear I3
  have E4_0 : ν 38 + ν 8 + 0 = ν 30 + 18446744073709551616 * ν 39 := I4.1
  have E4_1 : ν 38 < 18446744073709551616 := I4.2.1
  have E4_2 : ν 39 ≤ 1 := I4.2.2
  clear I4
  have E5_0 : ν 36 + 18446744073709551616 * ν 37 = ν 18 + ν 7 + ν 35 := I5.1
  have E5_1 : ν 36 < 18446744073709551616 := I5.2.1
  have E5_2 : ν 37 ≤ 1 := I5.2.2
  clear I5
  have E6_0 : ν 34 + 18446744073709551616 * ν 35 = ν 16 + ν 6 + ν 33 := I6.1
  have E6_1 : ν 34 < 18446744073709551616 := I6.2.1
  have E6_2 : ν 35 ≤ 1 := I6.2.2
  clear I6
  have E7_0 : ν 32 + 18446744073709551616 * ν 33 = ν 14 + ν 5 + ν 31 := I7.1
  have E7_1 : ν 32 < 18446744073709551616 := I7.2.1
  have E7_2 : ν 33 ≤ 1 := I7.2.2
  clear I7
  have E8_0 : ν 30 + 18446744073709551616 * ν 31 = ν 12 + ν 4 + 0 := I8.1
  have E8_1 : ν 30 < 18446744073709551616 := I8.2.1
  have E8_2 : ν 31 ≤ 1 := I8.2.2
  clear I8
  have E9_0 : ν 29 = (Sl.cmpN 0 (ν 27) 0).toNat := I9
  clear I9
  have E10_0 : ν 28 = (Sl.cmpN 0 (ν 19) 0).toNat := I10
  clear I10
  have E11_0 : ν 26 + ν 11 + ν 25 = ν 7 + 18446744073709551616 * ν 27 := I11.1
  have E11_1 : ν 26 < 18446744073709551616 := I11.2.1
  have E11_2 : ν 27 ≤ 1 := I11.2.2
  clear I11
  have E12_0 : ν 24 + ν 10 + ν 23 = ν 6 + 18446744073709551616 * ν 25 := I12.1
  have E12_1 : ν 24 < 18446744073709551616 := I12.2.1
  have E12_2 : ν 25 ≤ 1 := I12.2.2
  clear I12
  have E13_0 : ν 22 + ν 9 + ν 21 = ν 5 + 18446744073709551616 * ν 23 := I13.1
  have E13_1 : ν 22 < 18446744073709551616 := I13.2.1
  have E13_2 : ν 23 ≤ 1 := I13.2.2
  clear I13
  have E14_0 : ν 20 + ν 8 + 0 = ν 4 + 18446744073709551616 * ν 21 := I14.1
  have E14_1 : ν 20 < 18446744073709551616 := I14.2.1
  have E14_2 : ν 21 ≤ 1 := I14.2.2
  clear I14
  have E15_0 : ν 18 + ν 11 + ν 17 = ν 3 + 18446744073709551616 * ν 19 := I15.1
  have E15_1 : ν 18 < 18446744073709551616 := I15.2.1
  have E15_2 : ν 19 ≤ 1 := I15.2.2
  clear I15
  have E16_0 : ν 16 + ν 10 + ν 15 = ν 2 + 18446744073709551616 * ν 17 := I16.1
  have E16_1 : ν 16 < 18446744073709551616 := I16.2.1
  have E16_2 : ν 17 ≤ 1 := I16.2.2
  clear I16
  have E17_0 : ν 14 + ν 9 + ν 13 = ν 1 + 18446744073709551616 * ν 15 := I17.1
  have E17_1 : ν 14 < 18446744073709551616 := I17.2.1
  have E17_2 : ν 15 ≤ 1 := I17.2.2
  clear I17
  have E18_0 : ν 12 + ν 8 + 0 = ν 0 + 18446744073709551616 * ν 13 := I18.1
  have E18_1 : ν 12 < 18446744073709551616 := I18.2.1
  have E18_2 : ν 13 ≤ 1 := I18.2.2
  clear I18
  obtain ⟨K0, K1, K2, _⟩ := F.kn
  have D37 := Sl.eq_no E0_0 K0
  have D27 := Sl.eq_no E9_0 K1
  have D19 := Sl.eq_yes E10_0 K2
  have x0 : ν 0 = x.a.toNat := g1 0 (by decide)
  have x1 : ν 1 = x.b.toNat := g1 1 (by decide)
  have x2 : ν 2 = x.c.toNat := g1 2 (by decide)
  have x3 : ν 3 = x.d.toNat := g1 3 (by decide)
  have x4 : ν 4 = y.a.toNat := g1 4 (by decide)
  have x5 : ν 5 = y.b.toNat := g1 5 (by decide)
  have x6 : ν 6 = y.c.toNat := g1 6 (by decide)
  have x7 : ν 7 = y.d.toNat := g1 7 (by decide)
  have x8 : ν 8 = m.a.toNat := g1 8 (by decide)
  have x9 : ν 9 = m.b.toNat := g1 9 (by decide)
  have x10 : ν 10 = m.c.toNat := g1 10 (by decide)
  have x11 : ν 11 = m.d.toNat := g1 11 (by decide)
  have hX := below_two x m h0 h1
  have hY := below_two y m h0 h2
  have lM := toNat_lt m
  have lX := toNat_lt x
  have lY := toNat_lt y
  have vX : x.toNat = ν 0 + 2 ^ 64 * ν 1 + 2 ^ 128 * ν 2 + 2 ^ 192 * ν 3 := by rw [x0, x1, x2, x3]; rfl
  have vY : y.toNat = ν 4 + 2 ^ 64 * ν 5 + 2 ^ 128 * ν 6 + 2 ^ 192 * ν 7 := by rw [x4, x5, x6, x7]; rfl
  have vM : m.toNat = ν 8 + 2 ^ 64 * ν 9 + 2 ^ 128 * ν 10 + 2 ^ 192 * ν 11 := by rw [x8, x9, x10, x11]; rfl
  have key := fast_nat (X := ν 0 + 2 ^ 64 * ν 1 + 2 ^ 128 * ν 2 + 2 ^ 192 * ν 3) (Y := ν 4 + 2 ^ 64 * ν 5 + 2 ^ 128 * ν 6 + 2 ^ 192 * ν 7) (M := ν 8 + 2 ^ 64 * ν 9 + 2 ^ 128 * ν 10 + 2 ^ 192 * ν 11) (Pd := ν 12 + 2 ^ 64 * ν 14 + 2 ^ 128 * ν 16 + 2 ^ 192 * ν 18) (Qd := ν 20 + 2 ^ 64 * ν 22 + 2 ^ 128 * ν 24 + 2 ^ 192 * ν 26) (S := ν 30 + 2 ^ 64 * ν 32 + 2 ^ 128 * ν 34 + 2 ^ 192 * ν 36) (T := ν 38 + 2 ^ 64 * ν 40 + 2 ^ 128 * ν 42 + 2 ^ 192 * ν 44) (A := ν 12 + 2 ^ 64 * ν 14 + 2 ^ 128 * ν 16 + 2 ^ 192 * ν 18) (C := ν 4 + 2 ^ 64 * ν 5 + 2 ^ 128 * ν 6 + 2 ^ 192 * ν 7) (pc := ν 19) (qc := ν 27) (sc := ν 37) (tc := ν 45)
    (by rw [← vX, ← vM]; exact hX) (by rw [← vY, ← vM]; exact hY) (by rw [← vM]; exact lM) (by rw [← vX]; exact lX) (by rw [← vY]; exact lY) (lt4 E18_1 E17_1 E16_1 E15_1) (lt4 E14_1 E13_1 E12_1 E11_1) (lt4 E8_1 E7_1 E6_1 E5_1) (lt4 E4_1 E3_1 E2_1 E1_1) E15_2 E11_2 E5_2 E1_2
    (sub4 E18_0 E17_0 E16_0 E15_0) (sub4 E14_0 E13_0 E12_0 E11_0) (if_pos D19).symm (if_neg D27).symm (add4 E8_0 E7_0 E6_0 E5_0) (sub4 E4_0 E3_0 E2_0 E1_0)
  rw [← vX, ← vY, ← vM] at key
  rw [if_neg (fun h => D37 h.1)] at key
  have hnum := fast_num h0 h1 h2 E4_1 E3_1 E2_1 E1_1 key
  obtain ⟨s0, s13, s16, _⟩ := F.slot
  obtain ⟨m60, m61, m62, m63, m70, m71, m72, m73, _⟩ := F.cell
  have hb0 : β 0 = (b, o) := g2 0 (by decide)
  have hbl := hz.lt
  have s0' : a'.tmps[0]? = some (.pointer (some ⟨b, o, none⟩)) := by
    rw [s0]; simp only [Sl.SV.val, hb0, Nat.add_zero]
  have hR : At4 w' (β 7).1 (β 7).2 (addModN x y m) := by
    rw [← hnum]
    exact Sl.at4_of m70 m71 m72 m73 E4_1 E3_1 E2_1 E1_1
  exact fast_set 16 0 277 278 (by kernel_rfl) (by decide) (by decide) (by decide) hz fz F.size F.defers F.bel s0' s16 hR (by have := F.own 7 (by decide); omega) hQ
theorem fast_leaf6 (hz : At4 w b o z) (fz : Free4 w b o) (h0 : m.d ≠ 0#64) (h1 : x.d ≤ m.d) (h2 : y.d ≤ m.d) (hQ : ∀ a1 w1, a1.tmps[8]? = some (.pointer (some ⟨b, o, none⟩)) → a1.defers = [] → Left w b o (addModN x y m) w1 → Q .ret a1 w1)
    {ν : Nat → Nat} {β : Nat → Nat × Nat} {a' : Act} {w' : World} (g1 : Sl.Agree 12 (fastν x y m) ν) (g2 : Sl.Agree 4 (fastβ b o c p d q f r) β) (F : Sl.Facts w.heap.size w [0, 13, 16] fastCells [] fastV6 ν β a' w') :
    (Sl.Leaf.stop fastA).post Try.prog Q a' w' := by
  obtain ⟨I0, I1, I2, I3, I4, I5, I6, I7, I8, I9, I10, I11, I12, I13, I14, I15, I16, I17, I18, I19, _⟩ := F.ins
  have E0_0 : ν 47 = (Sl.cmpN 1 (ν 45) 0).toNat := I0
  clear I0
  have E1_0 : ν 46 = (Sl.cmpN 0 (ν 37) 0).toNat := I1
  clear I1
  have E2_0 : ν 44 + ν 11 + ν 43 = ν 36 + 18446744073709551616 * ν 45 := I2.1
  have E2_1 : ν 44 < 18446744073709551616 := I2.2.1
  have E2_2 : ν 45 ≤ 1 := I2.2.2
  clear I2
  have E3_0 : ν 42 + ν 10 + ν 41 = ν 34 + 18446744073709551616 * ν 43 := I3.1
  have E3_1 : ν 42 < 18446744073709551616 := I3.2.1
  have E3_2 : ν 43 ≤ 1 := I3.2.2
  clear I3
  have E4_0 : ν 40 + ν 9 + ν 39 = ν 32 + 18446744073709551616 * ν 41 := I4.1
  have E4_1 : ν 40 < 18446744073709551616 := I4.2.1
  have E4_2 : ν 41 ≤ 1 := I4.2.2
  clear I4
  have E5_0 : ν 38 + ν 8 + 0 = ν 30 + 18446744073709551616 * ν 39 := I5.1
  have E5_1 : ν 38 < 18446744073709551616 := I5.2.1
  have E5_2 : ν 39 ≤ 1 := I5.2.2
  clear I5
  have E6_0 : ν 36 + 18446744073709551616 * ν 37 = ν 3 + ν 26 + ν 35 := I6.1
  have E6_1 : ν 36 < 18446744073709551616 := I6.2.1
  have E6_2 : ν 37 ≤ 1 := I6.2.2
  clear I6
  have E7_0 : ν 34 + 18446744073709551616 * ν 35 = ν 2 + ν 24 + ν 33 := I7.1
  have E7_1 : ν 34 < 18446744073709551616 := I7.2.1
  have E7_2 : ν 35 ≤ 1 := I7.2.2
  clear I7
  have E8_0 : ν 32 + 18446744073709551616 * ν 33 = ν 1 + ν 22 + ν 31 := I8.1
  have E8_1 : ν 32 < 18446744073709551616 := I8.2.1
  have E8_2 : ν 33 ≤ 1 := I8.2.2
  clear I8
  have E9_0 : ν 30 + 18446744073709551616 * ν 31 = ν 0 + ν 20 + 0 := I9.1
  have E9_1 : ν 30 < 18446744073709551616 := I9.2.1
  have E9_2 : ν 31 ≤ 1 := I9.2.2
  clear I9
  have E10_0 : ν 29 = (Sl.cmpN 0 (ν 27) 0).toNat := I10
  clear I10
  have E11_0 : ν 28 = (Sl.cmpN 0 (ν 19) 0).toNat := I11
  clear I11
  have E12_0 : ν 26 + ν 11 + ν 25 = ν 7 + 18446744073709551616 * ν 27 := I12.1
  have E12_1 : ν 26 < 18446744073709551616 := I12.2.1
  have E12_2 : ν 27 ≤ 1 := I12.2.2
  clear I12
  have E13_0 : ν 24 + ν 10 + ν 23 = ν 6 + 18446744073709551616 * ν 25 := I13.1
  have E13_1 : ν 24 < 18446744073709551616 := I13.2.1
  have E13_2 : ν 25 ≤ 1 := I13.2.2
  clear I13
  have E14_0 : ν 22 + ν 9 + ν 21 = ν 5 + 18446744073709551616 * ν 23 := I14.1
  have E14_1 : ν 22 < 18446744073709551616 := I14.2.1
  have E14_2 : ν 23 ≤ 1 := I14.2.2
  clear I14
  have E15_0 : ν 20 + ν 8 + 0 = ν 4 + 18446744073709551616 * ν 21 := I15.1
  have E15_1 : ν 20 < 18446744073709551616 := I15.2.1
  have E15_2 : ν 21 ≤ 1 := I15.2.2
  clear I15
  have E16_0 : ν 18 + ν 11 + ν 17 = ν 3 + 18446744073709551616 * ν 19 := I16.1
  have E16_1 : ν 18 < 18446744073709551616 := I16.2.1
  have E16_2 : ν 19 ≤ 1 := I16.2.2
  clear I16
  have E17_0 : ν 16 + ν 10 + ν 15 = ν 2 + 18446744073709551616 * ν 17 := I17.1
  have E17_1 : ν 16 < 18446744073709551616 := I17.2.1
  have E17_2 : ν 17 ≤ 1 := I17.2.2
  clear I17
  have E18_0 : ν 14 + ν 9 + ν 13 = ν 1 + 18446744073709551616 * ν 15 := I18.1
  have E18_1 : ν 14 < 18446744073709551616 := I18.2.1
  have E18_2 : ν 15 ≤ 1 := I18.2.2
  clear I18
  have E19_0 : ν 12 + ν 8 + 0 = ν 0 + 18446744073709551616 * ν 13 := I19.1
  have E19_1 : ν 12 < 18446744073709551616 := I19.2.1
  have E19_2 : ν 13 ≤ 1 := I19.2.2
  clear I19
  obtain ⟨K0, K1, K2, K3, _⟩ := F.kn
  have D45 := Sl.ne_yes E0_0 K0
  have D37 := Sl.eq_yes E1_0 K1
  have D27 := Sl.eq_yes E10_0 K2
  have D19 := Sl.eq_no E11_0 K3
  have x0 : ν 0 = x.a.toNat := g1 0 (by decide)
  have x1 : ν 1 = x.b.toNat := g1 1 (by decide)
  have x2 : ν 2 = x.c.toNat := g1 2 (by decide)
  have x3 : ν 3 = x.d.toNat := g1 3 (by decide)
  have x4 : ν 4 = y.a.toNat := g1 4 (by decide)
  have x5 : ν 5 = y.b.toNat := g1 5 (by decide)
  have x6 : ν 6 = y.c.toNat := g1 6 (by decide)
  have x7 : ν 7 = y.d.toNat := g1 7 (by decide)
  have x8 : ν 8 = m.a.toNat := g1 8 (by decide)
  have x9 : ν 9 = m.b.toNat := g1 9 (by decide)
  have x10 : ν 10 = m.c.toNat := g1 10 (by decide)
  have x11 : ν 11 = m.d.toNat := g1 11 (by decide)
  have hX := below_two x m h0 h1
  have hY := below_two y m h0 h2
  have lM := toNat_lt m
  have lX := toNat_lt x
  have lY := toNat_lt y
  have vX : x.toNat = ν 0 + 2 ^ 64 * ν 1 + 2 ^ 128 * ν 2 + 2 ^ 192 * ν 3 := by rw [x0, x1, x2, x3]; rfl
  have vY : y.toNat = ν 4 + 2 ^ 64 * ν 5 + 2 ^ 128 * ν 6 + 2 ^ 192 * ν 7 := by rw [x4, x5, x6, x7]; rfl
  have vM : m.toNat = ν 8 + 2 ^ 64 * ν 9 + 2 ^ 128 * ν 10 + 2 ^ 192 * ν 11 := by rw [x8, x9, x10, x11]; rfl
  have key := fast_nat (X := ν 0 + 2 ^ 64 * ν 1 + 2 ^ 128 * ν 2 + 2 ^ 192 * ν 3) (Y := ν 4 + 2 ^ 64 * ν 5 + 2 ^ 128 * ν 6 + 2 ^ 192 * ν 7) (M := ν 8 + 2 ^ 64 * ν 9 + 2 ^ 128 * ν 10 + 2 ^ 192 * ν 11) (Pd := ν 12 + 2 ^ 64 * ν 14 + 2 ^ 128 * ν 16 + 2 ^ 192 * ν 18) (Qd := ν 20 + 2 ^ 64 * ν 22 + 2 ^ 128 * ν 24 + 2 ^ 192 * ν 26) (S := ν 30 + 2 ^ 64 * ν 32 + 2 ^ 128 * ν 34 + 2 ^ 192 * ν 36) (T := ν 38 + 2 ^ 64 * ν 40 + 2 ^ 128 * ν 42 + 2 ^ 192 * ν 44) (A := ν 0 + 2 ^ 64 * ν 1 + 2 ^ 128 * ν 2 + 2 ^ 192 * ν 3) (C := ν 20 + 2 ^ 64 * ν 22 + 2 ^ 128 * ν 24 + 2 ^ 192 * ν 26) (pc := ν 19) (qc := ν 27) (sc := ν 37) (tc := ν 45)
    (by rw [← vX, ← vM]; exact hX) (by rw [← vY, ← vM]; exact hY) (by rw [← vM]; exact lM) (by rw [← vX]; exact lX) (by rw [← vY]; exact lY) (lt4 E19_1 E18_1 E17_1 E16_1) (lt4 E15_1 E14_1 E13_1 E12_1) (lt4 E9_1 E8_1 E7_1 E6_1) (lt4 E5_1 E4_1 E3_1 E2_1) E16_2 E12_2 E6_2 E2_2
    (sub4 E19_0 E18_0 E17_0 E16_0) (sub4 E15_0 E14_0 E13_0 E12_0) (if_neg D19).symm (if_pos D27).symm (add4 E9_0 E8_0 E7_0 E6_0) (sub4 E5_0 E4_0 E3_0 E2_0)
  rw [← vX, ← vY, ← vM] at key
  rw [if_pos ⟨D37, D45⟩] at key
  have hnum := fast_num h0 h1 h2 E9_1 E8_1 E7_1 E6_1 key
  obtain ⟨s0, s13, s16, _⟩ := F.slot
  obtain ⟨m60, m61, m62, m63, m70, m71, m72, m73, _⟩ := F.cell
  have hb0 : β 0 = (b, o) := g2 0 (by decide)
  have hbl := hz.lt
  have s0' : a'.tmps[0]? = some (.pointer (some ⟨b, o, none⟩)) := by
    rw [s0]; simp only [Sl.SV.val, hb0, Nat.add_zero]
  have hR : At4 w' (β 6).1 (β 6).2 (addModN x y m) := by
    rw [← hnum]
    exact Sl.at4_of m60 m61 m62 m63 E9_1 E8_1 E7_1 E6_1
  exact fast_set 13 0 275 276 (by kernel_rfl) (by decide) (by decide) (by decide) hz fz F.size F.defers F.bel s0' s13 hR (by have := F.own 6 (by decide); omega) hQ
theorem fast_leaf7 (hz : At4 w b o z) (fz : Free4 w b o) (h0 : m.d ≠ 0#64) (h1 : x.d ≤ m.d) (h2 : y.d ≤ m.d) (hQ : ∀ a1 w1, a1.tmps[8]? = some (.pointer (some ⟨b, o, none⟩)) → a1.defers = [] → Left w b o (addModN x y m) w1 → Q .ret a1 w1)
    {ν : Nat → Nat} {β : Nat → Nat × Nat} {a' : Act} {w' : World} (g1 : Sl.Agree 12 (fastν x y m) ν) (g2 : Sl.Agree 4 (fastβ b o c p d q f r) β) (F : Sl.Facts w.heap.size w [0, 13, 16] fastCells [] fastV7 ν β a' w') :
    (Sl.Leaf.stop fastB).post Try.prog Q a' w' := by
  obtain ⟨I0, I1, I2, I3, I4, I5, I6, I7, I8, I9, I10, I11, I12, I13, I14, I15, I16, I17, I18, I19, _⟩ := F.ins
  have E0_0 : ν 47 = (Sl.cmpN 1 (ν 45) 0).toNat := I0
  clear I0
  have E1_0 : ν 46 = (Sl.cmpN 0 (ν 37) 0).toNat := I1
  clear I1
  have E2_0 : ν 44 + ν 11 + ν 43 = ν 36 + 18446744073709551616 * ν 45 := I2.1
  have E2_1 : ν 44 < 18446744073709551616 := I2.2.1
  have E2_2 : ν 45 ≤ 1 := I2.2.2
  clear I2
  have E3_0 : ν 42 + ν 10 + ν 41 = ν 34 + 18446744073709551616 * ν 43 := I3.1
  have E3_1 : ν 42 < 18446744073709551616 := I3.2.1
  have E3_2 : ν 43 ≤ 1 := I3.2.2
  clear I3
  have E4_0 : ν 40 + ν 9 + ν 39 = ν 32 + 18446744073709551616 * ν 41 := I4.1
  have E4_1 : ν 40 < 18446744073709551616 := I4.2.1
  have E4_2 : ν 41 ≤ 1 := I4.2.2
  clear I4
  have E5_0 : ν 38 + ν 8 + 0 = ν 30 + 18446744073709551616 * ν 39 := I5.1
  have E5_1 : ν 38 < 18446744073709551616 := I5.2.1
  have E5_2 : ν 39 ≤ 1 := I5.2.2
  clear I5
  have E6_0 : ν 36 + 18446744073709551616 * ν 37 = ν 3 + ν 26 + ν 35 := I6.1
  have E6_1 : ν 36 < 18446744073709551616 := I6.2.1
  have E6_2 : ν 37 ≤ 1 := I6.2.2
  clear I6
  have E7_0 : ν 34 + 18446744073709551616 * ν 35 = ν 2 + ν 24 + ν 33 := I7.1
  have E7_1 : ν 34 < 18446744073709551616 := I7.2.1
  have E7_2 : ν 35 ≤ 1 := I7.2.2
  clear I7
  have E8_0 : ν 32 + 18446744073709551616 * ν 33 = ν 1 + ν 22 + ν 31 := I8.1
  have E8_1 : ν 32 < 18446744073709551616 := I8.2.1
  have E8_2 : ν 33 ≤ 1 := I8.2.2
  clear I8
  have E9_0 : ν 30 + 18446744073709551616 * ν 31 = ν 0 + ν 20 + 0 := I9.1
  have E9_1 : ν 30 < 18446744073709551616 := I9.2.1
  have E9_2 : ν 31 ≤ 1 := I9.2.2
  clear I9
  have E10_0 : ν 29 = (Sl.cmpN 0 (ν 27) 0).toNat := I10
  clear I10
  have E11_0 : ν 28 = (Sl.cmpN 0 (ν 19) 0).toNat := I11
  clear I11
  have E12_0 : ν 26 + ν 11 + ν 25 = ν 7 + 18446744073709551616 * ν 27 := I12.1
  have E12_1 : ν 26 < 18446744073709551616 := I12.2.1
  have E12_2 : ν 27 ≤ 1 := I12.2.2
  clear I12
  have E13_0 : ν 24 + ν 10 + ν 23 = ν 6 + 18446744073709551616 * ν 25 := I13.1
  have E13_1 : ν 24 < 18446744073709551616 := I13.2.1
  have E13_2 : ν 25 ≤ 1 := I13.2.2
  clear I13
  have E14_0 : ν 22 + ν 9 + ν 21 = ν 5 + 18446744073709551616 * ν 23 := I14.1
  have E14_1 : ν 22 < 18446744073709551616 := I14.2.1
  have E14_2 : ν 23 ≤ 1 := I14.2.2
  clear I14
  have E15_0 : ν 20 + ν 8 + 0 = ν 4 + 18446744073709551616 * ν 21 := I15.1
  have E15_1 : ν 20 < 18446744073709551616 := I15.2.1
  have E15_2 : ν 21 ≤ 1 := I15.2.2
  clear I15
  have E16_0 : ν 18 + ν 11 + ν 17 = ν 3 + 18446744073709551616 * ν 19 := I16.1
  have E16_1 : ν 18 < 18446744073709551616 := I16.2.1
  have E16_2 : ν 19 ≤ 1 := I16.2.2
  clear I16
  have E17_0 : ν 16 + ν 10 + ν 15 = ν 2 + 18446744073709551616 * ν 17 := I17.1
  have E17_1 : ν 16 < 18446744073709551616 := I17.2.1
  have E17_2 : ν 17 ≤ 1 := I17.2.2
  clear I17
  have E18_0 : ν 14 + ν 9 + ν 13 = ν 1 + 18446744073709551616 * ν 15 := I18.1
  have E18_1 : ν 14 < 18446744073709551616 := I18.2.1
  have E18_2 : ν 15 ≤ 1 := I18.2.2
  clear I18
  have E19_0 : ν 12 + ν 8 + 0 = ν 0 + 18446744073709551616 * ν 13 := I19.1
  have E19_1 : ν 12 < 18446744073709551616 := I19.2.1
  have E19_2 : ν 13 ≤ 1 := I19.2.2
  clear I19
  obtain ⟨K0, K1, K2, K3, _⟩ := F.kn
  have D45 := Sl.ne_no E0_0 K0
  have D37 := Sl.eq_yes E1_0 K1
  have D27 := Sl.eq_yes E10_0 K2
  have D19 := Sl.eq_no E11_0 K3
  have x0 : ν 0 = x.a.toNat := g1 0 (by decide)
  have x1 : ν 1 = x.b.toNat := g1 1 (by decide)
  have x2 : ν 2 = x.c.toNat := g1 2 (by decide)
  have x3 : ν 3 = x.d.toNat := g1 3 (by decide)
  have x4 : ν 4 = y.a.toNat := g1 4 (by decide)
  have x5 : ν 5 = y.b.toNat := g1 5 (by decide)
  have x6 : ν 6 = y.c.toNat := g1 6 (by decide)
  have x7 : ν 7 = y.d.toNat := g1 7 (by decide)
  have x8 : ν 8 = m.a.toNat := g1 8 (by decide)
  have x9 : ν 9 = m.b.toNat := g1 9 (by decide)
  have x10 : ν 10 = m.c.toNat := g1 10 (by decide)
  have x11 : ν 11 = m.d.toNat := g1 11 (by decide)
  have hX := below_two x m h0 h1
  have hY := below_two y m h0 h2
  have lM := toNat_lt m
  have lX := toNat_lt x
  have lY := toNat_lt y
  have vX : x.toNat = ν 0 + 2 ^ 64 * ν 1 + 2 ^ 128 * ν 2 + 2 ^ 192 * ν 3 := by rw [x0, x1, x2, x3]; rfl
  have vY : y.toNat = ν 4 + 2 ^ 64 * ν 5 + 2 ^ 128 * ν 6 + 2 ^ 192 * ν 7 := by rw [x4, x5, x6, x7]; rfl
  have vM : m.toNat = ν 8 + 2 ^ 64 * ν 9 + 2 ^ 128 * ν 10 + 2 ^ 192 * ν 11 := by rw [x8, x9, x10, x11]; rfl
  have key := fast_nat (X := ν 0 + 2 ^ 64 * ν 1 + 2 ^ 128 * ν 2 + 2 ^ 192 * ν 3) (Y := ν 4 + 2 ^ 64 * ν 5 + 2 ^ 128 * ν 6 + 2 ^ 192 * ν 7) (M := ν 8 + 2 ^ 64 * ν 9 + 2 ^ 128 * ν 10 + 2 ^ 192 * ν 11) (Pd := ν 12 + 2 ^ 64 * ν 14 + 2 ^ 128 * ν 16 + 2 ^ 192 * ν 18) (Qd := ν 20 + 2 ^ 64 * ν 22 + 2 ^ 128 * ν 24 + 2 ^ 192 * ν 26) (S := ν 30 + 2 ^ 64 * ν 32 + 2 ^ 128 * ν 34 + 2 ^ 192 * ν 36) (T := ν 38 + 2 ^ 64 * ν 40 + 2 ^ 128 * ν 42 + 2 ^ 192 * ν 44) (A := ν 0 + 2 ^ 64 * ν 1 + 2 ^ 128 * ν 2 + 2 ^ 192 * ν 3) (C := ν 20 + 2 ^ 64 * ν 22 + 2 ^ 128 * ν 24 + 2 ^ 192 * ν 26) (pc := ν 19) (qc := ν 27) (sc := ν 37) (tc := ν 45)
    (by rw [← vX, ← vM]; exact hX) (by rw [← vY, ← vM]; exact hY) (by rw [← vM]; exact lM) (by rw [← vX]; exact lX) (by rw [← vY]; exact lY) (lt4 E19_1 E18_1 E17_1 E16_1) (lt4 E15_1 E14_1 E13_1 E12_1) (lt4 E9_1 E8_1 E7_1 E6_1) (lt4 E5_1 E4_1 E3_1 E2_1) E16_2 E12_2 E6_2 E2_2
    (sub4 E19_0 E18_0 E17_0 E16_0) (sub4 E15_0 E14_0 E13_0 E12_0) (if_neg D19).symm (if_pos D27).symm (add4 E9_0 E8_0 E7_0 E6_0) (sub4 E5_0 E4_0 E3_0 E2_0)
  rw [← vX, ← vY, ← vM] at key
  rw [if_neg (fun h => h.2 D45)] at key
  have hnum := fast_num h0 h1 h2 E5_1 E4_1 E3_1 E2_1 key
  obtain ⟨s0, s13, s16, _⟩ := F.slot
  obtain ⟨m60, m61, m62, m63, m70, m71, m72, m73, _⟩ := F.cell
  have hb0 : β 0 = (b, o) := g2 0 (by decide)
  have hbl := hz.lt
  have s0' : a'.tmps[0]? = some (.pointer (some ⟨b, o, none⟩)) := by
    rw [s0]; simp only [Sl.SV.val, hb0, Nat.add_zero]
  have hR : At4 w' (β 7).1 (β 7).2 (addModN x y m) := by
    rw [← hnum]
    exact Sl.at4_of m70 m71 m72 m73 E5_1 E4_1 E3_1 E2_1
  exact fast_set 16 0 277 278 (by kernel_rfl) (by decide) (by decide) (by decide) hz fz F.size F.defers F.bel s0' s16 hR (by have := F.own 7 (by decide); omega) hQ
theorem fast_leaf8 (hz : At4 w b o z) (fz : Free4 w b o) (h0 : m.d ≠ 0#64) (h1 : x.d ≤ m.d) (h2 : y.d ≤ m.d) (hQ : ∀ a1 w1, a1.tmps[8]? = some (.pointer (some ⟨b, o, none⟩)) → a1.defers = [] → Left w b o (addModN x y m) w1 → Q .ret a1 w1)
    {ν : Nat → Nat} {β : Nat → Nat × Nat} {a' : Act} {w' : World} (g1 : Sl.Agree 12 (fastν x y m) ν) (g2 : Sl.Agree 4 (fastβ b o c p d q f r) β) (F : Sl.Facts w.heap.size w [0, 13, 16] fastCells [] fastV8 ν β a' w') :
    (Sl.Leaf.stop fastB).post Try.prog Q a' w' := by
  obtain ⟨I0, I1, I2, I3, I4, I5, I6, I7, I8, I9, I10, I11, I12, I13, I14, I15, I16, I17, I18, _⟩ := F.ins
  have E0_0 : ν 46 = (Sl.cmpN 0 (ν 37) 0).toNat := I0
  clear I0
  have E1_0 : ν 44 + ν 11 + ν 43 = ν 36 + 18446744073709551616 * ν 45 := I1.1
  have E1_1 : ν 44 < 18446744073709551616 := I1.2.1
  have E1_2 : ν 45 ≤ 1 := I1.2.2
  clear I1
  have E2_0 : ν 42 + ν 10 + ν 41 = ν 34 + 18446744073709551616 * ν 43 := I2.1
  have E2_1 : ν 42 < 18446744073709551616 := I2.2.1
  have E2_2 : ν 43 ≤ 1 := I2.2.2
  clear I2
  have E3_0 : ν 40 + ν 9 + ν 39 = ν 32 + 18446744073709551616 * ν 41 := I3.1
  have E3_1 : ν 40 < 18446744073709551616 := I3.2.1
  have E3_2 : ν 41 ≤ 1 := I3.2.2
  clear I3
  have E4_0 : ν 38 + ν 8 + 0 = ν 30 + 18446744073709551616 * ν 39 := I4.1
  have E4_1 : ν 38 < 18446744073709551616 := I4.2.1
  have E4_2 : ν 39 ≤ 1 := I4.2.2
  clear I4
  have E5_0 : ν 36 + 18446744073709551616 * ν 37 = ν 3 + ν 26 + ν 35 := I5.1
  have E5_1 : ν 36 < 18446744073709551616 := I5.2.1
  have E5_2 : ν 37 ≤ 1 := I5.2.2
  clear I5
  have E6_0 : ν 34 + 18446744073709551616 * ν 35 = ν 2 + ν 24 + ν 33 := I6.1
  have E6_1 : ν 34 < 18446744073709551616 := I6.2.1
  have E6_2 : ν 35 ≤ 1 := I6.2.2
  clear I6
  have E7_0 : ν 32 + 18446744073709551616 * ν 33 = ν 1 + ν 22 + ν 31 := I7.1
  have E7_1 : ν 32 < 18446744073709551616 := I7.2.1
  have E7_2 : ν 33 ≤ 1 := I7.2.2
  clear I7
  have E8_0 : ν 30 + 18446744073709551616 * ν 31 = ν 0 + ν 20 + 0 := I8.1
  have E8_1 : ν 30 < 18446744073709551616 := I8.2.1
  have E8_2 : ν 31 ≤ 1 := I8.2.2
  clear I8
  have E9_0 : ν 29 = (Sl.cmpN 0 (ν 27) 0).toNat := I9
  clear I9
  have E10_0 : ν 28 = (Sl.cmpN 0 (ν 19) 0).toNat := I10
  clear I10
  have E11_0 : ν 26 + ν 11 + ν 25 = ν 7 + 18446744073709551616 * ν 27 := I11.1
  have E11_1 : ν 26 < 18446744073709551616 := I11.2.1
  have E11_2 : ν 27 ≤ 1 := I11.2.2
  clear I11
  have E12_0 : ν 24 + ν 10 + ν 23 = ν 6 + 18446744073709551616 * ν 25 := I12.1
  have E12_1 : ν 24 < 18446744073709551616 := I12.2.1
  have E12_2 : ν 25 ≤ 1 := I12.2.2
  clear I12
  have E13_0 : ν 22 + ν 9 + ν 21 = ν 5 + 18446744073709551616 * ν 23 := I13.1
  have E13_1 : ν 22 < 18446744073709551616 := I13.2.1
  have E13_2 : ν 23 ≤ 1 := I13.2.2
  clear I13
  have E14_0 : ν 20 + ν 8 + 0 = ν 4 + 18446744073709551616 * ν 21 := I14.1
  have E14_1 : ν 20 < 18446744073709551616 := I14.2.1
  have E14_2 : ν 21 ≤ 1 := I14.2.2
  clear I14
  have E15_0 : ν 18 + ν 11 + ν 17 = ν 3 + 18446744073709551616 * ν 19 := I15.1
  have E15_1 : ν 18 < 18446744073709551616 := I15.2.1
  have E15_2 : ν 19 ≤ 1 := I15.2.2
  clear I15
  have E16_0 : ν 16 + ν 10 + ν 15 = ν 2 + 18446744073709551616 * ν 17 := I16.1
  have E16_1 : ν 16 < 18446744073709551616 := I16.2.1
  have E16_2 : ν 17 ≤ 1 := I16.2.2
  clear I16
  have E17_0 : ν 14 + ν 9 + ν 13 = ν 1 + 18446744073709551616 * ν 15 := I17.1
  have E17_1 : ν 14 < 18446744073709551616 := I17.2.1
  have E17_2 : ν 15 ≤ 1 := I17.2.2
  clear I17
  have E18_0 : ν 12 + ν 8 + 0 = ν 0 + 18446744073709551616 * ν 13 := I18.1
  have E18_1 : ν 12 < 18446744073709551616 := I18.2.1
  have E18_2 : ν 13 ≤ 1 := I18.2.2
  clear I18
  obtain ⟨K0, K1, K2, _⟩ := F.kn
  have D37 := Sl.eq_no E0_0 K0
  have D27 := Sl.eq_yes E9_0 K1
  have D19 := Sl.eq_no E10_0 K2
  have x0 : ν 0 = x.a.toNat := g1 0 (by decide)
  have x1 : ν 1 = x.b.toNat := g1 1 (by decide)
  have x2 : ν 2 = x.c.toNat := g1 2 (by decide)
  have x3 : ν 3 = x.d.toNat := g1 3 (by decide)
  have x4 : ν 4 = y.a.toNat := g1 4 (by decide)
  have x5 : ν 5 = y.b.toNat := g1 5 (by decide)
  have x6 : ν 6 = y.c.toNat := g1 6 (by decide)
  have x7 : ν 7 = y.d.toNat := g1 7 (by decide)
  have x8 : ν 8 = m.a.toNat := g1 8 (by decide)
  have x9 : ν 9 = m.b.toNat := g1 9 (by decide)
  have x10 : ν 10 = m.c.toNat := g1 10 (by decide)
  have x11 : ν 11 = m.d.toNat := g1 11 (by decide)
  have hX := below_two x m h0 h1
  have hY := below_two y m h0 h2
  have lM := toNat_lt m
  have lX := toNat_lt x
  have lY := toNat_lt y
  have vX : x.toNat = ν 0 + 2 ^ 64 * ν 1 + 2 ^ 128 * ν 2 + 2 ^ 192 * ν 3 := by rw [x0, x1, x2, x3]; rfl
  have vY : y.toNat = ν 4 + 2 ^ 64 * ν 5 + 2 ^ 128 * ν 6 + 2 ^ 192 * ν 7 := by rw [x4, x5, x6, x7]; rfl
  have vM : m.toNat = ν 8 + 2 ^ 64 * ν 9 + 2 ^ 128 * ν 10 + 2 ^ 192 * ν 11 := by rw [x8, x9, x10, x11]; rfl
  have key := fast_nat (X := ν 0 + 2 ^ 64 * ν 1 + 2 ^ 128 * ν 2 + 2 ^ 192 * ν 3) (Y := ν 4 + 2 ^ 64 * ν 5 + 2 ^ 128 * ν 6 + 2 ^ 192 * ν 7) (M := ν 8 + 2 ^ 64 * ν 9 + 2 ^ 128 * ν 10 + 2 ^ 192 * ν 11) (Pd := ν 12 + 2 ^ 64 * ν 14 + 2 ^ 128 * ν 16 + 2 ^ 192 * ν 18) (Qd := ν 20 + 2 ^ 64 * ν 22 + 2 ^ 128 * ν 24 + 2 ^ 192 * ν 26) (S := ν 30 + 2 ^ 64 * ν 32 + 2 ^ 128 * ν 34 + 2 ^ 192 * ν 36) (T := ν 38 + 2 ^ 64 * ν 40 + 2 ^ 128 * ν 42 + 2 ^ 192 * ν 44) (A := ν 0 + 2 ^ 64 * ν 1 + 2 ^ 128 * ν 2 + 2 ^ 192 * ν 3) (C := ν 20 + 2 ^ 64 * ν 22 + 2 ^ 128 * ν 24 + 2 ^ 192 * ν 26) (pc := ν 19) (qc := ν 27) (sc := ν 37) (tc := ν 45)
    (by rw [← vX, ← vM]; exact hX) (by rw [← vY, ← vM]; exact hY) (by rw [← vM]; exact lM) (by rw [← vX]; exact lX) (by rw [← vY]; exact lY) (lt4 E18_1 E17_1 E16_1 E15_1) (lt4 E14_1 E13_1 E12_1 E11_1) (lt4 E8_1 E7_1 E6_1 E5_1) (lt4 E4_1 E3_1 E2_1 E1_1) E15_2 E11_2 E5_2 E1_2
    (sub4 E18_0 E17_0 E16_0 E15_0) (sub4 E14_0 E13_0 E12_0 E11_0) (if_neg D19).symm (if_pos D27).symm (add4 E8_0 E7_0 E6_0 E5_0) (sub4 E4_0 E3_0 E2_0 E1_0)
  rw [← vX, ← vY, ← vM] at key
  rw [if_neg (fun h => D37 h.1)] at key
  have hnum := fast_num h0 h1 h2 E4_1 E3_1 E2_1 E1_1 key
  obtain ⟨s0, s13, s16, _⟩ := F.slot
  obtain ⟨m60, m61, m62, m63, m70, m71, m72, m73, _⟩ := F.cell
  have hb0 : β 0 = (b, o) := g2 0 (by decide)
  have hbl := hz.lt
  have s0' : a'.tmps[0]? = some (.pointer (some ⟨b, o, none⟩)) := by
    rw [s0]; simp only [Sl.SV.val, hb0, Nat.add_zero]
  have hR : At4 w' (β 7).1 (β 7).2 (addModN x y m) := by
    rw [← hnum]
    exact Sl.at4_of m70 m71 m72 m73 E4_1 E3_1 E2_1 E1_1
  exact fast_set 16 0 277 278 (by kernel_rfl) (by decide) (by decide) (by decide) hz fz F.size F.defers F.bel s0' s16 hR (by have := F.own 7 (by decide); omega) hQ
theorem fast_leaf9 (hz : At4 w b o z) (fz : Free4 w b o) (h0 : m.d ≠ 0#64) (h1 : x.d ≤ m.d) (h2 : y.d ≤ m.d) (hQ : ∀ a1 w1, a1.tmps[8]? = some (.pointer (some ⟨b, o, none⟩)) → a1.defers = [] → Left w b o (addModN x y m) w1 → Q .ret a1 w1)
    {ν : Nat → Nat} {β : Nat → Nat × Nat} {a' : Act} {w' : World} (g1 : Sl.Agree 12 (fastν x y m) ν) (g2 : Sl.Agree 4 (fastβ b o c p d q f r) β) (F : Sl.Facts w.heap.size w [0, 13, 16] fastCells [] fastV9 ν β a' w') :
    (Sl.Leaf.stop fastA).post Try.prog Q a' w' := by
  obtain ⟨I0, I1, I2, I3, I4, I5, I6, I7, I8, I9, I10, I11, I12, I13, I14, I15, I16, I17, I18, I19, _⟩ := F.ins
  have E0_0 : ν 47 = (Sl.cmpN 1 (ν 45) 0).toNat := I0
  clear I0
  have E1_0 : ν 46 = (Sl.cmpN 0 (ν 37) 0).toNat := I1
  clear I1
  have E2_0 : ν 44 + ν 11 + ν 43 = ν 36 + 18446744073709551616 * ν 45 := I2.1
  have E2_1 : ν 44 < 18446744073709551616 := I2.2.1
  have E2_2 : ν 45 ≤ 1 := I2.2.2
  clear I2
  have E3_0 : ν 42 + ν 10 + ν 41 = ν 34 + 18446744073709551616 * ν 43 := I3.1
  have E3_1 : ν 42 < 18446744073709551616 := I3.2.1
  have E3_2 : ν 43 ≤ 1 := I3.2.2
  clear I3
  have E4_0 : ν 40 + ν 9 + ν 39 = ν 32 + 18446744073709551616 * ν 41 := I4.1
  have E4_1 : ν 40 < 18446744073709551616 := I4.2.1
  have E4_2 : ν 41 ≤ 1 := I4.2.2
  clear I4
  have E5_0 : ν 38 + ν 8 + 0 = ν 30 + 18446744073709551616 * ν 39 := I5.1
  have E5_1 : ν 38 < 18446744073709551616 := I5.2.1
  have E5_2 : ν 39 ≤ 1 := I5.2.2
  clear I5
  have E6_0 : ν 36 + 18446744073709551616 * ν 37 = ν 3 + ν 7 + ν 35 := I6.1
  have E6_1 : ν 36 < 18446744073709551616 := I6.2.1
  have E6_2 : ν 37 ≤ 1 := I6.2.2
  clear I6
  have E7_0 : ν 34 + 18446744073709551616 * ν 35 = ν 2 + ν 6 + ν 33 := I7.1
  have E7_1 : ν 34 < 18446744073709551616 := I7.2.1
  have E7_2 : ν 35 ≤ 1 := I7.2.2
  clear I7
  have E8_0 : ν 32 + 18446744073709551616 * ν 33 = ν 1 + ν 5 + ν 31 := I8.1
  have E8_1 : ν 32 < 18446744073709551616 := I8.2.1
  have E8_2 : ν 33 ≤ 1 := I8.2.2
  clear I8
  have E9_0 : ν 30 + 18446744073709551616 * ν 31 = ν 0 + ν 4 + 0 := I9.1
  have E9_1 : ν 30 < 18446744073709551616 := I9.2.1
  have E9_2 : ν 31 ≤ 1 := I9.2.2
  clear I9
  have E10_0 : ν 29 = (Sl.cmpN 0 (ν 27) 0).toNat := I10
  clear I10
  have E11_0 : ν 28 = (Sl.cmpN 0 (ν 19) 0).toNat := I11
  clear I11
  have E12_0 : ν 26 + ν 11 + ν 25 = ν 7 + 18446744073709551616 * ν 27 := I12.1
  have E12_1 : ν 26 < 18446744073709551616 := I12.2.1
  have E12_2 : ν 27 ≤ 1 := I12.2.2
  clear I12
  have E13_0 : ν 24 + ν 10 + ν 23 = ν 6 + 18446744073709551616 * ν 25 := I13.1
  have E13_1 : ν 24 < 18446744073709551616 := I13.2.1
  have E13_2 : ν 25 ≤ 1 := I13.2.2
  clear I13
  have E14_0 : ν 22 + ν 9 + ν 21 = ν 5 + 18446744073709551616 * ν 23 := I14.1
  have E14_1 : ν 22 < 18446744073709551616 := I14.2.1
  have E14_2 : ν 23 ≤ 1 := I14.2.2
  clear I14
  have E15_0 : ν 20 + ν 8 + 0 = ν 4 + 18446744073709551616 * ν 21 := I15.1
  have E15_1 : ν 20 < 18446744073709551616 := I15.2.1
  have E15_2 : ν 21 ≤ 1 := I15.2.2
  clear I15
  have E16_0 : ν 18 + ν 11 + ν 17 = ν 3 + 18446744073709551616 * ν 19 := I16.1
  have E16_1 : ν 18 < 18446744073709551616 := I16.2.1
  have E16_2 : ν 19 ≤ 1 := I16.2.2
  clear I16
  have E17_0 : ν 16 + ν 10 + ν 15 = ν 2 + 18446744073709551616 * ν 17 := I17.1
  have E17_1 : ν 16 < 18446744073709551616 := I17.2.1
  have E17_2 : ν 17 ≤ 1 := I17.2.2
  clear I17
  have E18_0 : ν 14 + ν 9 + ν 13 = ν 1 + 18446744073709551616 * ν 15 := I18.1
  have E18_1 : ν 14 < 18446744073709551616 := I18.2.1
  have E18_2 : ν 15 ≤ 1 := I18.2.2
  clear I18
  have E19_0 : ν 12 + ν 8 + 0 = ν 0 + 18446744073709551616 * ν 13 := I19.1
  have E19_1 : ν 12 < 18446744073709551616 := I19.2.1
  have E19_2 : ν 13 ≤ 1 := I19.2.2
  clear I19
  obtain ⟨K0, K1, K2, K3, _⟩ := F.kn
  have D45 := Sl.ne_yes E0_0 K0
  have D37 := Sl.eq_yes E1_0 K1
  have D27 := Sl.eq_no E10_0 K2
  have D19 := Sl.eq_no E11_0 K3
  have x0 : ν 0 = x.a.toNat := g1 0 (by decide)
  have x1 : ν 1 = x.b.toNat := g1 1 (by decide)
  have x2 : ν 2 = x.c.toNat := g1 2 (by decide)
  have x3 : ν 3 = x.d.toNat := g1 3 (by decide)
  have x4 : ν 4 = y.a.toNat := g1 4 (by decide)
  have x5 : ν 5 = y.b.toNat := g1 5 (by decide)
  have x6 : ν 6 = y.c.toNat := g1 6 (by decide)
  have x7 : ν 7 = y.d.toNat := g1 7 (by decide)
  have x8 : ν 8 = m.a.toNat := g1 8 (by decide)
  have x9 : ν 9 = m.b.toNat := g1 9 (by decide)
  have x10 : ν 10 = m.c.toNat := g1 10 (by decide)
  have x11 : ν 11 = m.d.toNat := g1 11 (by decide)
  have hX := below_two x m h0 h1
  have hY := below_two y m h0 h2
  have lM := toNat_lt m
  have lX := toNat_lt x
  have lY := toNat_lt y
  have vX : x.toNat = ν 0 + 2 ^ 64 * ν 1 + 2 ^ 128 * ν 2 + 2 ^ 192 * ν 3 := by rw [x0, x1, x2, x3]; rfl
  have vY : y.toNat = ν 4 + 2 ^ 64 * ν 5 + 2 ^ 128 * ν 6 + 2 ^ 192 * ν 7 := by rw [x4, x5, x6, x7]; rfl
  have vM : m.toNat = ν 8 + 2 ^ 64 * ν 9 + 2 ^ 128 * ν 10 + 2 ^ 192 * ν 11 := by rw [x8, x9, x10, x11]; rfl
  have key := fast_nat (X := ν 0 + 2 ^ 64 * ν 1 + 2 ^ 128 * ν 2 + 2 ^ 192 * ν 3) (Y := ν 4 + 2 ^ 64 * ν 5 + 2 ^ 128 * ν 6 + 2 ^ 192 * ν 7) (M := ν 8 + 2 ^ 64 * ν 9 + 2 ^ 128 * ν 10 + 2 ^ 192 * ν 11) (Pd := ν 12 + 2 ^ 64 * ν 14 + 2 ^ 128 * ν 16 + 2 ^ 192 * ν 18) (Qd := ν 20 + 2 ^ 64 * ν 22 + 2 ^ 128 * ν 24 + 2 ^ 192 * ν 26) (S := ν 30 + 2 ^ 64 * ν 32 + 2 ^ 128 * ν 34 + 2 ^ 192 * ν 36) (T := ν 38 + 2 ^ 64 * ν 40 + 2 ^ 128 * ν 42 + 2 ^ 192 * ν 44) (A := ν 0 + 2 ^ 64 * ν 1 + 2 ^ 128 * ν 2 + 2 ^ 192 * ν 3) (C := ν 4 + 2 ^ 64 * ν 5 + 2 ^ 128 * ν 6 + 2 ^ 192 * ν 7) (pc := ν 19) (qc := ν 27) (sc := ν 37) (tc := ν 45)
    (by rw [← vX, ← vM]; exact hX) (by rw [← vY, ← vM]; exact hY) (by rw [← vM]; exact lM) (by rw [← vX]; exact lX) (by rw [← vY]; exact lY) (lt4 E19_1 E18_1 E17_1 E16_1) (lt4 E15_1 E14_1 E13_1 E12_1) (lt4 E9_1 E8_1 E7_1 E6_1) (lt4 E5_1 E4_1 E3_1 E2_1) E16_2 E12_2 E6_2 E2_2
    (sub4 E19_0 E18_0 E17_0 E16_0) (sub4 E15_0 E14_0 E13_0 E12_0) (if_neg D19).symm (if_neg D27).symm (add4 E9_0 E8_0 E7_0 E6_0) (sub4 E5_0 E4_0 E3_0 E2_0)
  rw [← vX, ← vY, ← vM] at key
  rw [if_pos ⟨D37, D45⟩] at key
  have hnum := fast_num h0 h1 h2 E9_1 E8_1 E7_1 E6_1 key
  obtain ⟨s0, s13, s16, _⟩ := F.slot
  obtain ⟨m60, m61, m62, m63, m70, m71, m72, m73, _⟩ := F.cell
  have hb0 : β 0 = (b, o) := g2 0 (by decide)
  have hbl := hz.lt
  have s0' : a'.tmps[0]? = some (.pointer (some ⟨b, o, none⟩)) := by
    rw [s0]; simp only [Sl.SV.val, hb0, Nat.add_zero]
  have hR : At4 w' (β 6).1 (β 6).2 (addModN x y m) := by
    rw [← hnum]
    exact Sl.at4_of m60 m61 m62 m63 E9_1 E8_1 E7_1 E6_1
  exact fast_set 13 0 275 276 (by kernel_rfl) (by decide) (by decide) (by decide) hz fz F.size F.defers F.bel s0' s13 hR (by have := F.own 6 (by decide); omega) hQ
theorem fast_leaf10 (hz : At4 w b o z) (fz : Free4 w b o) (h0 : m.d ≠ 0#64) (h1 : x.d ≤ m.d) (h2 : y.d ≤ m.d) (hQ : ∀ a1 w1, a1.tmps[8]? = some (.pointer (some ⟨b, o, none⟩)) → a1.defers = [] → Left w b o (addModN x y m) w1 → Q .ret a1 w1)
    {ν : Nat → Nat} {β : Nat → Nat × Nat} {a' : Act} {w' : World} (g1 : Sl.Agree 12 (fastν x y m) ν) (g2 : Sl.Agree 4 (fastβ b o c p d q f r) β) (F : Sl.Facts w.heap.size w [0, 13, 16] fastCells [] fastV10 ν β a' w') :
    (Sl.Leaf.stop fastB).post Try.prog Q a' w' := by
  obtain ⟨I0, I1, I2, I3, I4, I5, I6, I7, I8, I9, I10, I11, I12, I13, I14, I15, I16, I17, I18, I19, _⟩ := F.ins
  have E0_0 : ν 47 = (Sl.cmpN 1 (ν 45) 0).toNat := I0
  clear I0
  have E1_0 : ν 46 = (Sl.cmpN 0 (ν 37) 0).toNat := I1
  clear I1
  have E2_0 : ν 44 + ν 11 + ν 43 = ν 36 + 18446744073709551616 * ν 45 := I2.1
  have E2_1 : ν 44 < 18446744073709551616 := I2.2.1
  have E2_2 : ν 45 ≤ 1 := I2.2.2
  clear I2
  have E3_0 : ν 42 + ν 10 + ν 41 = ν 34 + 18446744073709551616 * ν 43 := I3.1
  have E3_1 : ν 42 < 18446744073709551616 := I3.2.1
  have E3_2 : ν 43 ≤ 1 := I3.2.2
  clear I3
  have E4_0 : ν 40 + ν 9 + ν 39 = ν 32 + 18446744073709551616 * ν 41 := I4.1
  have E4_1 : ν 40 < 18446744073709551616 := I4.2.1
  have E4_2 : ν 41 ≤ 1 := I4.2.2
  clear I4
  have E5_0 : ν 38 + ν 8 + 0 = ν 30 + 18446744073709551616 * ν 39 := I5.1
  have E5_1 : ν 38 < 18446744073709551616 := I5.2.1
  have E5_2 : ν 39 ≤ 1 := I5.2.2
  clear I5
  have E6_0 : ν 36 + 18446744073709551616 * ν 37 = ν 3 + ν 7 + ν 35 := I6.1
  have E6_1 : ν 36 < 18446744073709551616 := I6.2.1
  have E6_2 : ν 37 ≤ 1 := I6.2.2
  clear I6
  have E7_0 : ν 34 + 18446744073709551616 * ν 35 = ν 2 + ν 6 + ν 33 := I7.1
  have E7_1 : ν 34 < 18446744073709551616 := I7.2.1
  have E7_2 : ν 35 ≤ 1 := I7.2.2
  clear I7
  have E8_0 : ν 32 + 18446744073709551616 * ν 33 = ν 1 + ν 5 + ν 31 := I8.1
  have E8_1 : ν 32 < 18446744073709551616 := I8.2.1
  have E8_2 : ν 33 ≤ 1 := I8.2.2
  clear I8
  have E9_0 : ν 30 + 18446744073709551616 * ν 31 = ν 0 + ν 4 + 0 := I9.1
  have E9_1 : ν 30 < 18446744073709551616 := I9.2.1
  have E9_2 : ν 31 ≤ 1 := I9.2.2
  clear I9
  have E10_0 : ν 29 = (Sl.cmpN 0 (ν 27) 0).toNat := I10
  clear I10
  have E11_0 : ν 28 = (Sl.cmpN 0 (ν 19) 0).toNat := I11
  clear I11
  have E12_0 : ν 26 + ν 11 + ν 25 = ν 7 + 18446744073709551616 * ν 27 := I12.1
  have E12_1 : ν 26 < 18446744073709551616 := I12.2.1
  have E12_2 : ν 27 ≤ 1 := I12.2.2
  clear I12
  have E13_0 : ν 24 + ν 10 + ν 23 = ν 6 + 18446744073709551616 * ν 25 := I13.1
  have E13_1 : ν 24 < 18446744073709551616 := I13.2.1
  have E13_2 : ν 25 ≤ 1 := I13.2.2
  clear I13
  have E14_0 : ν 22 + ν 9 + ν 21 = ν 5 + 18446744073709551616 * ν 23 := I14.1
  have E14_1 : ν 22 < 18446744073709551616 := I14.2.1
  have E14_2 : ν 23 ≤ 1 := I14.2.2
  clear I14
  have E15_0 : ν 20 + ν 8 + 0 = ν 4 + 18446744073709551616 * ν 21 := I15.1
  have E15_1 : ν 20 < 18446744073709551616 := I15.2.1
  have E15_2 : ν 21 ≤ 1 := I15.2.2
  clear I15
  have E16_0 : ν 18 + ν 11 + ν 17 = ν 3 + 18446744073709551616 * ν 19 := I16.1
  have E16_1 : ν 18 < 18446744073709551616 := I16.2.1
  have E16_2 : ν 19 ≤ 1 := I16.2.2
  clear I16
  have E17_0 : ν 16 + ν 10 + ν 15 = ν 2 + 18446744073709551616 * ν 17 := I17.1
  have E17_1 : ν 16 < 18446744073709551616 := I17.2.1
  have E17_2 : ν 17 ≤ 1 := I17.2.2
  clear I17
  have E18_0 : ν 14 + ν 9 + ν 13 = ν 1 + 18446744073709551616 * ν 15 := I18.1
  have E18_1 : ν 14 < 18446744073709551616 := I18.2.1
  have E18_2 : ν 15 ≤ 1 := I18.2.2
  clear I18
  have E19_0 : ν 12 + ν 8 + 0 = ν 0 + 18446744073709551616 * ν 13 := I19.1
  have E19_1 : ν 12 < 18446744073709551616 := I19.2.1
  have E19_2 : ν 13 ≤ 1 := I19.2.2
  clear I19
  obtain ⟨K0, K1, K2, K3, _⟩ := F.kn
  have D45 := Sl.ne_no E0_0 K0
  have D37 := Sl.eq_yes E1_0 K1
  have D27 := Sl.eq_no E10_0 K2
  have D19 := Sl.eq_no E11_0 K3
  have x0 : ν 0 = x.a.toNat := g1 0 (by decide)
  have x1 : ν 1 = x.b.toNat := g1 1 (by decide)
  have x2 : ν 2 = x.c.toNat := g1 2 (by decide)
  have x3 : ν 3 = x.d.toNat := g1 3 (by decide)
  have x4 : ν 4 = y.a.toNat := g1 4 (by decide)
  have x5 : ν 5 = y.b.toNat := g1 5 (by decide)
  have x6 : ν 6 = y.c.toNat := g1 6 (by decide)
  have x7 : ν 7 = y.d.toNat := g1 7 (by decide)
  have x8 : ν 8 = m.a.toNat := g1 8 (by decide)
  have x9 : ν 9 = m.b.toNat := g1 9 (by decide)
  have x10 : ν 10 = m.c.toNat := g1 10 (by decide)
  have x11 : ν 11 = m.d.toNat := g1 11 (by decide)
  have hX := below_two x m h0 h1
  have hY := below_two y m h0 h2
  have lM := toNat_lt m
  have lX := toNat_lt x
  have lY := toNat_lt y
  have vX : x.toNat = ν 0 + 2 ^ 64 * ν 1 + 2 ^ 128 * ν 2 + 2 ^ 192 * ν 3 := by rw [x0, x1, x2, x3]; rfl
  have vY : y.toNat = ν 4 + 2 ^ 64 * ν 5 + 2 ^ 128 * ν 6 + 2 ^ 192 * ν 7 := by rw [x4, x5, x6, x7]; rfl
  have vM : m.toNat = ν 8 + 2 ^ 64 * ν 9 + 2 ^ 128 * ν 10 + 2 ^ 192 * ν 11 := by rw [x8, x9, x10, x11]; rfl
  have key := fast_nat (X := ν 0 + 2 ^ 64 * ν 1 + 2 ^ 128 * ν 2 + 2 ^ 192 * ν 3) (Y := ν 4 + 2 ^ 64 * ν 5 + 2 ^ 128 * ν 6 + 2 ^ 192 * ν 7) (M := ν 8 + 2 ^ 64 * ν 9 + 2 ^ 128 * ν 10 + 2 ^ 192 * ν 11) (Pd := ν 12 + 2 ^ 64 * ν 14 + 2 ^ 128 * ν 16 + 2 ^ 192 * ν 18) (Qd := ν 20 + 2 ^ 64 * ν 22 + 2 ^ 128 * ν 24 + 2 ^ 192 * ν 26) (S := ν 30 + 2 ^ 64 * ν 32 + 2 ^ 128 * ν 34 + 2 ^ 192 * ν 36) (T := ν 38 + 2 ^ 64 * ν 40 + 2 ^ 128 * ν 42 + 2 ^ 192 * ν 44) (A := ν 0 + 2 ^ 64 * ν 1 + 2 ^ 128 * ν 2 + 2 ^ 192 * ν 3) (C := ν 4 + 2 ^ 64 * ν 5 + 2 ^ 128 * ν 6 + 2 ^ 192 * ν 7) (pc := ν 19) (qc := ν 27) (sc := ν 37) (tc := ν 45)
    (by rw [← vX, ← vM]; exact hX) (by rw [← vY, ← vM]; exact hY) (by rw [← vM]; exact lM) (by rw [← vX]; exact lX) (by rw [← vY]; exact lY) (lt4 E19_1 E18_1 E17_1 E16_1) (lt4 E15_1 E14_1 E13_1 E12_1) (lt4 E9_1 E8_1 E7_1 E6_1) (lt4 E5_1 E4_1 E3_1 E2_1) E16_2 E12_2 E6_2 E2_2
    (sub4 E19_0 E18_0 E17_0 E16_0) (sub4 E15_0 E14_0 E13_0 E12_0) (if_neg D19).symm (if_neg D27).symm (add4 E9_0 E8_0 E7_0 E6_0) (sub4 E5_0 E4_0 E3_0 E2_0)
  rw [← vX, ← vY, ← vM] at key
  rw [if_neg (fun h => h.2 D45)] at key
  have hnum := fast_num h0 h1 h2 E5_1 E4_1 E3_1 E2_1 key
  obtain ⟨s0, s13, s16, _⟩ := F.slot
  obtain ⟨m60, m61, m62, m63, m70, m71, m72, m73, _⟩ := F.cell
  have hb0 : β 0 = (b, o) := g2 0 (by decide)
  have hbl := hz.lt
  have s0' : a'.tmps[0]? = some (.pointer (some ⟨b, o, none⟩)) := by
    rw [s0]; simp only [Sl.SV.val, hb0, Nat.add_zero]
  have hR : At4 w' (β 7).1 (β 7).2 (addModN x y m) := by
    rw [← hnum]
    exact Sl.at4_of m70 m71 m72 m73 E5_1 E4_1 E3_1 E2_1
  exact fast_set 16 0 277 278 (by kernel_rfl) (by decide) (by decide) (by decide) hz fz F.size F.defers F.bel s0' s16 hR (by have := F.own 7 (by decide); omega) hQ
theorem fast_leaf11 (hz : At4 w b o z) (fz : Free4 w b o) (h0 : m.d ≠ 0#64) (h1 : x.d ≤ m.d) (h2 : y.d ≤ m.d) (hQ : ∀ a1 w1, a1.tmps[8]? = some (.pointer (some ⟨b, o, none⟩)) → a1.defers = [] → Left w b o (addModN x y m) w1 → Q .ret a1 w1)
    {ν : Nat → Nat} {β : Nat → Nat × Nat} {a' : Act} {w' : World} (g1 : Sl.Agree 12 (fastν x y m) ν) (g2 : Sl.Agree 4 (fastβ b o c p d q f r) β) (F : Sl.Facts w.heap.size w [0, 13, 16] fastCells [] fastV11 ν β a' w') :
    (Sl.Leaf.stop fastB).post Try.prog Q a' w' := by
  obtain ⟨I0, I1, I2, I3, I4, I5, I6, I7, I8, I9, I10, I11, I12, I13, I14, I15, I16, I17, I18, _⟩ := F.ins
  have E0_0 : ν 46 = (Sl.cmpN 0 (ν 37) 0).toNat := I0
  clear I0
  have E1_0 : ν 44 + ν 11 + ν 43 = ν 36 + 18446744073709551616 * ν 45 := I1.1
  have E1_1 : ν 44 < 18446744073709551616 := I1.2.1
  have E1_2 : ν 45 ≤ 1 := I1.2.2
  clear I1
  have E2_0 : ν 42 + ν 10 + ν 41 = ν 34 + 18446744073709551616 * ν 43 := I2.1
  have E2_1 : ν 42 < 18446744073709551616 := I2.2.1
  have E2_2 : ν 43 ≤ 1 := I2.2.2
  clear I2
  have E3_0 : ν 40 + ν 9 + ν 39 = ν 32 + 18446744073709551616 * ν 41 := I3.1
  have E3_1 : ν 40 < 18446744073709551616 := I3.2.1
  have E3_2 : ν 41 ≤ 1 := I3.2.2
  clear I3
  have E4_0 : ν 38 + ν 8 + 0 = ν 30 + 18446744073709551616 * ν 39 := I4.1
  have E4_1 : ν 38 < 18446744073709551616 := I4.2.1
  have E4_2 : ν 39 ≤ 1 := I4.2.2
  clear I4
  have E5_0 : ν 36 + 18446744073709551616 * ν 37 = ν 3 + ν 7 + ν 35 := I5.1
  have E5_1 : ν 36 < 18446744073709551616 := I5.2.1
  have E5_2 : ν 37 ≤ 1 := I5.2.2
  clear I5
  have E6_0 : ν 34 + 18446744073709551616 * ν 35 = ν 2 + ν 6 + ν 33 := I6.1
  have E6_1 : ν 34 < 18446744073709551616 := I6.2.1
  have E6_2 : ν 35 ≤ 1 := I6.2.2
  clear I6
  have E7_0 : ν 32 + 18446744073709551616 * ν 33 = ν 1 + ν 5 + ν 31 := I7.1
  have E7_1 : ν 32 < 18446744073709551616 := I7.2.1
  have E7_2 : ν 33 ≤ 1 := I7.2.2
  clear I7
  have E8_0 : ν 30 + 18446744073709551616 * ν 31 = ν 0 + ν 4 + 0 := I8.1
  have E8_1 : ν 30 < 18446744073709551616 := I8.2.1
  have E8_2 : ν 31 ≤ 1 := I8.2.2
  clear I8
  have E9_0 : ν 29 = (Sl.cmpN 0 (ν 27) 0).toNat := I9
  clear I9
  have E10_0 : ν 28 = (Sl.cmpN 0 (ν 19) 0).toNat := I10
  clear I10
  have E11_0 : ν 26 + ν 11 + ν 25 = ν 7 + 18446744073709551616 * ν 27 := I11.1
  have E11_1 : ν 26 < 18446744073709551616 := I11.2.1
  have E11_2 : ν 27 ≤ 1 := I11.2.2
  clear I11
  have E12_0 : ν 24 + ν 10 + ν 23 = ν 6 + 18446744073709551616 * ν 25 := I12.1
  have E12_1 : ν 24 < 18446744073709551616 := I12.2.1
  have E12_2 : ν 25 ≤ 1 := I12.2.2
  clear I12
  have E13_0 : ν 22 + ν 9 + ν 21 = ν 5 + 18446744073709551616 * ν 23 := I13.1
  have E13_1 : ν 22 < 18446744073709551616 := I13.2.1
  have E13_2 : ν 23 ≤ 1 := I13.2.2
  clear I13
  have E14_0 : ν 20 + ν 8 + 0 = ν 4 + 18446744073709551616 * ν 21 := I14.1
  have E14_1 : ν 20 < 18446744073709551616 := I14.2.1
  have E14_2 : ν 21 ≤ 1 := I14.2.2
  clear I14
  have E15_0 : ν 18 + ν 11 + ν 17 = ν 3 + 18446744073709551616 * ν 19 := I15.1
  have E15_1 : ν 18 < 18446744073709551616 := I15.2.1
  have E15_2 : ν 19 ≤ 1 := I15.2.2
  clear I15
  have E16_0 : ν 16 + ν 10 + ν 15 = ν 2 + 18446744073709551616 * ν 17 := I16.1
  have E16_1 : ν 16 < 18446744073709551616 := I16.2.1
  have E16_2 : ν 17 ≤ 1 := I16.2.2
  clear I16
  have E17_0 : ν 14 + ν 9 + ν 13 = ν 1 + 18446744073709551616 * ν 15 := I17.1
  have E17_1 : ν 14 < 18446744073709551616 := I17.2.1
  have E17_2 : ν 15 ≤ 1 := I17.2.2
  clear I17
  have E18_0 : ν 12 + ν 8 + 0 = ν 0 + 18446744073709551616 * ν 13 := I18.1
  have E18_1 : ν 12 < 18446744073709551616 := I18.2.1
  have E18_2 : ν 13 ≤ 1 := I18.2.2
  clear I18
  obtain ⟨K0, K1, K2, _⟩ := F.kn
  have D37 := Sl.eq_no E0_0 K0
  have D27 := Sl.eq_no E9_0 K1
  have D19 := Sl.eq_no E10_0 K2
  have x0 : ν 0 = x.a.toNat := g1 0 (by decide)
  have x1 : ν 1 = x.b.toNat := g1 1 (by decide)
  have x2 : ν 2 = x.c.toNat := g1 2 (by decide)
  have x3 : ν 3 = x.d.toNat := g1 3 (by decide)
  have x4 : ν 4 = y.a.toNat := g1 4 (by decide)
  have x5 : ν 5 = y.b.toNat := g1 5 (by decide)
  have x6 : ν 6 = y.c.toNat := g1 6 (by decide)
  have x7 : ν 7 = y.d.toNat := g1 7 (by decide)
  have x8 : ν 8 = m.a.toNat := g1 8 (by decide)
  have x9 : ν 9 = m.b.toNat := g1 9 (by decide)
  have x10 : ν 10 = m.c.toNat := g1 10 (by decide)
  have x11 : ν 11 = m.d.toNat := g1 11 (by decide)
  have hX := below_two x m h0 h1
  have hY := below_two y m h0 h2
  have lM := toNat_lt m
  have lX := toNat_lt x
  have lY := toNat_lt y
  have vX : x.toNat = ν 0 + 2 ^ 64 * ν 1 + 2 ^ 128 * ν 2 + 2 ^ 192 * ν 3 := by rw [x0, x1, x2, x3]; rfl
  have vY : y.toNat = ν 4 + 2 ^ 64 * ν 5 + 2 ^ 128 * ν 6 + 2 ^ 192 * ν 7 := by rw [x4, x5, x6, x7]; rfl
  have vM : m.toNat = ν 8 + 2 ^ 64 * ν 9 + 2 ^ 128 * ν 10 + 2 ^ 192 * ν 11 := by rw [x8, x9, x10, x11]; rfl
  have key := fast_nat (X := ν 0 + 2 ^ 64 * ν 1 + 2 ^ 128 * ν 2 + 2 ^ 192 * ν 3) (Y := ν 4 + 2 ^ 64 * ν 5 + 2 ^ 128 * ν 6 + 2 ^ 192 * ν 7) (M := ν 8 + 2 ^ 64 * ν 9 + 2 ^ 128 * ν 10 + 2 ^ 192 * ν 11) (Pd := ν 12 + 2 ^ 64 * ν 14 + 2 ^ 128 * ν 16 + 2 ^ 192 * ν 18) (Qd := ν 20 + 2 ^ 64 * ν 22 + 2 ^ 128 * ν 24 + 2 ^ 192 * ν 26) (S := ν 30 + 2 ^ 64 * ν 32 + 2 ^ 128 * ν 34 + 2 ^ 192 * ν 36) (T := ν 38 + 2 ^ 64 * ν 40 + 2 ^ 128 * ν 42 + 2 ^ 192 * ν 44) (A := ν 0 + 2 ^ 64 * ν 1 + 2 ^ 128 * ν 2 + 2 ^ 192 * ν 3) (C := ν 4 + 2 ^ 64 * ν 5 + 2 ^ 128 * ν 6 + 2 ^ 192 * ν 7) (pc := ν 19) (qc := ν 27) (sc := ν 37) (tc := ν 45)
    (by rw [← vX, ← vM]; exact hX) (by rw [← vY, ← vM]; exact hY) (by rw [← vM]; exact lM) (by rw [← vX]; exact lX) (by rw [← vY]; exact lY) (lt4 E18_1 E17_1 E16_1 E15_1) (lt4 E14_1 E13_1 E12_1 E11_1) (lt4 E8_1 E7_1 E6_1 E5_1) (lt4 E4_1 E3_1 E2_1 E1_1) E15_2 E11_2 E5_2 E1_2
    (sub4 E18_0 E17_0 E16_0 E15_0) (sub4 E14_0 E13_0 E12_0 E11_0) (if_neg D19).symm (if_neg D27).symm (add4 E8_0 E7_0 E6_0 E5_0) (sub4 E4_0 E3_0 E2_0 E1_0)
  rw [← vX, ← vY, ← vM] at key
  rw [if_neg (fun h => D37 h.1)] at key
  have hnum := fast_num h0 h1 h2 E4_1 E3_1 E2_1 E1_1 key
  obtain ⟨s0, s13, s16, _⟩ := F.slot
  obtain ⟨m60, m61, m62, m63, m70, m71, m72, m73, _⟩ := F.cell
  have hb0 : β 0 = (b, o) := g2 0 (by decide)
  have hbl := hz.lt
  have s0' : a'.tmps[0]? = some (.pointer (some ⟨b, o, none⟩)) := by
    rw [s0]; simp only [Sl.SV.val, hb0, Nat.add_zero]
  have hR : At4 w' (β 7).1 (β 7).2 (addModN x y m) := by
    rw [← hnum]
    exact Sl.at4_of m70 m71 m72 m73 E4_1 E3_1 E2_1 E1_1
  exact fast_set 16 0 277 278 (by kernel_rfl) (by decide) (by decide) (by decide) hz fz F.size F.defers F.bel s0' s16 hR (by have := F.own 7 (by decide); omega) hQ
theorem fast_engine (hz : At4 w b o z) (fz : Free4 w b o) (hx : At4 w c p x) (hy : At4 w d q y) (hm : At4 w f r m) (h0 : m.d ≠ 0#64) (h1 : x.d ≤ m.d) (h2 : y.d ≤ m.d)
    {t : Array Value} (t0 : t[0]? = some (.pointer (some ⟨b, o, none⟩))) (t1 : t[1]? = some (.pointer (some ⟨c, p, none⟩))) (t2 : t[2]? = some (.pointer (some ⟨d, q, none⟩))) (t3 : t[3]? = some (.pointer (some ⟨f, r, none⟩))) (hsz : t.size = 323)
    (hQ : ∀ a1 w1, a1.tmps[8]? = some (.pointer (some ⟨b, o, none⟩)) → a1.defers = [] → Left w b o (addModN x y m) w1 → Q .ret a1 w1) : fastCode.wp Try.prog Q ⟨t, []⟩ w := by
  have st : Sl.St w.heap.size w fastS (fastν x y m) (fastβ b o c p d q f r) t w := by
    refine Sl.St.start ⟨⟨t0, trivial, rfl⟩, ⟨t1, trivial, rfl⟩, ⟨t2, trivial, rfl⟩, ⟨t3, trivial, rfl⟩, trivial⟩ ?_ ?_ hsz
    · refine Sl.MemOk.app (Sl.mem_four hx (by decide) (by decide) rfl rfl rfl rfl) (Sl.MemOk.app (Sl.mem_four hy (by decide) (by decide) rfl rfl rfl rfl) (Sl.mem_four hm (by decide) (by decide) rfl rfl rfl rfl))
    · intro k hk
      have e : k = 0 ∨ k = 1 ∨ k = 2 ∨ k = 3 := by omega
      rcases e with rfl | rfl | rfl | rfl
      · exact hz.lt
      · exact hx.lt
      · exact hy.lt
      · exact hm.lt
  refine Sl.wp_run Sl.nums_ok st fast_run (fun v hv ν β a' w' g1 g2 F => ?_)
  simp only [List.mem_cons, List.not_mem_nil, or_false] at hv
  rcases hv with rfl | rfl | rfl | rfl | rfl | rfl | rfl | rfl | rfl | rfl | rfl | rfl
  · exact fast_leaf0 hz fz h0 h1 h2 hQ g1 g2 F
  · exact fast_leaf1 hz fz h0 h1 h2 hQ g1 g2 F
  · exact fast_leaf2 hz fz h0 h1 h2 hQ g1 g2 F
  · exact fast_leaf3 hz fz h0 h1 h2 hQ g1 g2 F
  · exact fast_leaf4 hz fz h0 h1 h2 hQ g1 g2 F
  · exact fast_leaf5 hz fz h0 h1 h2 hQ g1 g2 F
  · exact fast_leaf6 hz fz h0 h1 h2 hQ g1 g2 F
  · exact fast_leaf7 hz fz h0 h1 h2 hQ g1 g2 F
  · exact fast_leaf8 hz fz h0 h1 h2 hQ g1 g2 F
  · exact fast_leaf9 hz fz h0 h1 h2 hQ g1 g2 F
  · exact fast_leaf10 hz fz h0 h1 h2 hQ g1 g2 F
  · exact fast_leaf11 hz fz h0 h1 h2 hQ g1 g2 F
end

set_option maxHeartbeats 8000000 in
theorem addMod_fast (b o c p d q f r : Nat) (z x y m : N4) (w : World) (hz : At4 w b o z) (fz : Free4 w b o) (hx : At4 w c p x) (hy : At4 w d q y) (hm : At4 w f r m) (h0 : m.d ≠ 0#64) (h1 : x.d ≤ m.d) (h2 : y.d ≤ m.d) :
    Calls Try.prog 20 #[.pointer (some ⟨b, o, none⟩), .pointer (some ⟨c, p, none⟩), .pointer (some ⟨d, q, none⟩), .pointer (some ⟨f, r, none⟩)] w (RetLeft b o (addModN x y m) w) := by
  have Hz := Lib.hid hz
  have Hf := Lib.hid fz
  have H0 := Lib.hid h0
  have H1 := Lib.hid h1
  have H2 := Lib.hid h2
  have hn : (m.d != 0#64) = true := by simp [h0]
  have Hx := Lib.hid hx
  have Hy := Lib.hid hy
  have Hm := Lib.hid hm
  obtain ⟨x0, x1, x2, x3⟩ := hx
  obtain ⟨y0, y1, y2, y3⟩ := hy
  obtain ⟨m0, m1, m2, m3⟩ := hm
  clear hz fz h0
  go_enter Try.func20, Try.ntmps20
  go_wp2
  go_quiet (fail)
  clear x0 x1 x2 x3 y0 y1 y2 y3 m0 m1 m2 m3 hn h1 h2
  go_upto_if 48 with fail
  refine wp_cond_true rfl ?_
  refine fast_engine (Hz.out.drewN nq) (Hf.out.drewN nq) (Hx.out.drewN nq) (Hy.out.drewN nq) (Hm.out.drewN nq) H0.out H1.out H2.out rfl rfl rfl rfl rfl (fun a1 w1 h8 hd hl => ?_)
  refine bodyPost_ret (results_tmp rfl _ _ _) hd ?_
  rw [Array.getD_eq_getD_getElem?, h8]
  exact ⟨rfl, hl.behind (bel_drewN (bel_refl w) nq)⟩
end Go.Proofs.Ytpjljjajnfoccaa
