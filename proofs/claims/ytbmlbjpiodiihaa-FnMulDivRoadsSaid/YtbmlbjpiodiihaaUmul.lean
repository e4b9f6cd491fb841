/-
  The contract of uint256's umul: the full product of two numbers, into a row of eight words.
-/
import Derived.Test.YtbmlbjpiodiihaaMulEx
import Derived.Deep.DeepCutAuto
namespace Go.Proofs.Ytbmlbjpiodiihaa
open Go.RowKit
set_option linter.unusedVariables false
set_option linter.unusedSimpArgs false
set_option maxRecDepth 20000
theorem far_cell {W : World} {c p g i n : Nat} {u v : Value} (h : W.cell? ⟨c, p, none⟩ = some v) (hne : c ≠ g) : ((W.setCell ⟨g, i, none⟩ u).drewN n).cell? ⟨c, p, none⟩ = some v :=
  (World.cell?_setCell_other W _ _ _ (fun e => by injection e with e _; exact hne e.symm)).trans h
/-- What holds of the world on the way. -/
def StU (c p d q g : Nat) (x y : N4) (w W : World) (L : List W64) : Prop := At4 W c p x ∧ At4 W d q y ∧ RowW W g 0 L ∧ But [g] w W ∧ L.length = 8
theorem StU.drew {c p d q g : Nat} {x y : N4} {w W : World} {L : List W64} (h : StU c p d q g x y w W L) : StU c p d q g x y w W.drew L :=
  ⟨h.1.drewN 1, h.2.1.drewN 1, h.2.2.1.drew, h.2.2.2.1.drew, h.2.2.2.2⟩
theorem At4.farS {W : World} {c p g i : Nat} {x : N4} (h : At4 W c p x) (v : Value) (hne : c ≠ g) : At4 (W.setCell ⟨g, i, none⟩ v) c p x :=
  ⟨far_cell (n := 0) h.c0 hne, far_cell (n := 0) h.c1 hne, far_cell (n := 0) h.c2 hne, far_cell (n := 0) h.c3 hne⟩
theorem StU.store {c p d q g : Nat} {x y : N4} {w W : World} {L : List W64} (h : StU c p d q g x y w W L) (n1 : c ≠ g) (n2 : d ≠ g) (i : Nat) (v : W64) (hi : i < 8) : StU c p d q g x y w (W.setCell ⟨g, i, none⟩ (V v)) (L.set i v) := by
  have hr := h.2.2.1.set i v (by rw [h.2.2.2.2]; exact hi)
  rw [Nat.zero_add] at hr
  exact ⟨h.1.farS _ n1, h.2.1.farS _ n2, hr, h.2.2.2.1.set (.inl (by simp)) _ _, by rw [List.length_set]; exact h.2.2.2.2⟩
theorem StU.cell {c p d q g : Nat} {x y : N4} {w W : World} {L : List W64} (h : StU c p d q g x y w W L) (i : Nat) (hi : i < 8) : W.cell? ⟨g, i, none⟩ = some (V (wd L i)) ∧ W.frozen? ⟨g, i, none⟩ = false := by
  have h1 := h.2.2.1.cell i (by rw [h.2.2.2.2]; exact hi)
  have h2 := h.2.2.1.free i (by rw [h.2.2.2.2]; exact hi)
  rw [Nat.zero_add] at h1 h2
  exact ⟨h1, h2⟩
theorem full_whole (x0 x1 x2 x3 y0 y1 y2 y3 : Nat) : (x0 + 2 ^ 64 * x1 + 2 ^ 128 * x2 + 2 ^ 192 * x3) * (y0 + 2 ^ 64 * y1 + 2 ^ 128 * y2 + 2 ^ 192 * y3) =
    x0 * y0 + 2 ^ 64 * (x0 * y1 + x1 * y0) + 2 ^ 128 * (x0 * y2 + x1 * y1 + x2 * y0) + 2 ^ 192 * (x0 * y3 + x1 * y2 + x2 * y1 + x3 * y0) + 2 ^ 256 * (x1 * y3 + x2 * y2 + x3 * y1) + 2135987035920910082395021706169552114602704522356652769947041607822219725780640550022962086936576 * (x2 * y3 + x3 * y2) + 39402006196394479212279040100143613805079739270465446667948293404245721771497210611414266254884915640806627990306816 * (x3 * y3) := by grind
theorem wseg_eight {L : List W64} (h : L.length = 8) (a0 a1 a2 a3 a4 a5 a6 a7 : W64) : wseg ((((((((L.set 0 a0).set 1 a1).set 2 a2).set 3 a3).set 4 a4).set 5 a5).set 7 a7).set 6 a6) 0 8 =
    a0.toNat + 2 ^ 64 * a1.toNat + 2 ^ 128 * a2.toNat + 2 ^ 192 * a3.toNat + 2 ^ 256 * a4.toNat + 2135987035920910082395021706169552114602704522356652769947041607822219725780640550022962086936576 * a5.toNat + 39402006196394479212279040100143613805079739270465446667948293404245721771497210611414266254884915640806627990306816 * a6.toNat + 726838724295606890549323807888004534353641360687318060281490199180639288113397923326191050713763565560762521606266177933534601628614656 * a7.toNat := by
  match L, h with
  | [_, _, _, _, _, _, _, _], _ =>
    simp [wseg, wd]
theorem umul_sum (p00 p01 p02 p03 p10 p11 p12 p13 p20 p21 p22 p23 p30 p31 p32 p33 l2 l3 l4 l5 l6 l7 l8 l9 l10 l11 l12 l13 l14 l15 l16 l17 h2 h3 h4 h5 h6 h7 h8 h9 h10 h11 h12 h13 h14 h15 h16 h17 : Nat)
    (E2 : l2 + 18446744073709551616 * h2 = p00) (E3 : l3 + 18446744073709551616 * h3 = h2 + p10) (E4 : l4 + 18446744073709551616 * h4 = h3 + p20) (E5 : l5 + 18446744073709551616 * h5 = h4 + p30)
    (E6 : l6 + 18446744073709551616 * h6 = l3 + p01) (E7 : l7 + 18446744073709551616 * h7 = l4 + p11 + h6) (E8 : l8 + 18446744073709551616 * h8 = l5 + p21 + h7) (E9 : l9 + 18446744073709551616 * h9 = h5 + p31 + h8)
    (E10 : l10 + 18446744073709551616 * h10 = l7 + p02) (E11 : l11 + 18446744073709551616 * h11 = l8 + p12 + h10) (E12 : l12 + 18446744073709551616 * h12 = l9 + p22 + h11) (E13 : l13 + 18446744073709551616 * h13 = h9 + p32 + h12)
    (E14 : l14 + 18446744073709551616 * h14 = l11 + p03) (E15 : l15 + 18446744073709551616 * h15 = l12 + p13 + h14) (E16 : l16 + 18446744073709551616 * h16 = l13 + p23 + h15) (E17 : l17 + 18446744073709551616 * h17 = h13 + p33 + h16) :
    l2 + 2 ^ 64 * l6 + 2 ^ 128 * l10 + 2 ^ 192 * l14 + 2 ^ 256 * l15 + 2135987035920910082395021706169552114602704522356652769947041607822219725780640550022962086936576 * l16 + 39402006196394479212279040100143613805079739270465446667948293404245721771497210611414266254884915640806627990306816 * l17 + 726838724295606890549323807888004534353641360687318060281490199180639288113397923326191050713763565560762521606266177933534601628614656 * h17 = p00 + 2 ^ 64 * (p01 + p10) + 2 ^ 128 * (p02 + p11 + p20) + 2 ^ 192 * (p03 + p12 + p21 + p30) + 2 ^ 256 * (p13 + p22 + p31) + 2135987035920910082395021706169552114602704522356652769947041607822219725780640550022962086936576 * (p23 + p32) + 39402006196394479212279040100143613805079739270465446667948293404245721771497210611414266254884915640806627990306816 * p33 := by omega
set_option maxHeartbeats 16000000 in
theorem umul_any (c p d q g : Nat) (x y : N4) (L : List W64) (w : World) (hx : At4 w c p x) (hy : At4 w d q y) (hL : RowW w g 0 L) (h8 : L.length = 8) (n1 : c ≠ g) (n2 : d ≠ g) :
    Calls Try.prog 91 #[.pointer (some ⟨c, p, none⟩), .pointer (some ⟨d, q, none⟩), .pointer (some ⟨g, 0, none⟩)] w fun e w' => ∃ P : List W64, e = .returned (.tuple #[]) ∧ P.length = 8 ∧ wseg P 0 8 = x.toNat * y.toNat ∧ RowW w' g 0 P ∧ But [g] w w' := by
  have HS : Hid (StU c p d q g x y w w L) := ⟨hx, hy, hL, But.refl _ _, h8⟩
  clear hx hy hL h8
  go_enter Try.func91, Try.ntmps91
  -- statement 2
  go_upto_region 2 with fail
  have x0 := HS.out.1.c0
  have y0 := HS.out.2.1.c0
  obtain ⟨c0, f0⟩ := HS.out.cell 0 (by decide)
  go_region_held3 (fun w' => w'.cell? ⟨c, p, none⟩ = some (V x.a) ∧ w'.cell? ⟨d, q, none⟩ = some (V y.a)) (first | exact ⟨x0, y0⟩ | exact ⟨far_cell (n := 1) x0 n1, far_cell (n := 1) y0 n2⟩) ((go_at_call 105; refine (mul64_ex _ _ _).mono ?_; rintro e w' ⟨hi2, lo2, rfl, E2, rfl⟩))
  have HE2 := Lib.hid E2
  clear E2 x0 y0
  clear c0 f0
  go_upto_region 3 with fail
  have HT := Lib.hid ((HS.out.store n1 n2 0 lo2 (by decide)).drew)
  clear HS
  generalize (w.setCell ⟨g, 0, none⟩ (V lo2)).drew = W2 at *
  have HS := HT
  clear HT
  -- statement 3
  go_upto_region 3 with fail
  have x0 := HS.out.1.c1
  have y0 := HS.out.2.1.c0
  go_region_held3 (fun w' => w'.cell? ⟨c, p + 1, none⟩ = some (V x.b) ∧ w'.cell? ⟨d, q, none⟩ = some (V y.a)) (first | exact ⟨x0, y0⟩ | exact ⟨far_cell (n := 1) x0 n1, far_cell (n := 1) y0 n2⟩) ((go_at_call 106; refine (hop_ex _ _ _ _).mono ?_; rintro e w' ⟨hi3, lo3, rfl, E3, rfl⟩))
  have HE3 := Lib.hid E3
  clear E3 x0 y0
  go_upto_region 4 with fail
  have HT := Lib.hid HS.out.drew
  clear HS
  generalize W2.drew = W3 at *
  have HS := HT
  clear HT
  -- statement 4
  go_upto_region 4 with fail
  have x0 := HS.out.1.c2
  have y0 := HS.out.2.1.c0
  go_region_held3 (fun w' => w'.cell? ⟨c, p + 2, none⟩ = some (V x.c) ∧ w'.cell? ⟨d, q, none⟩ = some (V y.a)) (first | exact ⟨x0, y0⟩ | exact ⟨far_cell (n := 1) x0 n1, far_cell (n := 1) y0 n2⟩) ((go_at_call 106; refine (hop_ex _ _ _ _).mono ?_; rintro e w' ⟨hi4, lo4, rfl, E4, rfl⟩))
  have HE4 := Lib.hid E4
  clear E4 x0 y0
  go_upto_region 5 with fail
  have HT := Lib.hid HS.out.drew
  clear HS
  generalize W3.drew = W4 at *
  have HS := HT
  clear HT
  -- statement 5
  go_upto_region 5 with fail
  have x0 := HS.out.1.c3
  have y0 := HS.out.2.1.c0
  go_region_held3 (fun w' => w'.cell? ⟨c, p + 3, none⟩ = some (V x.d) ∧ w'.cell? ⟨d, q, none⟩ = some (V y.a)) (first | exact ⟨x0, y0⟩ | exact ⟨far_cell (n := 1) x0 n1, far_cell (n := 1) y0 n2⟩) ((go_at_call 106; refine (hop_ex _ _ _ _).mono ?_; rintro e w' ⟨hi5, lo5, rfl, E5, rfl⟩))
  have HE5 := Lib.hid E5
  clear E5 x0 y0
  go_upto_region 6 with fail
  have HT := Lib.hid HS.out.drew
  clear HS
  generalize W4.drew = W5 at *
  have HS := HT
  clear HT
  -- statement 6
  go_upto_region 6 with fail
  have x0 := HS.out.1.c0
  have y0 := HS.out.2.1.c1
  obtain ⟨c1, f1⟩ := HS.out.cell 1 (by decide)
  go_region_held3 (fun w' => w'.cell? ⟨c, p, none⟩ = some (V x.a) ∧ w'.cell? ⟨d, q + 1, none⟩ = some (V y.b)) (first | exact ⟨x0, y0⟩ | exact ⟨far_cell (n := 1) x0 n1, far_cell (n := 1) y0 n2⟩) ((go_at_call 106; refine (hop_ex _ _ _ _).mono ?_; rintro e w' ⟨hi6, lo6, rfl, E6, rfl⟩))
  have HE6 := Lib.hid E6
  clear E6 x0 y0
  clear c1 f1
  go_upto_region 7 with fail
  have HT := Lib.hid ((HS.out.store n1 n2 1 lo6 (by decide)).drew)
  clear HS
  generalize (W5.setCell ⟨g, 1, none⟩ (V lo6)).drew = W6 at *
  have HS := HT
  clear HT
  -- statement 7
  go_upto_region 7 with fail
  have x0 := HS.out.1.c1
  have y0 := HS.out.2.1.c1
  go_region_held3 (fun w' => w'.cell? ⟨c, p + 1, none⟩ = some (V x.b) ∧ w'.cell? ⟨d, q + 1, none⟩ = some (V y.b)) (first | exact ⟨x0, y0⟩ | exact ⟨far_cell (n := 1) x0 n1, far_cell (n := 1) y0 n2⟩) ((go_at_call 107; refine (step_ex _ _ _ _ _).mono ?_; rintro e w' ⟨hi7, lo7, rfl, E7, rfl⟩))
  have HE7 := Lib.hid E7
  clear E7 x0 y0
  go_upto_region 8 with fail
  have HT := Lib.hid HS.out.drew
  clear HS
  generalize W6.drew = W7 at *
  have HS := HT
  clear HT
  -- statement 8
  go_upto_region 8 with fail
  have x0 := HS.out.1.c2
  have y0 := HS.out.2.1.c1
  go_region_held3 (fun w' => w'.cell? ⟨c, p + 2, none⟩ = some (V x.c) ∧ w'.cell? ⟨d, q + 1, none⟩ = some (V y.b)) (first | exact ⟨x0, y0⟩ | exact ⟨far_cell (n := 1) x0 n1, far_cell (n := 1) y0 n2⟩) ((go_at_call 107; refine (step_ex _ _ _ _ _).mono ?_; rintro e w' ⟨hi8, lo8, rfl, E8, rfl⟩))
  have HE8 := Lib.hid E8
  clear E8 x0 y0
  go_upto_region 9 with fail
  have HT := Lib.hid HS.out.drew
  clear HS
  generalize W7.drew = W8 at *
  have HS := HT
  clear HT
  -- statement 9
  go_upto_region 9 with fail
  have x0 := HS.out.1.c3
  have y0 := HS.out.2.1.c1
  go_region_held3 (fun w' => w'.cell? ⟨c, p + 3, none⟩ = some (V x.d) ∧ w'.cell? ⟨d, q + 1, none⟩ = some (V y.b)) (first | exact ⟨x0, y0⟩ | exact ⟨far_cell (n := 1) x0 n1, far_cell (n := 1) y0 n2⟩) ((go_at_call 107; refine (step_ex _ _ _ _ _).mono ?_; rintro e w' ⟨hi9, lo9, rfl, E9, rfl⟩))
  have HE9 := Lib.hid E9
  clear E9 x0 y0
  go_upto_region 10 with fail
  have HT := Lib.hid HS.out.drew
  clear HS
  generalize W8.drew = W9 at *
  have HS := HT
  clear HT
  -- statement 10
  go_upto_region 10 with fail
  have x0 := HS.out.1.c0
  have y0 := HS.out.2.1.c2
  obtain ⟨c2, f2⟩ := HS.out.cell 2 (by decide)
  go_region_held3 (fun w' => w'.cell? ⟨c, p, none⟩ = some (V x.a) ∧ w'.cell? ⟨d, q + 2, none⟩ = some (V y.c)) (first | exact ⟨x0, y0⟩ | exact ⟨far_cell (n := 1) x0 n1, far_cell (n := 1) y0 n2⟩) ((go_at_call 106; refine (hop_ex _ _ _ _).mono ?_; rintro e w' ⟨hi10, lo10, rfl, E10, rfl⟩))
  have HE10 := Lib.hid E10
  clear E10 x0 y0
  clear c2 f2
  go_upto_region 11 with fail
  have HT := Lib.hid ((HS.out.store n1 n2 2 lo10 (by decide)).drew)
  clear HS
  generalize (W9.setCell ⟨g, 2, none⟩ (V lo10)).drew = W10 at *
  have HS := HT
  clear HT
  -- statement 11
  go_upto_region 11 with fail
  have x0 := HS.out.1.c1
  have y0 := HS.out.2.1.c2
  go_region_held3 (fun w' => w'.cell? ⟨c, p + 1, none⟩ = some (V x.b) ∧ w'.cell? ⟨d, q + 2, none⟩ = some (V y.c)) (first | exact ⟨x0, y0⟩ | exact ⟨far_cell (n := 1) x0 n1, far_cell (n := 1) y0 n2⟩) ((go_at_call 107; refine (step_ex _ _ _ _ _).mono ?_; rintro e w' ⟨hi11, lo11, rfl, E11, rfl⟩))
  have HE11 := Lib.hid E11
  clear E11 x0 y0
  go_upto_region 12 with fail
  have HT := Lib.hid HS.out.drew
  clear HS
  generalize W10.drew = W11 at *
  have HS := HT
  clear HT
  -- statement 12
  go_upto_region 12 with fail
  have x0 := HS.out.1.c2
  have y0 := HS.out.2.1.c2
  go_region_held3 (fun w' => w'.cell? ⟨c, p + 2, none⟩ = some (V x.c) ∧ w'.cell? ⟨d, q + 2, none⟩ = some (V y.c)) (first | exact ⟨x0, y0⟩ | exact ⟨far_cell (n := 1) x0 n1, far_cell (n := 1) y0 n2⟩) ((go_at_call 107; refine (step_ex _ _ _ _ _).mono ?_; rintro e w' ⟨hi12, lo12, rfl, E12, rfl⟩))
  have HE12 := Lib.hid E12
  clear E12 x0 y0
  go_upto_region 13 with fail
  have HT := Lib.hid HS.out.drew
  clear HS
  generalize W11.drew = W12 at *
  have HS := HT
  clear HT
  -- statement 13
  go_upto_region 13 with fail
  have x0 := HS.out.1.c3
  have y0 := HS.out.2.1.c2
  go_region_held3 (fun w' => w'.cell? ⟨c, p + 3, none⟩ = some (V x.d) ∧ w'.cell? ⟨d, q + 2, none⟩ = some (V y.c)) (first | exact ⟨x0, y0⟩ | exact ⟨far_cell (n := 1) x0 n1, far_cell (n := 1) y0 n2⟩) ((go_at_call 107; refine (step_ex _ _ _ _ _).mono ?_; rintro e w' ⟨hi13, lo13, rfl, E13, rfl⟩))
  have HE13 := Lib.hid E13
  clear E13 x0 y0
  go_upto_region 14 with fail
  have HT := Lib.hid HS.out.drew
  clear HS
  generalize W12.drew = W13 at *
  have HS := HT
  clear HT
  -- statement 14
  go_upto_region 14 with fail
  have x0 := HS.out.1.c0
  have y0 := HS.out.2.1.c3
  obtain ⟨c3, f3⟩ := HS.out.cell 3 (by decide)
  go_region_held3 (fun w' => w'.cell? ⟨c, p, none⟩ = some (V x.a) ∧ w'.cell? ⟨d, q + 3, none⟩ = some (V y.d)) (first | exact ⟨x0, y0⟩ | exact ⟨far_cell (n := 1) x0 n1, far_cell (n := 1) y0 n2⟩) ((go_at_call 106; refine (hop_ex _ _ _ _).mono ?_; rintro e w' ⟨hi14, lo14, rfl, E14, rfl⟩))
  have HE14 := Lib.hid E14
  clear E14 x0 y0
  clear c3 f3
  go_upto_region 15 with fail
  have HT := Lib.hid ((HS.out.store n1 n2 3 lo14 (by decide)).drew)
  clear HS
  generalize (W13.setCell ⟨g, 3, none⟩ (V lo14)).drew = W14 at *
  have HS := HT
  clear HT
  -- statement 15
  go_upto_region 15 with fail
  have x0 := HS.out.1.c1
  have y0 := HS.out.2.1.c3
  obtain ⟨c4, f4⟩ := HS.out.cell 4 (by decide)
  go_region_held3 (fun w' => w'.cell? ⟨c, p + 1, none⟩ = some (V x.b) ∧ w'.cell? ⟨d, q + 3, none⟩ = some (V y.d)) (first | exact ⟨x0, y0⟩ | exact ⟨far_cell (n := 1) x0 n1, far_cell (n := 1) y0 n2⟩) ((go_at_call 107; refine (step_ex _ _ _ _ _).mono ?_; rintro e w' ⟨hi15, lo15, rfl, E15, rfl⟩))
  have HE15 := Lib.hid E15
  clear E15 x0 y0
  clear c4 f4
  go_upto_region 16 with fail
  have HT := Lib.hid ((HS.out.store n1 n2 4 lo15 (by decide)).drew)
  clear HS
  generalize (W14.setCell ⟨g, 4, none⟩ (V lo15)).drew = W15 at *
  have HS := HT
  clear HT
  -- statement 16
  go_upto_region 16 with fail
  have x0 := HS.out.1.c2
  have y0 := HS.out.2.1.c3
  obtain ⟨c5, f5⟩ := HS.out.cell 5 (by decide)
  go_region_held3 (fun w' => w'.cell? ⟨c, p + 2, none⟩ = some (V x.c) ∧ w'.cell? ⟨d, q + 3, none⟩ = some (V y.d)) (first | exact ⟨x0, y0⟩ | exact ⟨far_cell (n := 1) x0 n1, far_cell (n := 1) y0 n2⟩) ((go_at_call 107; refine (step_ex _ _ _ _ _).mono ?_; rintro e w' ⟨hi16, lo16, rfl, E16, rfl⟩))
  have HE16 := Lib.hid E16
  clear E16 x0 y0
  clear c5 f5
  go_upto_region 17 with fail
  have HT := Lib.hid ((HS.out.store n1 n2 5 lo16 (by decide)).drew)
  clear HS
  generalize (W15.setCell ⟨g, 5, none⟩ (V lo16)).drew = W16 at *
  have HS := HT
  clear HT
  -- statement 17
  go_upto_region 17 with fail
  have x0 := HS.out.1.c3
  have y0 := HS.out.2.1.c3
  obtain ⟨c7, f7⟩ := HS.out.cell 7 (by decide)
  obtain ⟨c6, f6⟩ := HS.out.cell 6 (by decide)
  go_region_held3 (fun w' => w'.cell? ⟨c, p + 3, none⟩ = some (V x.d) ∧ w'.cell? ⟨d, q + 3, none⟩ = some (V y.d)) (first | exact ⟨x0, y0⟩ | exact ⟨far_cell (n := 1) x0 n1, far_cell (n := 1) y0 n2⟩ | exact ⟨far_cell (n := 1) (far_cell (n := 0) x0 n1) n1, far_cell (n := 1) (far_cell (n := 0) y0 n2) n2⟩) ((go_at_call 107; refine (step_ex _ _ _ _ _).mono ?_; rintro e w' ⟨hi17, lo17, rfl, E17, rfl⟩))
  have HE17 := Lib.hid E17
  clear E17 x0 y0
  clear c7 f7 c6 f6
  have HT := Lib.hid (((HS.out.store n1 n2 7 hi17 (by decide)).store n1 n2 6 lo17 (by decide)).drew)
  have h8 : L.length = 8 := by have := HS.out.2.2.2.2; simpa using this
  have hv := wseg_eight h8 lo2 lo6 lo10 lo14 lo15 lo16 lo17 hi17
  have hs := umul_sum _ _ _ _ _ _ _ _ _ _ _ _ _ _ _ _ _ _ _ _ _ _ _ _ _ _ _ _ _ _ _ _ _ _ _ _ _ _ _ _ _ _ _ _ _ _ _ _ HE2.out HE3.out HE4.out HE5.out HE6.out HE7.out HE8.out HE9.out HE10.out HE11.out HE12.out HE13.out HE14.out HE15.out HE16.out HE17.out
  rw [hs, ← full_whole] at hv
  have HV := Lib.hid hv
  clear hv hs h8 HS
  go_wp2
  go_end0
  exact ⟨_, rfl, HT.out.2.2.2.2, HV.out, HT.out.2.2.1, HT.out.2.2.2.1⟩
end Go.Proofs.Ytbmlbjpiodiihaa
