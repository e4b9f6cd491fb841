/-
  For every two numbers: where y is not 0, DivMod gives Div and Mod, the quotient times y and the rest are x, and the rest is below y (the statement FnDivModFitsSaid, no conditions).
-/
import Derived.Test.YtoojfokhaennoaaOpen
import Derived.Test.YtoojfokhaennoaaLawOne
import Derived.Test.YtoojfokhaennoaaLawOpsMul
import Derived.Test.YtoojfokhaennoaaArith
import Derived.Test.YtoojfokhaennoaaEql2
import Derived.Test.YtoojfokhaennoaaDesk8
import Derived.Test.YtoojfokhaennoaaDesk10
import Derived.Test.YtoojfokhaennoaaRegion2
import Derived.Test.YtoojfokhaennoaaImpl0
namespace Go.Proofs.Ytoojfokhaennoaa.fnDivModFits
set_option maxRecDepth 20000
open Go.ChangeShapes Go.WideShapes Go.ChangeAt Go.RowKit
set_option linter.unusedVariables false
set_option linter.unusedSimpArgs false

theorem arrayN56 {l : Array Value} (h : l.size = 56) : ∃ x0 x1 x2 x3 x4 x5 x6 x7 x8 x9 x10 x11 x12 x13 x14 x15 x16 x17 x18 x19 x20 x21 x22 x23 x24 x25 x26 x27 x28 x29 x30 x31 x32 x33 x34 x35 x36 x37 x38 x39 x40 x41 x42 x43 x44 x45 x46 x47 x48 x49 x50 x51 x52 x53 x54 x55, l = #[x0, x1, x2, x3, x4, x5, x6, x7, x8, x9, x10, x11, x12, x13, x14, x15, x16, x17, x18, x19, x20, x21, x22, x23, x24, x25, x26, x27, x28, x29, x30, x31, x32, x33, x34, x35, x36, x37, x38, x39, x40, x41, x42, x43, x44, x45, x46, x47, x48, x49, x50, x51, x52, x53, x54, x55] := by
  obtain ⟨l⟩ := l
  have h0 : l.length = 55 + 1 := h
  clear h
  obtain ⟨x0, l1, rfl, h1⟩ := cons_of h0
  obtain ⟨x1, l2, rfl, h2⟩ := cons_of h1
  obtain ⟨x2, l3, rfl, h3⟩ := cons_of h2
  obtain ⟨x3, l4, rfl, h4⟩ := cons_of h3
  obtain ⟨x4, l5, rfl, h5⟩ := cons_of h4
  obtain ⟨x5, l6, rfl, h6⟩ := cons_of h5
  obtain ⟨x6, l7, rfl, h7⟩ := cons_of h6
  obtain ⟨x7, l8, rfl, h8⟩ := cons_of h7
  obtain ⟨x8, l9, rfl, h9⟩ := cons_of h8
  obtain ⟨x9, l10, rfl, h10⟩ := cons_of h9
  obtain ⟨x10, l11, rfl, h11⟩ := cons_of h10
  obtain ⟨x11, l12, rfl, h12⟩ := cons_of h11
  obtain ⟨x12, l13, rfl, h13⟩ := cons_of h12
  obtain ⟨x13, l14, rfl, h14⟩ := cons_of h13
  obtain ⟨x14, l15, rfl, h15⟩ := cons_of h14
  obtain ⟨x15, l16, rfl, h16⟩ := cons_of h15
  obtain ⟨x16, l17, rfl, h17⟩ := cons_of h16
  obtain ⟨x17, l18, rfl, h18⟩ := cons_of h17
  obtain ⟨x18, l19, rfl, h19⟩ := cons_of h18
  obtain ⟨x19, l20, rfl, h20⟩ := cons_of h19
  obtain ⟨x20, l21, rfl, h21⟩ := cons_of h20
  obtain ⟨x21, l22, rfl, h22⟩ := cons_of h21
  obtain ⟨x22, l23, rfl, h23⟩ := cons_of h22
  obtain ⟨x23, l24, rfl, h24⟩ := cons_of h23
  obtain ⟨x24, l25, rfl, h25⟩ := cons_of h24
  obtain ⟨x25, l26, rfl, h26⟩ := cons_of h25
  obtain ⟨x26, l27, rfl, h27⟩ := cons_of h26
  obtain ⟨x27, l28, rfl, h28⟩ := cons_of h27
  obtain ⟨x28, l29, rfl, h29⟩ := cons_of h28
  obtain ⟨x29, l30, rfl, h30⟩ := cons_of h29
  obtain ⟨x30, l31, rfl, h31⟩ := cons_of h30
  obtain ⟨x31, l32, rfl, h32⟩ := cons_of h31
  obtain ⟨x32, l33, rfl, h33⟩ := cons_of h32
  obtain ⟨x33, l34, rfl, h34⟩ := cons_of h33
  obtain ⟨x34, l35, rfl, h35⟩ := cons_of h34
  obtain ⟨x35, l36, rfl, h36⟩ := cons_of h35
  obtain ⟨x36, l37, rfl, h37⟩ := cons_of h36
  obtain ⟨x37, l38, rfl, h38⟩ := cons_of h37
  obtain ⟨x38, l39, rfl, h39⟩ := cons_of h38
  obtain ⟨x39, l40, rfl, h40⟩ := cons_of h39
  obtain ⟨x40, l41, rfl, h41⟩ := cons_of h40
  obtain ⟨x41, l42, rfl, h42⟩ := cons_of h41
  obtain ⟨x42, l43, rfl, h43⟩ := cons_of h42
  obtain ⟨x43, l44, rfl, h44⟩ := cons_of h43
  obtain ⟨x44, l45, rfl, h45⟩ := cons_of h44
  obtain ⟨x45, l46, rfl, h46⟩ := cons_of h45
  obtain ⟨x46, l47, rfl, h47⟩ := cons_of h46
  obtain ⟨x47, l48, rfl, h48⟩ := cons_of h47
  obtain ⟨x48, l49, rfl, h49⟩ := cons_of h48
  obtain ⟨x49, l50, rfl, h50⟩ := cons_of h49
  obtain ⟨x50, l51, rfl, h51⟩ := cons_of h50
  obtain ⟨x51, l52, rfl, h52⟩ := cons_of h51
  obtain ⟨x52, l53, rfl, h53⟩ := cons_of h52
  obtain ⟨x53, l54, rfl, h54⟩ := cons_of h53
  obtain ⟨x54, l55, rfl, h55⟩ := cons_of h54
  obtain ⟨x55, l56, rfl, h56⟩ := cons_of h55
  cases l56 with
  | nil => exact ⟨x0, x1, x2, x3, x4, x5, x6, x7, x8, x9, x10, x11, x12, x13, x14, x15, x16, x17, x18, x19, x20, x21, x22, x23, x24, x25, x26, x27, x28, x29, x30, x31, x32, x33, x34, x35, x36, x37, x38, x39, x40, x41, x42, x43, x44, x45, x46, x47, x48, x49, x50, x51, x52, x53, x54, x55, rfl⟩
  | cons a t => simp at h56
def VF1 (x : N4) (y : N4) (q : N4) (r : N4) (ga : Nat) : Nat → Value → World → Prop
  | 0, v, w => v = .pointer (some ⟨ga, 0, none⟩)
  | 1, v, w => v = .pointer (some ⟨ga, 0, none⟩)
  | 2, v, w => v = q.v
  | 3, v, w => v = .pointer (some ⟨ga, 0, none⟩)
  | 4, v, w => v = .pointer (some ⟨ga, 12, none⟩)
  | 5, v, w => v = r.v
  | 6, v, w => ∃ B, v = .pointer (some ⟨B, 0, none⟩) ∧ w.there B 0 4
  | 7, v, w => ∃ B, v = .pointer (some ⟨B, 0, none⟩) ∧ w.there B 0 4
  | 8, v, w => ∃ B, v = .pointer (some ⟨B, 0, none⟩) ∧ At4 w B 0 (q)
  | 9, v, w => ∃ B, v = .pointer (some ⟨B, 0, none⟩) ∧ At4 w B 0 (r)
  | _, _, _ => False
theorem VF1_mono (x : N4) (y : N4) (q : N4) (r : N4) (ga : Nat) : ∀ j v w w', Below w.heap.size w w' → VF1 x y q r ga j v w → VF1 x y q r ga j v w' := by
  intro j v w w' hb h
  match j, h with
  | 0, h => exact h
  | 1, h => exact h
  | 2, h => exact h
  | 3, h => exact h
  | 4, h => exact h
  | 5, h => exact h
  | 6, h => obtain ⟨B, rfl, h1⟩ := h; exact ⟨B, rfl, there_bel h1 (by omega) hb⟩
  | 7, h => obtain ⟨B, rfl, h1⟩ := h; exact ⟨B, rfl, there_bel h1 (by omega) hb⟩
  | 8, h => obtain ⟨B, rfl, h1⟩ := h; exact ⟨B, rfl, At4.bel h1 hb⟩
  | 9, h => obtain ⟨B, rfl, h1⟩ := h; exact ⟨B, rfl, At4.bel h1 hb⟩
attribute [local go_sem ↓] fldAns fldA
set_option maxRecDepth 20000 in
set_option maxHeartbeats 8000000 in
theorem walk (x y : N4) (w : World) : Calls Try.prog 8 #[x.v, y.v] w (RetBel (.bool true) w) := by
  cases hz : y.eqb ⟨0#64, 0#64, 0#64, 0#64⟩
  case true =>
    go_enter Try.func8, Try.ntmps8
    go_wp2
    go_ret
    exact retBel rfl (bel_alloc (bel_alloc (bel_refl w) _) _)
  have hy0 : 0 < y.toNat := by
    rcases Nat.eq_zero_or_pos y.toNat with h | h
    · rw [eqb_zero, (isZ_iff y).2 h] at hz; cases hz
    · exact h
  obtain ⟨q, hq⟩ : ∃ q, q = ofN (x.toNat / y.toNat) := ⟨_, rfl⟩
  obtain ⟨r, hr⟩ : ∃ r, r = remN x y := ⟨_, rfl⟩
  have tq : q.toNat = x.toNat / y.toNat := by
    rw [hq, ofN_toNat]
    exact Nat.mod_eq_of_lt (Nat.lt_of_le_of_lt (Nat.div_le_self _ _) (toNat_lt x))
  have tr : r.toNat = x.toNat % y.toNat := by
    rw [hr]; unfold remN
    rw [if_neg (by omega), ofN_toNat]
    exact Nat.mod_eq_of_lt (Nat.lt_of_le_of_lt (Nat.mod_le _ _) (toNat_lt x))
  have g0 : q.eqb q = true := eqb_self _
  have g1 : r.eqb r = true := eqb_self _
  have g2 : ((q.mul y).add r).eqb x = true := (eqb_iff _ _).2 (toNat_inj (by
    have dm := Nat.div_add_mod x.toNat y.toNat
    rw [Nat.mul_comm] at dm
    rw [add_toNat, mul_toNat, tq, tr, Nat.mod_add_mod, dm]
    exact Nat.mod_eq_of_lt (toNat_lt x)))
  have g3 : r.ltc y = true := by
    rw [ltc_eq, tr]
    exact decide_eq_true (Nat.mod_lt _ hy0)
  have DM : Hid (∀ w, Calls Try.prog 30 #[freshW.v, .agg #[.int .u64 0, .int .u64 0, .int .u64 0, .int .u64 0, V x.a, V x.b, V x.c, V x.d, V y.a, V y.b, V y.c, V y.d, .int .u64 0, .int .u64 0, .int .u64 0, .int .u64 0]] w (RetBel (ansV ⟨q, x, y, r⟩ false) w)) := fun w => by
    rw [hq, hr]
    exact implDivMod_any freshW (xyC x y) w freshW_ok (by decide)
  have D10 : ∀ w, Calls Try.prog 31 #[freshW.v, .agg #[.int .u64 0, .int .u64 0, .int .u64 0, .int .u64 0, V x.a, V x.b, V x.c, V x.d, V y.a, V y.b, V y.c, V y.d, .int .u64 0, .int .u64 0, .int .u64 0, .int .u64 0]] w (RetBel (ansV ⟨q, x, y, nulN⟩ false) w) := fun w => (by rw [hq]; exact implDiv_any freshW (xyC x y) w freshW_ok)
  have D1 := Lib.hid D10
  clear D10
  have R10 : ∀ w, Calls Try.prog 29 #[freshW.v, .agg #[.int .u64 0, .int .u64 0, .int .u64 0, .int .u64 0, V x.a, V x.b, V x.c, V x.d, V y.a, V y.b, V y.c, V y.d, .int .u64 0, .int .u64 0, .int .u64 0, .int .u64 0]] w (RetBel (ansV ⟨r, x, y, nulN⟩ false) w) := fun w => (by rw [hr]; exact implMod_any freshW (xyC x y) w freshW_ok)
  have R1 := Lib.hid R10
  clear R10
  have M1 : Hid (∀ w, Calls Try.prog 22 #[q.v, y.v] w (RetBel (N4.v (q.mul y)) w)) := fun w => mul_law q y w
  have A1 : Hid (∀ w, Calls Try.prog 24 #[(q.mul y).v, r.v] w (RetBel (N4.v ((q.mul y).add r)) w)) := fun w => add_law (q.mul y) r w
  have T1 : Hid (∀ w, Calls Try.prog 32 #[r.v, y.v] w (RetBel (.bool (r.ltc y)) w)) := fun w => implLt_any r y w
  clear hq hr tq tr hy0
  go_enter Try.func8, Try.ntmps8
  go_wp2_with fail
  refine (DM.out _).mono ?_
  rintro e w1 ⟨rfl, hb1⟩
  have belw0 : Hid (Below w.heap.size w w1) := bel_trans (bel_alloc (bel_alloc (bel_refl w) _) _) hb1
  have hx1 : Hid (At4 w1 w.heap.size 0 x) := At4.bel (a := ((w.alloc (Obj.cells #[V x.a, V x.b, V x.c, V x.d] 26)).alloc (Obj.cells #[V y.a, V y.b, V y.c, V y.d] 26))) (by constructor <;> simp [go_sem]) hb1
  have hy1 : Hid (At4 w1 (w.heap.size + 1) 0 y) := At4.bel (a := ((w.alloc (Obj.cells #[V x.a, V x.b, V x.c, V x.d] 26)).alloc (Obj.cells #[V y.a, V y.b, V y.c, V y.d] 26))) (by constructor <;> simp [go_sem]) hb1
  clear hb1
  have hth : (w1.alloc (Obj.cells #[.int .u64 0, .int .u64 0, .int .u64 0, .int .u64 0, .int .u64 0, .int .u64 0, .int .u64 0, .int .u64 0, .int .u64 0, .int .u64 0, .int .u64 0, .int .u64 0, .int .u64 0, .int .u64 0, .int .u64 0, .int .u64 0, .bool false] 31)).there w1.heap.size 0 17 := there_at _ _ _ _ _ (by simp) (by simp [go_sem])
  go_wp2_with (refine wpList_store_mid rfl 31 _ _ rfl w1.heap.size 0 ((C4.mk q x y r).l ++ [Value.bool false]).toArray rfl rfl hth (by kernel_rfl) (by simp [Value.oneCell']) ?_)
  have RG := World.rangeAt_setCells_same (w1.alloc (Obj.cells #[.int .u64 0, .int .u64 0, .int .u64 0, .int .u64 0, .int .u64 0, .int .u64 0, .int .u64 0, .int .u64 0, .int .u64 0, .int .u64 0, .int .u64 0, .int .u64 0, .int .u64 0, .int .u64 0, .int .u64 0, .int .u64 0, .bool false] 31)) w1.heap.size 0 ((C4.mk q x y r).l ++ [Value.bool false]) hth
  have hq2 : Hid (At4 ((w1.alloc (Obj.cells #[.int .u64 0, .int .u64 0, .int .u64 0, .int .u64 0, .int .u64 0, .int .u64 0, .int .u64 0, .int .u64 0, .int .u64 0, .int .u64 0, .int .u64 0, .int .u64 0, .int .u64 0, .int .u64 0, .int .u64 0, .int .u64 0, .bool false] 31)).setCells w1.heap.size 0 ((C4.mk q x y r).l ++ [Value.bool false])) w1.heap.size 0 q) := ⟨RG 0 _ rfl, RG 1 _ rfl, RG 2 _ rfl, RG 3 _ rfl⟩
  have hr2 : Hid (At4 ((w1.alloc (Obj.cells #[.int .u64 0, .int .u64 0, .int .u64 0, .int .u64 0, .int .u64 0, .int .u64 0, .int .u64 0, .int .u64 0, .int .u64 0, .int .u64 0, .int .u64 0, .int .u64 0, .int .u64 0, .int .u64 0, .int .u64 0, .int .u64 0, .bool false] 31)).setCells w1.heap.size 0 ((C4.mk q x y r).l ++ [Value.bool false])) w1.heap.size 12 r) := ⟨RG 12 _ rfl, RG 13 _ rfl, RG 14 _ rfl, RG 15 _ rfl⟩
  have hx2 := Lib.hid ((hx1.out.alloc (Obj.cells #[.int .u64 0, .int .u64 0, .int .u64 0, .int .u64 0, .int .u64 0, .int .u64 0, .int .u64 0, .int .u64 0, .int .u64 0, .int .u64 0, .int .u64 0, .int .u64 0, .int .u64 0, .int .u64 0, .int .u64 0, .int .u64 0, .bool false] 31)).setFar4 (g := w1.heap.size) (k := 0) (cs := (C4.mk q x y r).l ++ [Value.bool false]) (by have := hx1.out.lt; omega))
  have hy2 := Lib.hid ((hy1.out.alloc (Obj.cells #[.int .u64 0, .int .u64 0, .int .u64 0, .int .u64 0, .int .u64 0, .int .u64 0, .int .u64 0, .int .u64 0, .int .u64 0, .int .u64 0, .int .u64 0, .int .u64 0, .int .u64 0, .int .u64 0, .int .u64 0, .int .u64 0, .bool false] 31)).setFar4 (g := w1.heap.size) (k := 0) (cs := (C4.mk q x y r).l ++ [Value.bool false]) (by have := hy1.out.lt; omega))
  have belw := setCells_bel (B := w1.heap.size) (o := 0) (vs := (C4.mk q x y r).l ++ [Value.bool false]) (bel_alloc belw0.out (Obj.cells #[.int .u64 0, .int .u64 0, .int .u64 0, .int .u64 0, .int .u64 0, .int .u64 0, .int .u64 0, .int .u64 0, .int .u64 0, .int .u64 0, .int .u64 0, .int .u64 0, .int .u64 0, .int .u64 0, .int .u64 0, .int .u64 0, .bool false] 31)) belw0.out.size
  clear RG hth hx1 hy1 belw0
  generalize (w1.alloc (Obj.cells #[.int .u64 0, .int .u64 0, .int .u64 0, .int .u64 0, .int .u64 0, .int .u64 0, .int .u64 0, .int .u64 0, .int .u64 0, .int .u64 0, .int .u64 0, .int .u64 0, .int .u64 0, .int .u64 0, .int .u64 0, .int .u64 0, .bool false] 31)).setCells w1.heap.size 0 ((C4.mk q x y r).l ++ [Value.bool false]) = W at *
  generalize w1.heap.size = ga at *
  obtain ⟨q0, q1, q2, q3⟩ := hq2.out
  obtain ⟨r0, r1, r2, r3⟩ := hr2.out
  simp only [Nat.zero_add, Nat.reduceAdd] at q1 q2 q3 r1 r2 r3
  have lx := hx2.out.lt
  have ly := hy2.out.lt
  have b0 : ∀ o, W.cell? ⟨w.heap.size, o, none⟩ = W.cell? ⟨w.heap.size, o, none⟩ := fun o => rfl
  have b1 : ∀ o, W.cell? ⟨w.heap.size + 1, o, none⟩ = W.cell? ⟨w.heap.size + 1, o, none⟩ := fun o => rfl
  clear hq2 hr2
  simp only [Act.put]
  refine wp_region_all (by kernel_rfl) (GA [16, 17, 18, 19, 20, 21, 6, 7] [6, 7] [] _ _ _) (FV (fun i => [16, 17, 18, 19, 20, 21, 6, 7, 6, 7].getD i 0) (VF1 x y q r ga)) (all_ord (by kernel_rfl)) (GA.start (by simp)) ?_ ?_
  · intro j o ho a' w' hG hpre
    have hj : j < 10 := getElem?_lt ho
    have hb := hG.bel
    have s0 := hG.frame.rest 2 (by decide)
    have hc0 := fun o => (hb.cell (p := ⟨w.heap.size, o, none⟩) (show w.heap.size < _ by omega)).trans (b0 o)
    have s1 := hG.frame.rest 3 (by decide)
    have hc1 := fun o => (hb.cell (p := ⟨w.heap.size + 1, o, none⟩) (show w.heap.size + 1 < _ by omega)).trans (b1 o)
    simp [go_sem] at s0 s1
    have t5 := hG.frame.rest 5 (by decide)
    simp [go_sem] at t5
    have m0 := bel_cell hb q0
    have m1 := bel_cell hb q1
    have m2 := bel_cell hb q2
    have m3 := bel_cell hb q3
    have n0 := bel_cell hb r0
    have n1 := bel_cell hb r1
    have n2 := bel_cell hb r2
    have n3 := bel_cell hb r3
    match j, hj with
    | 0, _ =>
      cases ho
      refine all_val rfl rfl rfl hG (by decide) (by decide) (by simp) rfl (by kernel_rfl) (VF1_mono _ _ _ _ _) ?_
      refine step_val (v := .pointer (some ⟨ga, 0, none⟩)) (w' := w') ?_ ⟨rfl, bel_refl _⟩
      simp [execOp, Act.eval, t5, go_sem]
    | 1, _ =>
      cases ho
      refine all_val rfl rfl rfl hG (by decide) (by decide) (by simp) rfl (by kernel_rfl) (VF1_mono _ _ _ _ _) ?_
      obtain ⟨v0, e0, rfl⟩ := FV.get (d := 16) (hpre ⟨0, .data⟩ (by simp) rfl) rfl
      refine step_val (v := .pointer (some ⟨ga, 0, none⟩)) (w' := w') ?_ ⟨rfl, bel_refl _⟩
      simp [execOp, Act.eval, e0, go_sem]
    | 2, _ =>
      cases ho
      refine all_val rfl rfl rfl hG (by decide) (by decide) (by simp) rfl (by kernel_rfl) (VF1_mono _ _ _ _ _) ?_
      obtain ⟨v0, e0, rfl⟩ := FV.get (d := 17) (hpre ⟨1, .data⟩ (by simp) rfl) rfl
      refine step_val (v := q.v) (w' := w') ?_ ⟨rfl, bel_refl _⟩
      simp [execOp, Act.eval, e0, m0, m1, m2, m3, go_sem]
    | 3, _ =>
      cases ho
      refine all_val rfl rfl rfl hG (by decide) (by decide) (by simp) rfl (by kernel_rfl) (VF1_mono _ _ _ _ _) ?_
      refine step_val (v := .pointer (some ⟨ga, 0, none⟩)) (w' := w') ?_ ⟨rfl, bel_refl _⟩
      simp [execOp, Act.eval, t5, go_sem]
    | 4, _ =>
      cases ho
      refine all_val rfl rfl rfl hG (by decide) (by decide) (by simp) rfl (by kernel_rfl) (VF1_mono _ _ _ _ _) ?_
      obtain ⟨v0, e0, rfl⟩ := FV.get (d := 19) (hpre ⟨3, .data⟩ (by simp) rfl) rfl
      refine step_val (v := .pointer (some ⟨ga, 12, none⟩)) (w' := w') ?_ ⟨rfl, bel_refl _⟩
      simp [execOp, Act.eval, e0, go_sem]
    | 5, _ =>
      cases ho
      refine all_val rfl rfl rfl hG (by decide) (by decide) (by simp) rfl (by kernel_rfl) (VF1_mono _ _ _ _ _) ?_
      obtain ⟨v0, e0, rfl⟩ := FV.get (d := 20) (hpre ⟨4, .data⟩ (by simp) rfl) rfl
      refine step_val (v := r.v) (w' := w') ?_ ⟨rfl, bel_refl _⟩
      simp [execOp, Act.eval, e0, n0, n1, n2, n3, go_sem]
    | 6, _ =>
      cases ho
      refine all_alloc (.cells #[.int .u64 0, .int .u64 0, .int .u64 0, .int .u64 0] 26) rfl rfl rfl hG (by decide) (by simp) rfl (by kernel_rfl) (VF1_mono _ _ _ _ _) ?_ ⟨_, rfl, there_new _ _ _ _ (by simp)⟩
      simp [execOp, Act.eval, go_sem]
    | 7, _ =>
      cases ho
      refine all_alloc (.cells #[.int .u64 0, .int .u64 0, .int .u64 0, .int .u64 0] 26) rfl rfl rfl hG (by decide) (by simp) rfl (by kernel_rfl) (VF1_mono _ _ _ _ _) ?_ ⟨_, rfl, there_new _ _ _ _ (by simp)⟩
      simp [execOp, Act.eval, go_sem]
    | 8, _ =>
      cases ho
      obtain ⟨vp, ep, B, rfl, hth⟩ := FV.get (d := 6) (hpre ⟨6, .data⟩ (by simp) rfl) rfl
      obtain ⟨vx, ex, rfl⟩ := FV.get (d := 18) (hpre ⟨2, .data⟩ (by simp) rfl) rfl
      refine all_store 26 _ _ rfl B 0 [V (q).a, V (q).b, V (q).c, V (q).d] rfl rfl rfl hG rfl ep (by simp [Act.eval, ep]) (by simp [Act.eval, ex]) hth (hG.apart.1 6 (by decide) B 0 ep).1 (by kernel_rfl) (by simp [Value.oneCell']) ⟨B, rfl, At4.setNew hth⟩ ?_
      intro i u hij hi hu hv
      match i, hi with
      | 0, _ => exact (show u = .pointer (some ⟨ga, 0, none⟩) from hv)
      | 1, _ => exact (show u = .pointer (some ⟨ga, 0, none⟩) from hv)
      | 2, _ => exact (show u = q.v from hv)
      | 3, _ => exact (show u = .pointer (some ⟨ga, 0, none⟩) from hv)
      | 4, _ => exact (show u = .pointer (some ⟨ga, 12, none⟩) from hv)
      | 5, _ => exact (show u = r.v from hv)
      | 6, _ => obtain ⟨B2, rfl, h⟩ := hv; exact ⟨B2, rfl, World.there_setCells h _ _ _⟩
      | 7, _ => obtain ⟨B2, rfl, h⟩ := hv; exact ⟨B2, rfl, World.there_setCells h _ _ _⟩
      | 8, _ => exact absurd rfl hij
      | 9, _ => obtain ⟨B2, rfl, h⟩ := hv; exact ⟨B2, rfl, h.setFar4 (hG.apart.2 7 (by decide) 6 (by decide) (by decide) _ _ _ _ hu ep)⟩
      | i + 10, hi => exact absurd hi (by simp)
    | 9, _ =>
      cases ho
      obtain ⟨vp, ep, B, rfl, hth⟩ := FV.get (d := 7) (hpre ⟨7, .data⟩ (by simp) rfl) rfl
      obtain ⟨vx, ex, rfl⟩ := FV.get (d := 21) (hpre ⟨5, .data⟩ (by simp) rfl) rfl
      refine all_store 26 _ _ rfl B 0 [V (r).a, V (r).b, V (r).c, V (r).d] rfl rfl rfl hG rfl ep (by simp [Act.eval, ep]) (by simp [Act.eval, ex]) hth (hG.apart.1 7 (by decide) B 0 ep).1 (by kernel_rfl) (by simp [Value.oneCell']) ⟨B, rfl, At4.setNew hth⟩ ?_
      intro i u hij hi hu hv
      match i, hi with
      | 0, _ => exact (show u = .pointer (some ⟨ga, 0, none⟩) from hv)
      | 1, _ => exact (show u = .pointer (some ⟨ga, 0, none⟩) from hv)
      | 2, _ => exact (show u = q.v from hv)
      | 3, _ => exact (show u = .pointer (some ⟨ga, 0, none⟩) from hv)
      | 4, _ => exact (show u = .pointer (some ⟨ga, 12, none⟩) from hv)
      | 5, _ => exact (show u = r.v from hv)
      | 6, _ => obtain ⟨B2, rfl, h⟩ := hv; exact ⟨B2, rfl, World.there_setCells h _ _ _⟩
      | 7, _ => obtain ⟨B2, rfl, h⟩ := hv; exact ⟨B2, rfl, World.there_setCells h _ _ _⟩
      | 8, _ => obtain ⟨B2, rfl, h⟩ := hv; exact ⟨B2, rfl, h.setFar4 (hG.apart.2 6 (by decide) 7 (by decide) (by decide) _ _ _ _ hu ep)⟩
      | 9, _ => exact absurd rfl hij
      | i + 10, hi => exact absurd hi (by simp)
    | n + 10, hj => exact absurd hj (by simp)
  · intro a' w' hG hF
    obtain ⟨_, e6, B6, rfl, h6⟩ := FV.get (d := 6) (hF 8 (by decide)) rfl
    have l6 := h6.lt
    obtain ⟨h60, h61, h62, h63⟩ := h6
    simp only [Nat.zero_add] at h61 h62 h63
    obtain ⟨_, e7, B7, rfl, h7⟩ := FV.get (d := 7) (hF 9 (by decide)) rfl
    have l7 := h7.lt
    obtain ⟨h70, h71, h72, h73⟩ := h7
    simp only [Nat.zero_add] at h71 h72 h73
    have s2 := hG.frame.rest 2 (by decide)
    have c2 := fun o => (hG.bel.cell (p := ⟨w.heap.size, o, none⟩) (show w.heap.size < _ by omega)).trans (b0 o)
    have s3 := hG.frame.rest 3 (by decide)
    have c3 := fun o => (hG.bel.cell (p := ⟨w.heap.size + 1, o, none⟩) (show w.heap.size + 1 < _ by omega)).trans (b1 o)
    have hsz := hG.frame.size
    have hdf := hG.frame.defers
    have hgs := hG.bel.size
    have hbel : Below w.heap.size w w' := bel_trans belw hG.bel
    have z2 : w.heap.size < w'.heap.size := by omega
    have z3 : w.heap.size + 1 < w'.heap.size := by omega
    have HX6 := Lib.hid (hx2.out.bel hG.bel)
    have HY6 := Lib.hid (hy2.out.bel hG.bel)
    clear hF hG
    obtain ⟨tm, df⟩ := a'
    obtain ⟨x0, x1, x2, x3, x4, x5, x6, x7, x8, x9, x10, x11, x12, x13, x14, x15, x16, x17, x18, x19, x20, x21, x22, x23, x24, x25, x26, x27, x28, x29, x30, x31, x32, x33, x34, x35, x36, x37, x38, x39, x40, x41, x42, x43, x44, x45, x46, x47, x48, x49, x50, x51, x52, x53, x54, x55, rfl⟩ := arrayN56 hsz
    simp [go_sem] at e6 e7 s2 s3 hdf
    subst e6 e7 s2 s3 hdf
    clear hsz
    obtain ⟨x0, x1, x2, x3⟩ := HX6.out
    obtain ⟨y0, y1, y2, y3⟩ := HY6.out
    simp only [Nat.zero_add] at x1 x2 x3 y1 y2 y3
    clear HX6 HY6 c2 c3
    go_wp2
    go_region_held3 (Keeps w'.heap.size w') (first | assumption | exact Keeps.start _ _ | exact Keeps.step (by assumption) (Nat.le_refl _) hb)
      (first | (go_at_call 28; refine (fresh_any _).mono ?_; rintro e w1 ⟨rfl, hb⟩) | (go_at_call 31; (first | (with_reducible refine (D1.out _).mono ?_)); rintro e w1 ⟨rfl, hb⟩) | (go_at_call 29; (first | (with_reducible refine (R1.out _).mono ?_)); rintro e w1 ⟨rfl, hb⟩) | (go_at_call 22; (first | (with_reducible refine (M1.out _).mono ?_)); rintro e w1 ⟨rfl, hb⟩) | (go_at_call 24; (first | (with_reducible refine (A1.out _).mono ?_)); rintro e w1 ⟨rfl, hb⟩) | (go_at_call 32; (first | (with_reducible refine (T1.out _).mono ?_)); rintro e w1 ⟨rfl, hb⟩))
    go_wp2
    go_ret
    exact retBel rfl ((‹Keeps _ _ _›).bel hbel.size hbel)

set_option maxRecDepth 100000 in
theorem lifted (os : Os) (started : os.Started) (H : Type) (enc : TypeId × Value → H) :
    ReturnsInHanded {} Try.checked os 8 .any (Rows.fnDivModFitsSpec.pre6 enc Try.prog Try.f8 Rows.fnDivModFitsRow.domain false) (Rows.fnDivModFitsSpec.post enc Try.prog Try.f8 false true false false) := by
  refine returnsInHanded_of_change (C := Try.checked) Try.own started (by kernel_rfl) Try.func8
    (ChangeSpec.witness6 (enc := enc) (C := Try.checked) false ⟨#[], #[.agg #[.int .u64 0, .int .u64 0, .int .u64 0, .int .u64 0], .agg #[.int .u64 0, .int .u64 0, .int .u64 0, .int .u64 0]], []⟩ 8 (by kernel_rfl) (by kernel_rfl) (by kernel_rfl) (by kernel_rfl)) ?_
  intro W base args ds gs before hval0 hW hcnd _
  have hval : ∀ (j : Nat) t v, Try.f8.params[j]? = some t → args[j]? = some v → Value.okWide Try.prog W .any base t v := hval0
  have hW' := hW
  obtain ⟨p, q, hA0, hV, rfl, hfz, hnd⟩ := hW
  have hA : DataW.TrodAll enc Try.prog W 0 (fun _ => true) true Try.f8.params.toList args.toList ds p := hA0
  rw [Try.params8] at hA hval
  obtain ⟨v0, vs0, d0, ds0, p0, q0, hargs, rfl, rfl, h0, r0⟩ := trodAll_cons hA
  obtain ⟨v1, vs1, d1, ds1, p1, q1, rfl, rfl, rfl, h1, r1⟩ := trodAll_cons r0
  obtain ⟨rfl, rfl, rfl⟩ := trodAll_nil r1
  obtain rfl : args = #[v0, v1] := by cases args; simp_all
  obtain ⟨rfl, rfl⟩ := trodVars_none hV
  have k0 := h0
  have lt0 : ∀ x ∈ p0, x.block < W.heap.size := by obtain ⟨m, hm⟩ := k0; exact DataW.trod_lt m _ _ _ hm
  obtain ⟨x0, rfl⟩ := open_num (hval 0 26 v0 rfl rfl)
  have k1 := h1
  have lt1 : ∀ x ∈ p1, x.block < W.heap.size := by obtain ⟨m, hm⟩ := k1; exact DataW.trod_lt m _ _ _ hm
  obtain ⟨x1, rfl⟩ := open_num (hval 1 26 v1 rfl rfl)
  clear hA0 hval0
  refine (walk x0 x1 W).mono fun e W' ⟨he, bel⟩ => ?_
  subst he
  exact ⟨_, rfl, _, _, _, [], _, [], hW', trodAll_mk1 (shut_bool Try.underlying4 _), (trodAll_cons_mk (Below.trod Try.laidOut (by kernel_rfl) (of_decide_eq_true (by kernel_rfl)) k0 bel lt0) (trodAll_cons_mk (Below.trod Try.laidOut (by kernel_rfl) (of_decide_eq_true (by kernel_rfl)) k1 bel lt1) trodAll_mk0)), rfl, bel.frame _, fun h => by cases h⟩

theorem holds : Rows.FnDivModFitsSaid :=
  OpenClaim.holds_of_wide 8 Try.f8 rfl rfl rfl rfl rfl rfl rfl ⟨rfl, rfl, rfl, rfl, rfl⟩ rfl rfl rfl rfl rfl (by kernel_rfl) Try.func8 (by kernel_rfl)
    (of_decide_eq_true (by kernel_rfl)) (by unfold Func.isWrapper; first | (rw [if_pos (by decide +kernel)]; kernel_rfl) | (rw [if_neg (by decide +kernel)]; exact ⟨rfl, rfl⟩))
    (fun os started H enc _ => lifted os started H enc)
#print axioms holds
end Go.Proofs.Ytoojfokhaennoaa.fnDivModFits
