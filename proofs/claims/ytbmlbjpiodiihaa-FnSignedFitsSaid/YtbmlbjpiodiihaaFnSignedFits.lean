/-
  For every two numbers: where y is not 0, the signed quotient times y and the signed rest are x; the rest is nearer to 0 than y, with the sign of x (the statement FnSignedFitsSaid, no conditions).
-/
import Derived.Test.YtbmlbjpiodiihaaOpen
import Derived.Test.YtbmlbjpiodiihaaLawOne
import Derived.Test.YtbmlbjpiodiihaaLawOpsMul
import Derived.Test.YtbmlbjpiodiihaaArith
import Derived.Test.YtbmlbjpiodiihaaEql2
import Derived.Test.YtbmlbjpiodiihaaDesk8
import Derived.Test.YtbmlbjpiodiihaaDesk4
import Derived.Test.YtbmlbjpiodiihaaRegion2
import Derived.Test.YtbmlbjpiodiihaaSgn
import Derived.Test.YtbmlbjpiodiihaaImpl0
import Derived.Test.YtbmlbjpiodiihaaHeldM
namespace Go.Proofs.Ytbmlbjpiodiihaa.fnSignedFits
set_option maxRecDepth 20000
open Go.ChangeShapes Go.WideShapes Go.ChangeAt Go.RowKit
set_option linter.unusedVariables false
set_option linter.unusedSimpArgs false

theorem arrayN60 {l : Array Value} (h : l.size = 60) : ∃ x0 x1 x2 x3 x4 x5 x6 x7 x8 x9 x10 x11 x12 x13 x14 x15 x16 x17 x18 x19 x20 x21 x22 x23 x24 x25 x26 x27 x28 x29 x30 x31 x32 x33 x34 x35 x36 x37 x38 x39 x40 x41 x42 x43 x44 x45 x46 x47 x48 x49 x50 x51 x52 x53 x54 x55 x56 x57 x58 x59, l = #[x0, x1, x2, x3, x4, x5, x6, x7, x8, x9, x10, x11, x12, x13, x14, x15, x16, x17, x18, x19, x20, x21, x22, x23, x24, x25, x26, x27, x28, x29, x30, x31, x32, x33, x34, x35, x36, x37, x38, x39, x40, x41, x42, x43, x44, x45, x46, x47, x48, x49, x50, x51, x52, x53, x54, x55, x56, x57, x58, x59] := by
  obtain ⟨l⟩ := l
  have h0 : l.length = 59 + 1 := h
  clear h
  obtain ⟨x0, l1, rfl, h1⟩ := cons_of h0
  obtain ⟨x1, l2, rfl, h2⟩ := cons_of h1
  obtain ⟨x2, l3, rfl, h3⟩ := cons_of h2
  obtain ⟨x3, l4, rfl, h4⟩ := cons_of h3
  obtain ⟨x4, l5, rfl, h5⟩ := cons_of h4
  obtain ⟨x5, l6, rfl, h6⟩ := cons_of h5
  obtain ⟨x6, l7, rfl, h7⟩ := cons_of h6
  obtain ⟨x7, l8, rfl, h8⟩ := cons_of h7
  obtain ⟨x8, l9, rfl, h9⟩ := cons_of h8
  obtain ⟨x9, l10, rfl, h10⟩ := cons_of h9
  obtain ⟨x10, l11, rfl, h11⟩ := cons_of h10
  obtain ⟨x11, l12, rfl, h12⟩ := cons_of h11
  obtain ⟨x12, l13, rfl, h13⟩ := cons_of h12
  obtain ⟨x13, l14, rfl, h14⟩ := cons_of h13
  obtain ⟨x14, l15, rfl, h15⟩ := cons_of h14
  obtain ⟨x15, l16, rfl, h16⟩ := cons_of h15
  obtain ⟨x16, l17, rfl, h17⟩ := cons_of h16
  obtain ⟨x17, l18, rfl, h18⟩ := cons_of h17
  obtain ⟨x18, l19, rfl, h19⟩ := cons_of h18
  obtain ⟨x19, l20, rfl, h20⟩ := cons_of h19
  obtain ⟨x20, l21, rfl, h21⟩ := cons_of h20
  obtain ⟨x21, l22, rfl, h22⟩ := cons_of h21
  obtain ⟨x22, l23, rfl, h23⟩ := cons_of h22
  obtain ⟨x23, l24, rfl, h24⟩ := cons_of h23
  obtain ⟨x24, l25, rfl, h25⟩ := cons_of h24
  obtain ⟨x25, l26, rfl, h26⟩ := cons_of h25
  obtain ⟨x26, l27, rfl, h27⟩ := cons_of h26
  obtain ⟨x27, l28, rfl, h28⟩ := cons_of h27
  obtain ⟨x28, l29, rfl, h29⟩ := cons_of h28
  obtain ⟨x29, l30, rfl, h30⟩ := cons_of h29
  obtain ⟨x30, l31, rfl, h31⟩ := cons_of h30
  obtain ⟨x31, l32, rfl, h32⟩ := cons_of h31
  obtain ⟨x32, l33, rfl, h33⟩ := cons_of h32
  obtain ⟨x33, l34, rfl, h34⟩ := cons_of h33
  obtain ⟨x34, l35, rfl, h35⟩ := cons_of h34
  obtain ⟨x35, l36, rfl, h36⟩ := cons_of h35
  obtain ⟨x36, l37, rfl, h37⟩ := cons_of h36
  obtain ⟨x37, l38, rfl, h38⟩ := cons_of h37
  obtain ⟨x38, l39, rfl, h39⟩ := cons_of h38
  obtain ⟨x39, l40, rfl, h40⟩ := cons_of h39
  obtain ⟨x40, l41, rfl, h41⟩ := cons_of h40
  obtain ⟨x41, l42, rfl, h42⟩ := cons_of h41
  obtain ⟨x42, l43, rfl, h43⟩ := cons_of h42
  obtain ⟨x43, l44, rfl, h44⟩ := cons_of h43
  obtain ⟨x44, l45, rfl, h45⟩ := cons_of h44
  obtain ⟨x45, l46, rfl, h46⟩ := cons_of h45
  obtain ⟨x46, l47, rfl, h47⟩ := cons_of h46
  obtain ⟨x47, l48, rfl, h48⟩ := cons_of h47
  obtain ⟨x48, l49, rfl, h49⟩ := cons_of h48
  obtain ⟨x49, l50, rfl, h50⟩ := cons_of h49
  obtain ⟨x50, l51, rfl, h51⟩ := cons_of h50
  obtain ⟨x51, l52, rfl, h52⟩ := cons_of h51
  obtain ⟨x52, l53, rfl, h53⟩ := cons_of h52
  obtain ⟨x53, l54, rfl, h54⟩ := cons_of h53
  obtain ⟨x54, l55, rfl, h55⟩ := cons_of h54
  obtain ⟨x55, l56, rfl, h56⟩ := cons_of h55
  obtain ⟨x56, l57, rfl, h57⟩ := cons_of h56
  obtain ⟨x57, l58, rfl, h58⟩ := cons_of h57
  obtain ⟨x58, l59, rfl, h59⟩ := cons_of h58
  obtain ⟨x59, l60, rfl, h60⟩ := cons_of h59
  cases l60 with
  | nil => exact ⟨x0, x1, x2, x3, x4, x5, x6, x7, x8, x9, x10, x11, x12, x13, x14, x15, x16, x17, x18, x19, x20, x21, x22, x23, x24, x25, x26, x27, x28, x29, x30, x31, x32, x33, x34, x35, x36, x37, x38, x39, x40, x41, x42, x43, x44, x45, x46, x47, x48, x49, x50, x51, x52, x53, x54, x55, x56, x57, x58, x59, rfl⟩
  | cons a t => simp at h60
def VF1 (x : N4) (y : N4) (q : N4) (r : N4) : Nat → Value → World → Prop
  | 0, v, w => v = freshW.v
  | 1, v, w => v = x.v
  | 2, v, w => v = y.v
  | 3, v, w => v = .agg #[.int .u64 0, .int .u64 0, .int .u64 0, .int .u64 0, V x.a, V x.b, V x.c, V x.d, V y.a, V y.b, V y.c, V y.d, .int .u64 0, .int .u64 0, .int .u64 0, .int .u64 0]
  | 4, v, w => v = ansV ⟨q, x, y, nulN⟩ false
  | 5, v, w => v = (C4.mk q x y nulN).v
  | 6, v, w => v = q.v
  | 7, v, w => ∃ B, v = .pointer (some ⟨B, 0, none⟩) ∧ w.there B 0 4
  | 8, v, w => ∃ B, v = .pointer (some ⟨B, 0, none⟩) ∧ At4 w B 0 (q)
  | _, _, _ => False
theorem VF1_mono (x : N4) (y : N4) (q : N4) (r : N4) : ∀ j v w w', Below w.heap.size w w' → VF1 x y q r j v w → VF1 x y q r j v w' := by
  intro j v w w' hb h
  match j, h with
  | 0, h => exact h
  | 1, h => exact h
  | 2, h => exact h
  | 3, h => exact h
  | 4, h => exact h
  | 5, h => exact h
  | 6, h => exact h
  | 7, h => obtain ⟨B, rfl, h1⟩ := h; exact ⟨B, rfl, there_bel h1 (by omega) hb⟩
  | 8, h => obtain ⟨B, rfl, h1⟩ := h; exact ⟨B, rfl, At4.bel h1 hb⟩
def VF2 (x : N4) (y : N4) (q : N4) (r : N4) : Nat → Value → World → Prop
  | 0, v, w => v = freshW.v
  | 1, v, w => v = x.v
  | 2, v, w => v = y.v
  | 3, v, w => v = .agg #[.int .u64 0, .int .u64 0, .int .u64 0, .int .u64 0, V x.a, V x.b, V x.c, V x.d, V y.a, V y.b, V y.c, V y.d, .int .u64 0, .int .u64 0, .int .u64 0, .int .u64 0]
  | 4, v, w => v = ansV ⟨r, x, y, nulN⟩ false
  | 5, v, w => v = (C4.mk r x y nulN).v
  | 6, v, w => v = r.v
  | 7, v, w => ∃ B, v = .pointer (some ⟨B, 0, none⟩) ∧ w.there B 0 4
  | 8, v, w => ∃ B, v = .pointer (some ⟨B, 0, none⟩) ∧ At4 w B 0 (r)
  | _, _, _ => False
theorem VF2_mono (x : N4) (y : N4) (q : N4) (r : N4) : ∀ j v w w', Below w.heap.size w w' → VF2 x y q r j v w → VF2 x y q r j v w' := by
  intro j v w w' hb h
  match j, h with
  | 0, h => exact h
  | 1, h => exact h
  | 2, h => exact h
  | 3, h => exact h
  | 4, h => exact h
  | 5, h => exact h
  | 6, h => exact h
  | 7, h => obtain ⟨B, rfl, h1⟩ := h; exact ⟨B, rfl, there_bel h1 (by omega) hb⟩
  | 8, h => obtain ⟨B, rfl, h1⟩ := h; exact ⟨B, rfl, At4.bel h1 hb⟩
attribute [local go_sem ↓] fldAns fldA
set_option maxRecDepth 20000 in
set_option maxHeartbeats 8000000 in
theorem walk (x y : N4) (w : World) : Calls Try.prog 7 #[x.v, y.v] w (RetBel (.bool true) w) := by
  cases hz : y.eqb ⟨0#64, 0#64, 0#64, 0#64⟩
  case true =>
    go_enter Try.func7, Try.ntmps7
    go_wp2
    go_ret
    exact retBel rfl (bel_alloc (bel_alloc (bel_refl w) _) _)
  have hy0 : 0 < y.toNat := by
    rcases Nat.eq_zero_or_pos y.toNat with h | h
    · rw [eqb_zero, (isZ_iff y).2 h] at hz; cases hz
    · exact h
  have g1 : (((x.sdiv y).mul y).add (x.smod y)).eqb x = true := (eqb_iff _ _).2 (signed_whole x y hy0)
  have g2 : (x.smod y).abs.ltc y.abs = true := by
    rw [ltc_eq, abs_toNat, abs_toNat, signed_abs x y hy0]
    exact decide_eq_true (Nat.mod_lt _ (absT_pos y hy0))
  have g3 : Hid ((x.smod y).eqb ⟨0#64, 0#64, 0#64, 0#64⟩ = false → ((x.smod y).sign == x.sign) = true) := fun h => by
    rw [eqb_zero] at h
    have h0 : (x.smod y).toNat ≠ 0 := fun e => by rw [(isZ_iff _).2 e] at h; cases h
    rw [signed_sign x y hy0 h0]
    exact beq_self_eq_true _
  have Q10 : ∀ w, Calls Try.prog 28 #[freshW.v, .agg #[.int .u64 0, .int .u64 0, .int .u64 0, .int .u64 0, V x.a, V x.b, V x.c, V x.d, V y.a, V y.b, V y.c, V y.d, .int .u64 0, .int .u64 0, .int .u64 0, .int .u64 0]] w (RetBel (ansV ⟨x.sdiv y, x, y, nulN⟩ false) w) := fun w => implSDiv_any freshW (xyC x y) w freshW_ok
  have Q1 := Lib.hid Q10
  clear Q10
  have R10 : ∀ w, Calls Try.prog 29 #[freshW.v, .agg #[.int .u64 0, .int .u64 0, .int .u64 0, .int .u64 0, V x.a, V x.b, V x.c, V x.d, V y.a, V y.b, V y.c, V y.d, .int .u64 0, .int .u64 0, .int .u64 0, .int .u64 0]] w (RetBel (ansV ⟨x.smod y, x, y, nulN⟩ false) w) := fun w => implSMod_any freshW (xyC x y) w freshW_ok
  have R1 := Lib.hid R10
  clear R10
  obtain ⟨q, hq⟩ : ∃ q, q = x.sdiv y := ⟨_, rfl⟩
  obtain ⟨r, hr⟩ : ∃ r, r = x.smod y := ⟨_, rfl⟩
  rw [← hq] at Q1 g1
  rw [← hr] at R1 g1 g2 g3
  clear hq hr
  have M1 : Hid (∀ w, Calls Try.prog 27 #[q.v, y.v] w (RetBel (N4.v (q.mul y)) w)) := fun w => mul_law q y w
  have A1 : Hid (∀ w, Calls Try.prog 21 #[(q.mul y).v, r.v] w (RetBel (N4.v ((q.mul y).add r)) w)) := fun w => add_law (q.mul y) r w
  have O1 : Hid (∀ w, Calls Try.prog 32 #[(r).v] w (RetBel (.tuple #[freshW.v, (oneC r).v]) w)) := one_law r
  have O2 : Hid (∀ w, Calls Try.prog 32 #[(y).v] w (RetBel (.tuple #[freshW.v, (oneC y).v]) w)) := one_law y
  have B10 : ∀ w, Calls Try.prog 31 #[freshW.v, (oneC r).v] w (RetBel (ansV ⟨r.abs, r, nulN, nulN⟩ false) w) := fun w => implAbs_any freshW (oneC r) w freshW_ok
  have B1 := Lib.hid B10
  clear B10
  have B20 : ∀ w, Calls Try.prog 31 #[freshW.v, (oneC y).v] w (RetBel (ansV ⟨y.abs, y, nulN, nulN⟩ false) w) := fun w => implAbs_any freshW (oneC y) w freshW_ok
  have B2 := Lib.hid B20
  clear B20
  have T1 : Hid (∀ w, Calls Try.prog 30 #[r.abs.v, y.abs.v] w (RetBel (.bool (r.abs.ltc y.abs)) w)) := fun w => implLt_any r.abs y.abs w
  have S1 : Hid (∀ w, Calls Try.prog 33 #[r.v] w (RetBel (.int .i64 r.sign) w)) := fun w => implSign_any r w
  have S2 : Hid (∀ w, Calls Try.prog 33 #[x.v] w (RetBel (.int .i64 x.sign) w)) := fun w => implSign_any x w
  clear hy0
  go_enter Try.func7, Try.ntmps7
  go_wp2
  have belw : Below w.heap.size w ((w.alloc (Obj.cells #[V x.a, V x.b, V x.c, V x.d] 26)).alloc (Obj.cells #[V y.a, V y.b, V y.c, V y.d] 26)) := bel_alloc (bel_alloc (bel_refl w) _) _
  have zsz : w.heap.size + 2 ≤ (World.heap ((w.alloc (Obj.cells #[V x.a, V x.b, V x.c, V x.d] 26)).alloc (Obj.cells #[V y.a, V y.b, V y.c, V y.d] 26))).size := by simp
  obtain ⟨W1, hW1⟩ : ∃ W1, W1 = ((w.alloc (Obj.cells #[V x.a, V x.b, V x.c, V x.d] 26)).alloc (Obj.cells #[V y.a, V y.b, V y.c, V y.d] 26)) := ⟨_, rfl⟩
  rw [← hW1] at belw zsz ⊢
  have b0 : ∀ o, W1.cell? ⟨w.heap.size, o, none⟩ = World.cell? ((w.alloc (Obj.cells #[V x.a, V x.b, V x.c, V x.d] 26)).alloc (Obj.cells #[V y.a, V y.b, V y.c, V y.d] 26)) ⟨w.heap.size, o, none⟩ := fun o => by rw [hW1]
  have b1 : ∀ o, W1.cell? ⟨w.heap.size + 1, o, none⟩ = World.cell? ((w.alloc (Obj.cells #[V x.a, V x.b, V x.c, V x.d] 26)).alloc (Obj.cells #[V y.a, V y.b, V y.c, V y.d] 26)) ⟨w.heap.size + 1, o, none⟩ := fun o => by rw [hW1]
  simp [go_sem] at b0 b1
  clear hW1
  refine wp_region_all (by kernel_rfl) (GA [10, 11, 12, 13, 14, 15, 16, 5] [5] [] _ _ _) (FV (fun i => [10, 11, 12, 13, 14, 15, 16, 5, 5].getD i 0) (VF1 x y q r)) (all_ord (by kernel_rfl)) (GA.start (by simp)) ?_ ?_
  · intro j o ho a' w' hG hpre
    have hj : j < 9 := getElem?_lt ho
    have hb := hG.bel
    have s0 := hG.frame.rest 2 (by decide)
    have hc0 := fun o => (hb.cell (p := ⟨w.heap.size, o, none⟩) (show w.heap.size < _ by omega)).trans (b0 o)
    have s1 := hG.frame.rest 3 (by decide)
    have hc1 := fun o => (hb.cell (p := ⟨w.heap.size + 1, o, none⟩) (show w.heap.size + 1 < _ by omega)).trans (b1 o)
    simp [go_sem] at s0 s1
    match j, hj with
    | 0, _ =>
      cases ho
      refine all_val rfl rfl rfl hG (by decide) (by decide) (by simp) rfl (by kernel_rfl) (VF1_mono _ _ _ _) ?_
      refine step_call (f := 18) (args := #[]) (w' := w') ?_ (fresh_any w') ?_
      · simp [execOp, Act.eval, go_sem]
      · rintro e w'' ⟨rfl, hb2⟩
        exact ⟨_, rfl, rfl, hb2⟩
    | 1, _ =>
      cases ho
      refine all_val rfl rfl rfl hG (by decide) (by decide) (by simp) rfl (by kernel_rfl) (VF1_mono _ _ _ _) ?_
      refine step_val (v := x.v) (w' := w') ?_ ⟨rfl, bel_refl _⟩
      simp [execOp, Act.eval, s0, hc0, go_sem]
    | 2, _ =>
      cases ho
      refine all_val rfl rfl rfl hG (by decide) (by decide) (by simp) rfl (by kernel_rfl) (VF1_mono _ _ _ _) ?_
      refine step_val (v := y.v) (w' := w') ?_ ⟨rfl, bel_refl _⟩
      simp [execOp, Act.eval, s1, hc1, go_sem]
    | 3, _ =>
      cases ho
      refine all_val rfl rfl rfl hG (by decide) (by decide) (by simp) rfl (by kernel_rfl) (VF1_mono _ _ _ _) ?_
      obtain ⟨v0, e0, rfl⟩ := FV.get (d := 11) (hpre ⟨1, .data⟩ (by simp) rfl) rfl
      obtain ⟨v1, e1, rfl⟩ := FV.get (d := 12) (hpre ⟨2, .data⟩ (by simp) rfl) rfl
      refine step_val (v := .agg #[.int .u64 0, .int .u64 0, .int .u64 0, .int .u64 0, V x.a, V x.b, V x.c, V x.d, V y.a, V y.b, V y.c, V y.d, .int .u64 0, .int .u64 0, .int .u64 0, .int .u64 0]) (w' := w') ?_ ⟨rfl, bel_refl _⟩
      simp [execOp, Act.eval, e0, e1, go_sem]
    | 4, _ =>
      cases ho
      refine all_val rfl rfl rfl hG (by decide) (by decide) (by simp) rfl (by kernel_rfl) (VF1_mono _ _ _ _) ?_
      obtain ⟨v0, e0, rfl⟩ := FV.get (d := 10) (hpre ⟨0, .data⟩ (by simp) rfl) rfl
      obtain ⟨v1, e1, rfl⟩ := FV.get (d := 13) (hpre ⟨3, .data⟩ (by simp) rfl) rfl
      refine step_call (f := 28) (args := #[freshW.v, .agg #[.int .u64 0, .int .u64 0, .int .u64 0, .int .u64 0, V x.a, V x.b, V x.c, V x.d, V y.a, V y.b, V y.c, V y.d, .int .u64 0, .int .u64 0, .int .u64 0, .int .u64 0]]) (w' := w') ?_ (Q1.out w') ?_
      · simp [execOp, Act.eval, e0, e1, go_sem]
      · rintro e w'' ⟨rfl, hb2⟩
        exact ⟨_, rfl, rfl, hb2⟩
    | 5, _ =>
      cases ho
      refine all_val rfl rfl rfl hG (by decide) (by decide) (by simp) rfl (by kernel_rfl) (VF1_mono _ _ _ _) ?_
      obtain ⟨v0, e0, rfl⟩ := FV.get (d := 14) (hpre ⟨4, .data⟩ (by simp) rfl) rfl
      refine step_val (v := (C4.mk q x y nulN).v) (w' := w') ?_ ⟨rfl, bel_refl _⟩
      simp [execOp, Act.eval, e0, fldAns, go_sem]
    | 6, _ =>
      cases ho
      refine all_val rfl rfl rfl hG (by decide) (by decide) (by simp) rfl (by kernel_rfl) (VF1_mono _ _ _ _) ?_
      obtain ⟨v0, e0, rfl⟩ := FV.get (d := 15) (hpre ⟨5, .data⟩ (by simp) rfl) rfl
      refine step_val (v := q.v) (w' := w') ?_ ⟨rfl, bel_refl _⟩
      simp [execOp, Act.eval, e0, fldA, go_sem]
    | 7, _ =>
      cases ho
      refine all_alloc (.cells #[.int .u64 0, .int .u64 0, .int .u64 0, .int .u64 0] 26) rfl rfl rfl hG (by decide) (by simp) rfl (by kernel_rfl) (VF1_mono _ _ _ _) ?_ ⟨_, rfl, there_new _ _ _ _ (by simp)⟩
      simp [execOp, Act.eval, go_sem]
    | 8, _ =>
      cases ho
      obtain ⟨vp, ep, B, rfl, hth⟩ := FV.get (d := 5) (hpre ⟨7, .data⟩ (by simp) rfl) rfl
      obtain ⟨vx, ex, rfl⟩ := FV.get (d := 16) (hpre ⟨6, .data⟩ (by simp) rfl) rfl
      refine all_store 26 _ _ rfl B 0 [V (q).a, V (q).b, V (q).c, V (q).d] rfl rfl rfl hG rfl ep (by simp [Act.eval, ep]) (by simp [Act.eval, ex]) hth (hG.apart.1 5 (by decide) B 0 ep).1 (by kernel_rfl) (by simp [Value.oneCell']) ⟨B, rfl, At4.setNew hth⟩ ?_
      intro i u hij hi hu hv
      match i, hi with
      | 0, _ => exact (show u = freshW.v from hv)
      | 1, _ => exact (show u = x.v from hv)
      | 2, _ => exact (show u = y.v from hv)
      | 3, _ => exact (show u = .agg #[.int .u64 0, .int .u64 0, .int .u64 0, .int .u64 0, V x.a, V x.b, V x.c, V x.d, V y.a, V y.b, V y.c, V y.d, .int .u64 0, .int .u64 0, .int .u64 0, .int .u64 0] from hv)
      | 4, _ => exact (show u = ansV ⟨q, x, y, nulN⟩ false from hv)
      | 5, _ => exact (show u = (C4.mk q x y nulN).v from hv)
      | 6, _ => exact (show u = q.v from hv)
      | 7, _ => obtain ⟨B2, rfl, h⟩ := hv; exact ⟨B2, rfl, World.there_setCells h _ _ _⟩
      | 8, _ => exact absurd rfl hij
      | i + 9, hi => exact absurd hi (by simp)
    | n + 9, hj => exact absurd hj (by simp)
  · intro a' w' hG hF
    obtain ⟨_, e5, B5, rfl, h5⟩ := FV.get (d := 5) (hF 8 (by decide)) rfl
    have l5 := h5.lt
    obtain ⟨h50, h51, h52, h53⟩ := h5
    simp only [Nat.zero_add] at h51 h52 h53
    have s2 := hG.frame.rest 2 (by decide)
    have c2 := fun o => (hG.bel.cell (p := ⟨w.heap.size, o, none⟩) (show w.heap.size < _ by omega)).trans (b0 o)
    have s3 := hG.frame.rest 3 (by decide)
    have c3 := fun o => (hG.bel.cell (p := ⟨w.heap.size + 1, o, none⟩) (show w.heap.size + 1 < _ by omega)).trans (b1 o)
    have s6 := hG.frame.rest 6 (by decide)
    have hsz := hG.frame.size
    have hdf := hG.frame.defers
    have hgs := hG.bel.size
    have hbel : Below w.heap.size w w' := bel_trans belw hG.bel
    have z2 : w.heap.size < w'.heap.size := by omega
    have z3 : w.heap.size + 1 < w'.heap.size := by omega
    clear hF hG
    obtain ⟨tm, df⟩ := a'
    obtain ⟨x0, x1, x2, x3, x4, x5, x6, x7, x8, x9, x10, x11, x12, x13, x14, x15, x16, x17, x18, x19, x20, x21, x22, x23, x24, x25, x26, x27, x28, x29, x30, x31, x32, x33, x34, x35, x36, x37, x38, x39, x40, x41, x42, x43, x44, x45, x46, x47, x48, x49, x50, x51, x52, x53, x54, x55, x56, x57, x58, x59, rfl⟩ := arrayN60 hsz
    simp [go_sem] at e5 s2 s3 s6 hdf
    subst e5 s2 s3 s6 hdf
    clear hsz
    have b0 := c2
    have b1 := c3
    have belw := hbel
    clear c2 c3 hbel
    have HQ5 : Hid (At4 w' B5 0 q) := ⟨h50, by simpa using h51, by simpa using h52, by simpa using h53⟩
    clear h50 h51 h52 h53
    obtain ⟨W2, hW2⟩ : ∃ W2, W2 = w' := ⟨_, rfl⟩
    go_wp2
    refine wp_region_all (by kernel_rfl) (GA [17, 18, 19, 20, 21, 22, 23, 6] [6] [] _ _ _) (FV (fun i => [17, 18, 19, 20, 21, 22, 23, 6, 6].getD i 0) (VF2 x y q r)) (all_ord (by kernel_rfl)) (GA.start (by simp)) ?_ ?_
    · intro j o ho a' w' hG hpre
      have hj : j < 9 := getElem?_lt ho
      have hb := hG.bel
      have s0 := hG.frame.rest 2 (by decide)
      have hc0 := fun o => (hb.cell (p := ⟨w.heap.size, o, none⟩) (show w.heap.size < _ by omega)).trans (b0 o)
      have s1 := hG.frame.rest 3 (by decide)
      have hc1 := fun o => (hb.cell (p := ⟨w.heap.size + 1, o, none⟩) (show w.heap.size + 1 < _ by omega)).trans (b1 o)
      simp [go_sem] at s0 s1
      match j, hj with
      | 0, _ =>
        cases ho
        refine all_val rfl rfl rfl hG (by decide) (by decide) (by simp) rfl (by kernel_rfl) (VF2_mono _ _ _ _) ?_
        refine step_call (f := 18) (args := #[]) (w' := w') ?_ (fresh_any w') ?_
        · simp [execOp, Act.eval, go_sem]
        · rintro e w'' ⟨rfl, hb2⟩
          exact ⟨_, rfl, rfl, hb2⟩
      | 1, _ =>
        cases ho
        refine all_val rfl rfl rfl hG (by decide) (by decide) (by simp) rfl (by kernel_rfl) (VF2_mono _ _ _ _) ?_
        refine step_val (v := x.v) (w' := w') ?_ ⟨rfl, bel_refl _⟩
        simp [execOp, Act.eval, s0, hc0, go_sem]
      | 2, _ =>
        cases ho
        refine all_val rfl rfl rfl hG (by decide) (by decide) (by simp) rfl (by kernel_rfl) (VF2_mono _ _ _ _) ?_
        refine step_val (v := y.v) (w' := w') ?_ ⟨rfl, bel_refl _⟩
        simp [execOp, Act.eval, s1, hc1, go_sem]
      | 3, _ =>
        cases ho
        refine all_val rfl rfl rfl hG (by decide) (by decide) (by simp) rfl (by kernel_rfl) (VF2_mono _ _ _ _) ?_
        obtain ⟨v0, e0, rfl⟩ := FV.get (d := 18) (hpre ⟨1, .data⟩ (by simp) rfl) rfl
        obtain ⟨v1, e1, rfl⟩ := FV.get (d := 19) (hpre ⟨2, .data⟩ (by simp) rfl) rfl
        refine step_val (v := .agg #[.int .u64 0, .int .u64 0, .int .u64 0, .int .u64 0, V x.a, V x.b, V x.c, V x.d, V y.a, V y.b, V y.c, V y.d, .int .u64 0, .int .u64 0, .int .u64 0, .int .u64 0]) (w' := w') ?_ ⟨rfl, bel_refl _⟩
        simp [execOp, Act.eval, e0, e1, go_sem]
      | 4, _ =>
        cases ho
        refine all_val rfl rfl rfl hG (by decide) (by decide) (by simp) rfl (by kernel_rfl) (VF2_mono _ _ _ _) ?_
        obtain ⟨v0, e0, rfl⟩ := FV.get (d := 17) (hpre ⟨0, .data⟩ (by simp) rfl) rfl
        obtain ⟨v1, e1, rfl⟩ := FV.get (d := 20) (hpre ⟨3, .data⟩ (by simp) rfl) rfl
        refine step_call (f := 29) (args := #[freshW.v, .agg #[.int .u64 0, .int .u64 0, .int .u64 0, .int .u64 0, V x.a, V x.b, V x.c, V x.d, V y.a, V y.b, V y.c, V y.d, .int .u64 0, .int .u64 0, .int .u64 0, .int .u64 0]]) (w' := w') ?_ (R1.out w') ?_
        · simp [execOp, Act.eval, e0, e1, go_sem]
        · rintro e w'' ⟨rfl, hb2⟩
          exact ⟨_, rfl, rfl, hb2⟩
      | 5, _ =>
        cases ho
        refine all_val rfl rfl rfl hG (by decide) (by decide) (by simp) rfl (by kernel_rfl) (VF2_mono _ _ _ _) ?_
        obtain ⟨v0, e0, rfl⟩ := FV.get (d := 21) (hpre ⟨4, .data⟩ (by simp) rfl) rfl
        refine step_val (v := (C4.mk r x y nulN).v) (w' := w') ?_ ⟨rfl, bel_refl _⟩
        simp [execOp, Act.eval, e0, fldAns, go_sem]
      | 6, _ =>
        cases ho
        refine all_val rfl rfl rfl hG (by decide) (by decide) (by simp) rfl (by kernel_rfl) (VF2_mono _ _ _ _) ?_
        obtain ⟨v0, e0, rfl⟩ := FV.get (d := 22) (hpre ⟨5, .data⟩ (by simp) rfl) rfl
        refine step_val (v := r.v) (w' := w') ?_ ⟨rfl, bel_refl _⟩
        simp [execOp, Act.eval, e0, fldA, go_sem]
      | 7, _ =>
        cases ho
        refine all_alloc (.cells #[.int .u64 0, .int .u64 0, .int .u64 0, .int .u64 0] 26) rfl rfl rfl hG (by decide) (by simp) rfl (by kernel_rfl) (VF2_mono _ _ _ _) ?_ ⟨_, rfl, there_new _ _ _ _ (by simp)⟩
        simp [execOp, Act.eval, go_sem]
      | 8, _ =>
        cases ho
        obtain ⟨vp, ep, B, rfl, hth⟩ := FV.get (d := 6) (hpre ⟨7, .data⟩ (by simp) rfl) rfl
        obtain ⟨vx, ex, rfl⟩ := FV.get (d := 23) (hpre ⟨6, .data⟩ (by simp) rfl) rfl
        refine all_store 26 _ _ rfl B 0 [V (r).a, V (r).b, V (r).c, V (r).d] rfl rfl rfl hG rfl ep (by simp [Act.eval, ep]) (by simp [Act.eval, ex]) hth (hG.apart.1 6 (by decide) B 0 ep).1 (by kernel_rfl) (by simp [Value.oneCell']) ⟨B, rfl, At4.setNew hth⟩ ?_
        intro i u hij hi hu hv
        match i, hi with
        | 0, _ => exact (show u = freshW.v from hv)
        | 1, _ => exact (show u = x.v from hv)
        | 2, _ => exact (show u = y.v from hv)
        | 3, _ => exact (show u = .agg #[.int .u64 0, .int .u64 0, .int .u64 0, .int .u64 0, V x.a, V x.b, V x.c, V x.d, V y.a, V y.b, V y.c, V y.d, .int .u64 0, .int .u64 0, .int .u64 0, .int .u64 0] from hv)
        | 4, _ => exact (show u = ansV ⟨r, x, y, nulN⟩ false from hv)
        | 5, _ => exact (show u = (C4.mk r x y nulN).v from hv)
        | 6, _ => exact (show u = r.v from hv)
        | 7, _ => obtain ⟨B2, rfl, h⟩ := hv; exact ⟨B2, rfl, World.there_setCells h _ _ _⟩
        | 8, _ => exact absurd rfl hij
        | i + 9, hi => exact absurd hi (by simp)
      | n + 9, hj => exact absurd hj (by simp)
    · intro a' w' hG hF
      obtain ⟨_, e6, B6, rfl, h6⟩ := FV.get (d := 6) (hF 8 (by decide)) rfl
      have l6 := h6.lt
      obtain ⟨h60, h61, h62, h63⟩ := h6
      simp only [Nat.zero_add] at h61 h62 h63
      have s2 := hG.frame.rest 2 (by decide)
      have c2 := fun o => (hG.bel.cell (p := ⟨w.heap.size, o, none⟩) (show w.heap.size < _ by omega)).trans (b0 o)
      have s3 := hG.frame.rest 3 (by decide)
      have c3 := fun o => (hG.bel.cell (p := ⟨w.heap.size + 1, o, none⟩) (show w.heap.size + 1 < _ by omega)).trans (b1 o)
      have s5 := hG.frame.rest 5 (by decide)
      have hsz := hG.frame.size
      have hdf := hG.frame.defers
      have hgs := hG.bel.size
      have hbel : Below w.heap.size w w' := bel_trans belw hG.bel
      have z2 : w.heap.size < w'.heap.size := by omega
      have z3 : w.heap.size + 1 < w'.heap.size := by omega
      have HQ6 := Lib.hid (HQ5.out.bel hG.bel)
      clear hF hG
      obtain ⟨tm, df⟩ := a'
      obtain ⟨x0, x1, x2, x3, x4, x5, x6, x7, x8, x9, x10, x11, x12, x13, x14, x15, x16, x17, x18, x19, x20, x21, x22, x23, x24, x25, x26, x27, x28, x29, x30, x31, x32, x33, x34, x35, x36, x37, x38, x39, x40, x41, x42, x43, x44, x45, x46, x47, x48, x49, x50, x51, x52, x53, x54, x55, x56, x57, x58, x59, rfl⟩ := arrayN60 hsz
      simp [go_sem] at e6 s2 s3 s5 hdf
      subst e6 s2 s3 s5 hdf
      clear hsz
      obtain ⟨q0, q1, q2, q3⟩ := HQ6.out
      have lq := HQ6.out.lt
      simp only [Nat.zero_add] at q1 q2 q3
      clear HQ6 HQ5
      cases hr0 : r.eqb ⟨0#64, 0#64, 0#64, 0#64⟩
      · have g4 := g3.out hr0
        clear g3
        go_wp2
        refine wp_region_noPanic ?_
        refine wp_region_held_drew (S := (Keeps w'.heap.size w')) (by kernel_rfl) (by exact Keeps.start _ _) (fun hHeld => ?_)
        refine hm_take (i := 0) (v := ?_) rfl rfl (by kernel_rfl) (by kernel_rfl) (by kernel_rfl) (fun _ _ _ h => h) rfl ?_ (by assumption) ?_
        rotate_left
        · (intro w hSw; (try dsimp only at hSw); go_simp; try with_reducible rfl)
        try simp only [Act.put, List.setIfInBounds_toArray, List.set_cons_zero, List.set_cons_succ]
        refine hm_take (i := 1) (v := ?_) rfl rfl (by kernel_rfl) (by kernel_rfl) (by kernel_rfl) (fun _ _ _ h => h) rfl ?_ (by assumption) ?_
        rotate_left
        · (intro w hSw; (try dsimp only at hSw); go_simp; try with_reducible rfl)
        try simp only [Act.put, List.setIfInBounds_toArray, List.set_cons_zero, List.set_cons_succ]
        refine hm_take (i := 3) (v := ?_) rfl rfl (by kernel_rfl) (by kernel_rfl) (by kernel_rfl) (fun _ _ _ h => h) rfl ?_ (by assumption) ?_
        rotate_left
        · (intro w hSw; (try dsimp only at hSw); go_simp; try with_reducible rfl)
        try simp only [Act.put, List.setIfInBounds_toArray, List.set_cons_zero, List.set_cons_succ]
        refine hm_take (i := 5) (v := ?_) rfl rfl (by kernel_rfl) (by kernel_rfl) (by kernel_rfl) (fun _ _ _ h => h) rfl ?_ (by assumption) ?_
        rotate_left
        · (intro w hSw; (try dsimp only at hSw); go_simp; try with_reducible rfl)
        try simp only [Act.put, List.setIfInBounds_toArray, List.set_cons_zero, List.set_cons_succ]
        refine hm_call (i := 2) rfl (by kernel_rfl) rfl (fun K hK => ?_)
        go_simp
        (go_at_call 27; refine (M1.out _).mono ?_; rintro e w1 ⟨rfl, hb⟩)
        (try go_wp2_with fail)
        refine hK.out _ _ (by (try dsimp only); first | assumption | exact Keeps.step (by assumption) (Nat.le_refl _) hb) (fun hHeld => ?_)
        clear hK K
        try simp only [Act.put, List.setIfInBounds_toArray, List.set_cons_zero, List.set_cons_succ]
        refine hm_call (i := 4) rfl (by kernel_rfl) rfl (fun K hK => ?_)
        go_simp
        (go_at_call 21; refine (A1.out _).mono ?_; rintro e w1 ⟨rfl, hb⟩)
        (try go_wp2_with fail)
        refine hK.out _ _ (by (try dsimp only); first | assumption | exact Keeps.step (by assumption) (Nat.le_refl _) hb) (fun hHeld => ?_)
        clear hK K
        try simp only [Act.put, List.setIfInBounds_toArray, List.set_cons_zero, List.set_cons_succ]
        refine hm_take (i := 6) (v := ?_) rfl rfl (by kernel_rfl) (by kernel_rfl) (by kernel_rfl) (fun _ _ _ h => h) rfl ?_ (by assumption) ?_
        rotate_left
        · (intro w hSw; (try dsimp only at hSw); go_simp; try with_reducible rfl)
        try simp only [Act.put, List.setIfInBounds_toArray, List.set_cons_zero, List.set_cons_succ]
        refine hm_take (i := 7) (v := ?_) rfl rfl (by kernel_rfl) (by kernel_rfl) (by kernel_rfl) (fun _ _ _ h => h) rfl ?_ (by assumption) ?_
        rotate_left
        · (intro w hSw; (try dsimp only at hSw); go_simp; try with_reducible rfl)
        try simp only [Act.put, List.setIfInBounds_toArray, List.set_cons_zero, List.set_cons_succ]
        refine hm_take (i := 8) (v := ?_) rfl rfl (by kernel_rfl) (by kernel_rfl) (by kernel_rfl) (fun _ _ _ h => h) rfl ?_ (by assumption) ?_
        rotate_left
        · (intro w hSw; (try dsimp only at hSw); go_simp; try with_reducible rfl)
        try simp only [Act.put, List.setIfInBounds_toArray, List.set_cons_zero, List.set_cons_succ]
        refine hm_take (i := 15) (v := ?_) rfl rfl (by kernel_rfl) (by kernel_rfl) (by kernel_rfl) (fun _ _ _ h => h) rfl ?_ (by assumption) ?_
        rotate_left
        · (intro w hSw; (try dsimp only at hSw); go_simp; try with_reducible rfl)
        try simp only [Act.put, List.setIfInBounds_toArray, List.set_cons_zero, List.set_cons_succ]
        refine hm_call (i := 9) rfl (by kernel_rfl) rfl (fun K hK => ?_)
        go_simp
        (go_at_call 32; refine (O1.out _).mono ?_; rintro e w1 ⟨rfl, hb⟩)
        (try go_wp2_with fail)
        refine hK.out _ _ (by (try dsimp only); first | assumption | exact Keeps.step (by assumption) (Nat.le_refl _) hb) (fun hHeld => ?_)
        clear hK K
        try simp only [Act.put, List.setIfInBounds_toArray, List.set_cons_zero, List.set_cons_succ]
        refine hm_take (i := 10) (v := ?_) rfl rfl (by kernel_rfl) (by kernel_rfl) (by kernel_rfl) (fun _ _ _ h => h) rfl ?_ (by assumption) ?_
        rotate_left
        · (intro w hSw; (try dsimp only at hSw); go_simp; try with_reducible rfl)
        try simp only [Act.put, List.setIfInBounds_toArray, List.set_cons_zero, List.set_cons_succ]
        refine hm_take (i := 11) (v := ?_) rfl rfl (by kernel_rfl) (by kernel_rfl) (by kernel_rfl) (fun _ _ _ h => h) rfl ?_ (by assumption) ?_
        rotate_left
        · (intro w hSw; (try dsimp only at hSw); go_simp; try with_reducible rfl)
        try simp only [Act.put, List.setIfInBounds_toArray, List.set_cons_zero, List.set_cons_succ]
        refine hm_call (i := 12) rfl (by kernel_rfl) rfl (fun K hK => ?_)
        go_simp
        (go_at_call 31; refine (B1.out _).mono ?_; rintro e w1 ⟨rfl, hb⟩)
        (try go_wp2_with fail)
        refine hK.out _ _ (by (try dsimp only); first | assumption | exact Keeps.step (by assumption) (Nat.le_refl _) hb) (fun hHeld => ?_)
        clear hK K
        try simp only [Act.put, List.setIfInBounds_toArray, List.set_cons_zero, List.set_cons_succ]
        refine hm_take (i := 13) (v := ?_) rfl rfl (by kernel_rfl) (by kernel_rfl) (by kernel_rfl) (fun _ _ _ h => h) rfl ?_ (by assumption) ?_
        rotate_left
        · (intro w hSw; (try dsimp only at hSw); go_simp; try with_reducible rfl)
        try simp only [Act.put, List.setIfInBounds_toArray, List.set_cons_zero, List.set_cons_succ]
        refine hm_take (i := 14) (v := ?_) rfl rfl (by kernel_rfl) (by kernel_rfl) (by kernel_rfl) (fun _ _ _ h => h) rfl ?_ (by assumption) ?_
        rotate_left
        · (intro w hSw; (try dsimp only at hSw); go_simp; try with_reducible rfl)
        try simp only [Act.put, List.setIfInBounds_toArray, List.set_cons_zero, List.set_cons_succ]
        refine hm_call (i := 16) rfl (by kernel_rfl) rfl (fun K hK => ?_)
        go_simp
        (go_at_call 32; refine (O2.out _).mono ?_; rintro e w1 ⟨rfl, hb⟩)
        (try go_wp2_with fail)
        refine hK.out _ _ (by (try dsimp only); first | assumption | exact Keeps.step (by assumption) (Nat.le_refl _) hb) (fun hHeld => ?_)
        clear hK K
        try simp only [Act.put, List.setIfInBounds_toArray, List.set_cons_zero, List.set_cons_succ]
        refine hm_take (i := 17) (v := ?_) rfl rfl (by kernel_rfl) (by kernel_rfl) (by kernel_rfl) (fun _ _ _ h => h) rfl ?_ (by assumption) ?_
        rotate_left
        · (intro w hSw; (try dsimp only at hSw); go_simp; try with_reducible rfl)
        try simp only [Act.put, List.setIfInBounds_toArray, List.set_cons_zero, List.set_cons_succ]
        refine hm_take (i := 18) (v := ?_) rfl rfl (by kernel_rfl) (by kernel_rfl) (by kernel_rfl) (fun _ _ _ h => h) rfl ?_ (by assumption) ?_
        rotate_left
        · (intro w hSw; (try dsimp only at hSw); go_simp; try with_reducible rfl)
        try simp only [Act.put, List.setIfInBounds_toArray, List.set_cons_zero, List.set_cons_succ]
        refine hm_call (i := 19) rfl (by kernel_rfl) rfl (fun K hK => ?_)
        go_simp
        (go_at_call 31; refine (B2.out _).mono ?_; rintro e w1 ⟨rfl, hb⟩)
        (try go_wp2_with fail)
        refine hK.out _ _ (by (try dsimp only); first | assumption | exact Keeps.step (by assumption) (Nat.le_refl _) hb) (fun hHeld => ?_)
        clear hK K
        try simp only [Act.put, List.setIfInBounds_toArray, List.set_cons_zero, List.set_cons_succ]
        refine hm_take (i := 20) (v := ?_) rfl rfl (by kernel_rfl) (by kernel_rfl) (by kernel_rfl) (fun _ _ _ h => h) rfl ?_ (by assumption) ?_
        rotate_left
        · (intro w hSw; (try dsimp only at hSw); go_simp; try with_reducible rfl)
        try simp only [Act.put, List.setIfInBounds_toArray, List.set_cons_zero, List.set_cons_succ]
        refine hm_take (i := 21) (v := ?_) rfl rfl (by kernel_rfl) (by kernel_rfl) (by kernel_rfl) (fun _ _ _ h => h) rfl ?_ (by assumption) ?_
        rotate_left
        · (intro w hSw; (try dsimp only at hSw); go_simp; try with_reducible rfl)
        try simp only [Act.put, List.setIfInBounds_toArray, List.set_cons_zero, List.set_cons_succ]
        refine hm_call (i := 22) rfl (by kernel_rfl) rfl (fun K hK => ?_)
        go_simp
        (go_at_call 30; refine (T1.out _).mono ?_; rintro e w1 ⟨rfl, hb⟩)
        (try go_wp2_with fail)
        refine hK.out _ _ (by (try dsimp only); first | assumption | exact Keeps.step (by assumption) (Nat.le_refl _) hb) (fun hHeld => ?_)
        clear hK K
        try simp only [Act.put, List.setIfInBounds_toArray, List.set_cons_zero, List.set_cons_succ]
        refine hm_take (i := 23) (v := ?_) rfl rfl (by kernel_rfl) (by kernel_rfl) (by kernel_rfl) (fun _ _ _ h => h) rfl ?_ (by assumption) ?_
        rotate_left
        · (intro w hSw; (try dsimp only at hSw); go_simp; try with_reducible rfl)
        try simp only [Act.put, List.setIfInBounds_toArray, List.set_cons_zero, List.set_cons_succ]
        refine hm_take (i := 24) (v := ?_) rfl rfl (by kernel_rfl) (by kernel_rfl) (by kernel_rfl) (fun _ _ _ h => h) rfl ?_ (by assumption) ?_
        rotate_left
        · (intro w hSw; (try dsimp only at hSw); go_simp; try with_reducible rfl)
        try simp only [Act.put, List.setIfInBounds_toArray, List.set_cons_zero, List.set_cons_succ]
        refine hm_take (i := 25) (v := ?_) rfl rfl (by kernel_rfl) (by kernel_rfl) (by kernel_rfl) (fun _ _ _ h => h) rfl ?_ (by assumption) ?_
        rotate_left
        · (intro w hSw; (try dsimp only at hSw); go_simp; try with_reducible rfl)
        try simp only [Act.put, List.setIfInBounds_toArray, List.set_cons_zero, List.set_cons_succ]
        refine hm_take (i := 26) (v := ?_) rfl rfl (by kernel_rfl) (by kernel_rfl) (by kernel_rfl) (fun _ _ _ h => h) rfl ?_ (by assumption) ?_
        rotate_left
        · (intro w hSw; (try dsimp only at hSw); go_simp; try with_reducible rfl)
        try simp only [Act.put, List.setIfInBounds_toArray, List.set_cons_zero, List.set_cons_succ]
        refine hm_take (i := 27) (v := ?_) rfl rfl (by kernel_rfl) (by kernel_rfl) (by kernel_rfl) (fun _ _ _ h => h) rfl ?_ (by assumption) ?_
        rotate_left
        · (intro w hSw; (try dsimp only at hSw); go_simp; try with_reducible rfl)
        try simp only [Act.put, List.setIfInBounds_toArray, List.set_cons_zero, List.set_cons_succ]
        refine hm_take (i := 28) (v := ?_) rfl rfl (by kernel_rfl) (by kernel_rfl) (by kernel_rfl) (fun _ _ _ h => h) rfl ?_ (by assumption) ?_
        rotate_left
        · (intro w hSw; (try dsimp only at hSw); go_simp; try with_reducible rfl)
        try simp only [Act.put, List.setIfInBounds_toArray, List.set_cons_zero, List.set_cons_succ]
        refine hm_take (i := 29) (v := ?_) rfl rfl (by kernel_rfl) (by kernel_rfl) (by kernel_rfl) (fun _ _ _ h => h) rfl ?_ (by assumption) ?_
        rotate_left
        · (intro w hSw; (try dsimp only at hSw); go_simp; try with_reducible rfl)
        try simp only [Act.put, List.setIfInBounds_toArray, List.set_cons_zero, List.set_cons_succ]
        refine hm_take (i := 31) (v := ?_) rfl rfl (by kernel_rfl) (by kernel_rfl) (by kernel_rfl) (fun _ _ _ h => h) rfl ?_ (by assumption) ?_
        rotate_left
        · (intro w hSw; (try dsimp only at hSw); go_simp; try with_reducible rfl)
        try simp only [Act.put, List.setIfInBounds_toArray, List.set_cons_zero, List.set_cons_succ]
        refine hm_call (i := 30) rfl (by kernel_rfl) rfl (fun K hK => ?_)
        go_simp
        (go_at_call 33; refine (S1.out _).mono ?_; rintro e w1 ⟨rfl, hb⟩)
        (try go_wp2_with fail)
        refine hK.out _ _ (by (try dsimp only); first | assumption | exact Keeps.step (by assumption) (Nat.le_refl _) hb) (fun hHeld => ?_)
        clear hK K
        try simp only [Act.put, List.setIfInBounds_toArray, List.set_cons_zero, List.set_cons_succ]
        refine hm_call (i := 32) rfl (by kernel_rfl) rfl (fun K hK => ?_)
        go_simp
        (go_at_call 33; refine (S2.out _).mono ?_; rintro e w1 ⟨rfl, hb⟩)
        (try go_wp2_with fail)
        refine hK.out _ _ (by (try dsimp only); first | assumption | exact Keeps.step (by assumption) (Nat.le_refl _) hb) (fun hHeld => ?_)
        clear hK K
        try simp only [Act.put, List.setIfInBounds_toArray, List.set_cons_zero, List.set_cons_succ]
        refine hm_take (i := 33) (v := ?_) rfl rfl (by kernel_rfl) (by kernel_rfl) (by kernel_rfl) (fun _ _ _ h => h) rfl ?_ (by assumption) ?_
        rotate_left
        · (intro w hSw; (try dsimp only at hSw); go_simp; try with_reducible rfl)
        try simp only [Act.put, List.setIfInBounds_toArray, List.set_cons_zero, List.set_cons_succ]
        refine hm_take (i := 34) (v := ?_) rfl rfl (by kernel_rfl) (by kernel_rfl) (by kernel_rfl) (fun _ _ _ h => h) rfl ?_ (by assumption) ?_
        rotate_left
        · (intro w hSw; (try dsimp only at hSw); go_simp; try with_reducible rfl)
        try simp only [Act.put, List.setIfInBounds_toArray, List.set_cons_zero, List.set_cons_succ]
        refine hm_take (i := 35) (v := ?_) rfl rfl (by kernel_rfl) (by kernel_rfl) (by kernel_rfl) (fun _ _ _ h => h) rfl ?_ (by assumption) ?_
        rotate_left
        · (intro w hSw; (try dsimp only at hSw); go_simp; try with_reducible rfl)
        try simp only [Act.put, List.setIfInBounds_toArray, List.set_cons_zero, List.set_cons_succ]
        refine hm_take (i := 36) (v := ?_) rfl rfl (by kernel_rfl) (by kernel_rfl) (by kernel_rfl) (fun _ _ _ h => h) rfl ?_ (by assumption) ?_
        rotate_left
        · (intro w hSw; (try dsimp only at hSw); go_simp; try with_reducible rfl)
        try simp only [Act.put, List.setIfInBounds_toArray, List.set_cons_zero, List.set_cons_succ]
        refine wpAnyH_done (by kernel_rfl) ?_ _
        refine NoPanic.normal ?_
        go_wp2
        go_ret
        exact retBel rfl ((‹Keeps _ _ _›).bel hbel.size hbel)
      · clear g3
        go_wp2
        refine wp_region_noPanic ?_
        refine wp_region_held_drew (S := (Keeps w'.heap.size w')) (by kernel_rfl) (by exact Keeps.start _ _) (fun hHeld => ?_)
        refine hm_take (i := 0) (v := ?_) rfl rfl (by kernel_rfl) (by kernel_rfl) (by kernel_rfl) (fun _ _ _ h => h) rfl ?_ (by assumption) ?_
        rotate_left
        · (intro w hSw; (try dsimp only at hSw); go_simp; try with_reducible rfl)
        try simp only [Act.put, List.setIfInBounds_toArray, List.set_cons_zero, List.set_cons_succ]
        refine hm_take (i := 1) (v := ?_) rfl rfl (by kernel_rfl) (by kernel_rfl) (by kernel_rfl) (fun _ _ _ h => h) rfl ?_ (by assumption) ?_
        rotate_left
        · (intro w hSw; (try dsimp only at hSw); go_simp; try with_reducible rfl)
        try simp only [Act.put, List.setIfInBounds_toArray, List.set_cons_zero, List.set_cons_succ]
        refine hm_take (i := 3) (v := ?_) rfl rfl (by kernel_rfl) (by kernel_rfl) (by kernel_rfl) (fun _ _ _ h => h) rfl ?_ (by assumption) ?_
        rotate_left
        · (intro w hSw; (try dsimp only at hSw); go_simp; try with_reducible rfl)
        try simp only [Act.put, List.setIfInBounds_toArray, List.set_cons_zero, List.set_cons_succ]
        refine hm_take (i := 5) (v := ?_) rfl rfl (by kernel_rfl) (by kernel_rfl) (by kernel_rfl) (fun _ _ _ h => h) rfl ?_ (by assumption) ?_
        rotate_left
        · (intro w hSw; (try dsimp only at hSw); go_simp; try with_reducible rfl)
        try simp only [Act.put, List.setIfInBounds_toArray, List.set_cons_zero, List.set_cons_succ]
        refine hm_call (i := 2) rfl (by kernel_rfl) rfl (fun K hK => ?_)
        go_simp
        (go_at_call 27; refine (M1.out _).mono ?_; rintro e w1 ⟨rfl, hb⟩)
        (try go_wp2_with fail)
        refine hK.out _ _ (by (try dsimp only); first | assumption | exact Keeps.step (by assumption) (Nat.le_refl _) hb) (fun hHeld => ?_)
        clear hK K
        try simp only [Act.put, List.setIfInBounds_toArray, List.set_cons_zero, List.set_cons_succ]
        refine hm_call (i := 4) rfl (by kernel_rfl) rfl (fun K hK => ?_)
        go_simp
        (go_at_call 21; refine (A1.out _).mono ?_; rintro e w1 ⟨rfl, hb⟩)
        (try go_wp2_with fail)
        refine hK.out _ _ (by (try dsimp only); first | assumption | exact Keeps.step (by assumption) (Nat.le_refl _) hb) (fun hHeld => ?_)
        clear hK K
        try simp only [Act.put, List.setIfInBounds_toArray, List.set_cons_zero, List.set_cons_succ]
        refine hm_take (i := 6) (v := ?_) rfl rfl (by kernel_rfl) (by kernel_rfl) (by kernel_rfl) (fun _ _ _ h => h) rfl ?_ (by assumption) ?_
        rotate_left
        · (intro w hSw; (try dsimp only at hSw); go_simp; try with_reducible rfl)
        try simp only [Act.put, List.setIfInBounds_toArray, List.set_cons_zero, List.set_cons_succ]
        refine hm_take (i := 7) (v := ?_) rfl rfl (by kernel_rfl) (by kernel_rfl) (by kernel_rfl) (fun _ _ _ h => h) rfl ?_ (by assumption) ?_
        rotate_left
        · (intro w hSw; (try dsimp only at hSw); go_simp; try with_reducible rfl)
        try simp only [Act.put, List.setIfInBounds_toArray, List.set_cons_zero, List.set_cons_succ]
        refine hm_take (i := 8) (v := ?_) rfl rfl (by kernel_rfl) (by kernel_rfl) (by kernel_rfl) (fun _ _ _ h => h) rfl ?_ (by assumption) ?_
        rotate_left
        · (intro w hSw; (try dsimp only at hSw); go_simp; try with_reducible rfl)
        try simp only [Act.put, List.setIfInBounds_toArray, List.set_cons_zero, List.set_cons_succ]
        refine hm_take (i := 15) (v := ?_) rfl rfl (by kernel_rfl) (by kernel_rfl) (by kernel_rfl) (fun _ _ _ h => h) rfl ?_ (by assumption) ?_
        rotate_left
        · (intro w hSw; (try dsimp only at hSw); go_simp; try with_reducible rfl)
        try simp only [Act.put, List.setIfInBounds_toArray, List.set_cons_zero, List.set_cons_succ]
        refine hm_call (i := 9) rfl (by kernel_rfl) rfl (fun K hK => ?_)
        go_simp
        (go_at_call 32; refine (O1.out _).mono ?_; rintro e w1 ⟨rfl, hb⟩)
        (try go_wp2_with fail)
        refine hK.out _ _ (by (try dsimp only); first | assumption | exact Keeps.step (by assumption) (Nat.le_refl _) hb) (fun hHeld => ?_)
        clear hK K
        try simp only [Act.put, List.setIfInBounds_toArray, List.set_cons_zero, List.set_cons_succ]
        refine hm_take (i := 10) (v := ?_) rfl rfl (by kernel_rfl) (by kernel_rfl) (by kernel_rfl) (fun _ _ _ h => h) rfl ?_ (by assumption) ?_
        rotate_left
        · (intro w hSw; (try dsimp only at hSw); go_simp; try with_reducible rfl)
        try simp only [Act.put, List.setIfInBounds_toArray, List.set_cons_zero, List.set_cons_succ]
        refine hm_take (i := 11) (v := ?_) rfl rfl (by kernel_rfl) (by kernel_rfl) (by kernel_rfl) (fun _ _ _ h => h) rfl ?_ (by assumption) ?_
        rotate_left
        · (intro w hSw; (try dsimp only at hSw); go_simp; try with_reducible rfl)
        try simp only [Act.put, List.setIfInBounds_toArray, List.set_cons_zero, List.set_cons_succ]
        refine hm_call (i := 12) rfl (by kernel_rfl) rfl (fun K hK => ?_)
        go_simp
        (go_at_call 31; refine (B1.out _).mono ?_; rintro e w1 ⟨rfl, hb⟩)
        (try go_wp2_with fail)
        refine hK.out _ _ (by (try dsimp only); first | assumption | exact Keeps.step (by assumption) (Nat.le_refl _) hb) (fun hHeld => ?_)
        clear hK K
        try simp only [Act.put, List.setIfInBounds_toArray, List.set_cons_zero, List.set_cons_succ]
        refine hm_take (i := 13) (v := ?_) rfl rfl (by kernel_rfl) (by kernel_rfl) (by kernel_rfl) (fun _ _ _ h => h) rfl ?_ (by assumption) ?_
        rotate_left
        · (intro w hSw; (try dsimp only at hSw); go_simp; try with_reducible rfl)
        try simp only [Act.put, List.setIfInBounds_toArray, List.set_cons_zero, List.set_cons_succ]
        refine hm_take (i := 14) (v := ?_) rfl rfl (by kernel_rfl) (by kernel_rfl) (by kernel_rfl) (fun _ _ _ h => h) rfl ?_ (by assumption) ?_
        rotate_left
        · (intro w hSw; (try dsimp only at hSw); go_simp; try with_reducible rfl)
        try simp only [Act.put, List.setIfInBounds_toArray, List.set_cons_zero, List.set_cons_succ]
        refine hm_call (i := 16) rfl (by kernel_rfl) rfl (fun K hK => ?_)
        go_simp
        (go_at_call 32; refine (O2.out _).mono ?_; rintro e w1 ⟨rfl, hb⟩)
        (try go_wp2_with fail)
        refine hK.out _ _ (by (try dsimp only); first | assumption | exact Keeps.step (by assumption) (Nat.le_refl _) hb) (fun hHeld => ?_)
        clear hK K
        try simp only [Act.put, List.setIfInBounds_toArray, List.set_cons_zero, List.set_cons_succ]
        refine hm_take (i := 17) (v := ?_) rfl rfl (by kernel_rfl) (by kernel_rfl) (by kernel_rfl) (fun _ _ _ h => h) rfl ?_ (by assumption) ?_
        rotate_left
        · (intro w hSw; (try dsimp only at hSw); go_simp; try with_reducible rfl)
        try simp only [Act.put, List.setIfInBounds_toArray, List.set_cons_zero, List.set_cons_succ]
        refine hm_take (i := 18) (v := ?_) rfl rfl (by kernel_rfl) (by kernel_rfl) (by kernel_rfl) (fun _ _ _ h => h) rfl ?_ (by assumption) ?_
        rotate_left
        · (intro w hSw; (try dsimp only at hSw); go_simp; try with_reducible rfl)
        try simp only [Act.put, List.setIfInBounds_toArray, List.set_cons_zero, List.set_cons_succ]
        refine hm_call (i := 19) rfl (by kernel_rfl) rfl (fun K hK => ?_)
        go_simp
        (go_at_call 31; refine (B2.out _).mono ?_; rintro e w1 ⟨rfl, hb⟩)
        (try go_wp2_with fail)
        refine hK.out _ _ (by (try dsimp only); first | assumption | exact Keeps.step (by assumption) (Nat.le_refl _) hb) (fun hHeld => ?_)
        clear hK K
        try simp only [Act.put, List.setIfInBounds_toArray, List.set_cons_zero, List.set_cons_succ]
        refine hm_take (i := 20) (v := ?_) rfl rfl (by kernel_rfl) (by kernel_rfl) (by kernel_rfl) (fun _ _ _ h => h) rfl ?_ (by assumption) ?_
        rotate_left
        · (intro w hSw; (try dsimp only at hSw); go_simp; try with_reducible rfl)
        try simp only [Act.put, List.setIfInBounds_toArray, List.set_cons_zero, List.set_cons_succ]
        refine hm_take (i := 21) (v := ?_) rfl rfl (by kernel_rfl) (by kernel_rfl) (by kernel_rfl) (fun _ _ _ h => h) rfl ?_ (by assumption) ?_
        rotate_left
        · (intro w hSw; (try dsimp only at hSw); go_simp; try with_reducible rfl)
        try simp only [Act.put, List.setIfInBounds_toArray, List.set_cons_zero, List.set_cons_succ]
        refine hm_call (i := 22) rfl (by kernel_rfl) rfl (fun K hK => ?_)
        go_simp
        (go_at_call 30; refine (T1.out _).mono ?_; rintro e w1 ⟨rfl, hb⟩)
        (try go_wp2_with fail)
        refine hK.out _ _ (by (try dsimp only); first | assumption | exact Keeps.step (by assumption) (Nat.le_refl _) hb) (fun hHeld => ?_)
        clear hK K
        try simp only [Act.put, List.setIfInBounds_toArray, List.set_cons_zero, List.set_cons_succ]
        refine hm_take (i := 23) (v := ?_) rfl rfl (by kernel_rfl) (by kernel_rfl) (by kernel_rfl) (fun _ _ _ h => h) rfl ?_ (by assumption) ?_
        rotate_left
        · (intro w hSw; (try dsimp only at hSw); go_simp; try with_reducible rfl)
        try simp only [Act.put, List.setIfInBounds_toArray, List.set_cons_zero, List.set_cons_succ]
        refine hm_take (i := 24) (v := ?_) rfl rfl (by kernel_rfl) (by kernel_rfl) (by kernel_rfl) (fun _ _ _ h => h) rfl ?_ (by assumption) ?_
        rotate_left
        · (intro w hSw; (try dsimp only at hSw); go_simp; try with_reducible rfl)
        try simp only [Act.put, List.setIfInBounds_toArray, List.set_cons_zero, List.set_cons_succ]
        refine hm_take (i := 25) (v := ?_) rfl rfl (by kernel_rfl) (by kernel_rfl) (by kernel_rfl) (fun _ _ _ h => h) rfl ?_ (by assumption) ?_
        rotate_left
        · (intro w hSw; (try dsimp only at hSw); go_simp; try with_reducible rfl)
        try simp only [Act.put, List.setIfInBounds_toArray, List.set_cons_zero, List.set_cons_succ]
        refine hm_take (i := 26) (v := ?_) rfl rfl (by kernel_rfl) (by kernel_rfl) (by kernel_rfl) (fun _ _ _ h => h) rfl ?_ (by assumption) ?_
        rotate_left
        · (intro w hSw; (try dsimp only at hSw); go_simp; try with_reducible rfl)
        try simp only [Act.put, List.setIfInBounds_toArray, List.set_cons_zero, List.set_cons_succ]
        refine hm_take (i := 27) (v := ?_) rfl rfl (by kernel_rfl) (by kernel_rfl) (by kernel_rfl) (fun _ _ _ h => h) rfl ?_ (by assumption) ?_
        rotate_left
        · (intro w hSw; (try dsimp only at hSw); go_simp; try with_reducible rfl)
        try simp only [Act.put, List.setIfInBounds_toArray, List.set_cons_zero, List.set_cons_succ]
        refine hm_take (i := 28) (v := ?_) rfl rfl (by kernel_rfl) (by kernel_rfl) (by kernel_rfl) (fun _ _ _ h => h) rfl ?_ (by assumption) ?_
        rotate_left
        · (intro w hSw; (try dsimp only at hSw); go_simp; try with_reducible rfl)
        try simp only [Act.put, List.setIfInBounds_toArray, List.set_cons_zero, List.set_cons_succ]
        refine hm_skip (i := 29) rfl rfl (by kernel_rfl) (by kernel_rfl) (by kernel_rfl) (fun _ _ _ h => h) rfl (by assumption) ?_
        try simp only [Act.put, List.setIfInBounds_toArray, List.set_cons_zero, List.set_cons_succ]
        refine hm_skip (i := 30) rfl rfl (by kernel_rfl) (by kernel_rfl) (by kernel_rfl) (fun _ _ _ h => h) rfl (by assumption) ?_
        try simp only [Act.put, List.setIfInBounds_toArray, List.set_cons_zero, List.set_cons_succ]
        refine hm_skip (i := 31) rfl rfl (by kernel_rfl) (by kernel_rfl) (by kernel_rfl) (fun _ _ _ h => h) rfl (by assumption) ?_
        try simp only [Act.put, List.setIfInBounds_toArray, List.set_cons_zero, List.set_cons_succ]
        refine hm_skip (i := 32) rfl rfl (by kernel_rfl) (by kernel_rfl) (by kernel_rfl) (fun _ _ _ h => h) rfl (by assumption) ?_
        try simp only [Act.put, List.setIfInBounds_toArray, List.set_cons_zero, List.set_cons_succ]
        refine hm_skip (i := 33) rfl rfl (by kernel_rfl) (by kernel_rfl) (by kernel_rfl) (fun _ _ _ h => h) rfl (by assumption) ?_
        try simp only [Act.put, List.setIfInBounds_toArray, List.set_cons_zero, List.set_cons_succ]
        refine hm_take (i := 34) (v := ?_) rfl rfl (by kernel_rfl) (by kernel_rfl) (by kernel_rfl) (fun _ _ _ h => h) rfl ?_ (by assumption) ?_
        rotate_left
        · (intro w hSw; (try dsimp only at hSw); go_simp; try with_reducible rfl)
        try simp only [Act.put, List.setIfInBounds_toArray, List.set_cons_zero, List.set_cons_succ]
        refine hm_take (i := 35) (v := ?_) rfl rfl (by kernel_rfl) (by kernel_rfl) (by kernel_rfl) (fun _ _ _ h => h) rfl ?_ (by assumption) ?_
        rotate_left
        · (intro w hSw; (try dsimp only at hSw); go_simp; try with_reducible rfl)
        try simp only [Act.put, List.setIfInBounds_toArray, List.set_cons_zero, List.set_cons_succ]
        refine hm_take (i := 36) (v := ?_) rfl rfl (by kernel_rfl) (by kernel_rfl) (by kernel_rfl) (fun _ _ _ h => h) rfl ?_ (by assumption) ?_
        rotate_left
        · (intro w hSw; (try dsimp only at hSw); go_simp; try with_reducible rfl)
        try simp only [Act.put, List.setIfInBounds_toArray, List.set_cons_zero, List.set_cons_succ]
        refine wpAnyH_done (by kernel_rfl) ?_ _
        refine NoPanic.normal ?_
        go_wp2
        go_ret
        exact retBel rfl ((‹Keeps _ _ _›).bel hbel.size hbel)

set_option maxRecDepth 100000 in
theorem lifted (os : Os) (started : os.Started) (H : Type) (enc : TypeId × Value → H) :
    ReturnsInHanded {} Try.checked os 7 .any (Rows.fnSignedFitsSpec.pre6 enc Try.prog Try.f7 Rows.fnSignedFitsRow.domain false) (Rows.fnSignedFitsSpec.post enc Try.prog Try.f7 false true false false) := by
  refine returnsInHanded_of_change (C := Try.checked) Try.own started (by kernel_rfl) Try.func7
    (ChangeSpec.witness6 (enc := enc) (C := Try.checked) false ⟨#[], #[.agg #[.int .u64 0, .int .u64 0, .int .u64 0, .int .u64 0], .agg #[.int .u64 0, .int .u64 0, .int .u64 0, .int .u64 0]], []⟩ 8 (by kernel_rfl) (by kernel_rfl) (by kernel_rfl) (by kernel_rfl)) ?_
  intro W base args ds gs before hval0 hW hcnd _
  have hval : ∀ (j : Nat) t v, Try.f7.params[j]? = some t → args[j]? = some v → Value.okWide Try.prog W .any base t v := hval0
  have hW' := hW
  obtain ⟨p, q, hA0, hV, rfl, hfz, hnd⟩ := hW
  have hA : DataW.TrodAll enc Try.prog W 0 (fun _ => true) true Try.f7.params.toList args.toList ds p := hA0
  rw [Try.params7] at hA hval
  obtain ⟨v0, vs0, d0, ds0, p0, q0, hargs, rfl, rfl, h0, r0⟩ := trodAll_cons hA
  obtain ⟨v1, vs1, d1, ds1, p1, q1, rfl, rfl, rfl, h1, r1⟩ := trodAll_cons r0
  obtain ⟨rfl, rfl, rfl⟩ := trodAll_nil r1
  obtain rfl : args = #[v0, v1] := by cases args; simp_all
  obtain ⟨rfl, rfl⟩ := trodVars_none hV
  have k0 := h0
  have lt0 : ∀ x ∈ p0, x.block < W.heap.size := by obtain ⟨m, hm⟩ := k0; exact DataW.trod_lt m _ _ _ hm
  obtain ⟨x0, rfl⟩ := open_num (hval 0 26 v0 rfl rfl)
  have k1 := h1
  have lt1 : ∀ x ∈ p1, x.block < W.heap.size := by obtain ⟨m, hm⟩ := k1; exact DataW.trod_lt m _ _ _ hm
  obtain ⟨x1, rfl⟩ := open_num (hval 1 26 v1 rfl rfl)
  clear hA0 hval0
  refine (walk x0 x1 W).mono fun e W' ⟨he, bel⟩ => ?_
  subst he
  exact ⟨_, rfl, _, _, _, [], _, [], hW', trodAll_mk1 (shut_bool Try.underlying4 _), (trodAll_cons_mk (Below.trod Try.laidOut (by kernel_rfl) (of_decide_eq_true (by kernel_rfl)) k0 bel lt0) (trodAll_cons_mk (Below.trod Try.laidOut (by kernel_rfl) (of_decide_eq_true (by kernel_rfl)) k1 bel lt1) trodAll_mk0)), rfl, bel.frame _, fun h => by cases h⟩

theorem holds : Rows.FnSignedFitsSaid :=
  OpenClaim.holds_of_wide 7 Try.f7 rfl rfl rfl rfl rfl rfl rfl ⟨rfl, rfl, rfl, rfl, rfl⟩ rfl rfl rfl rfl rfl (by kernel_rfl) Try.func7 (by kernel_rfl)
    (of_decide_eq_true (by kernel_rfl)) (by unfold Func.isWrapper; first | (rw [if_pos (by decide +kernel)]; kernel_rfl) | (rw [if_neg (by decide +kernel)]; exact ⟨rfl, rfl⟩))
    (fun os started H enc _ => lifted os started H enc)
#print axioms holds
end Go.Proofs.Ytbmlbjpiodiihaa.fnSignedFits
