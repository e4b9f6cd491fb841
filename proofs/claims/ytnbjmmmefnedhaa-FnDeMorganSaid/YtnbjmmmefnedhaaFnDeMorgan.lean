/-
  For every two numbers: And turned is Or of both turned, and Xor is Or less And (the statement FnDeMorganSaid, no conditions).
-/
import Derived.Test.YtnbjmmmefnedhaaOpen
import Derived.Test.YtnbjmmmefnedhaaLawOne
import Derived.Test.YtnbjmmmefnedhaaArith
import Derived.Test.YtnbjmmmefnedhaaEql2
namespace Go.Proofs.Ytnbjmmmefnedhaa.fnDeMorgan
set_option maxRecDepth 20000
open Go.ChangeShapes Go.WideShapes Go.ChangeAt Go.RowKit
set_option linter.unusedVariables false
set_option linter.unusedSimpArgs false

theorem arrayN73 {l : Array Value} (h : l.size = 73) : ∃ x0 x1 x2 x3 x4 x5 x6 x7 x8 x9 x10 x11 x12 x13 x14 x15 x16 x17 x18 x19 x20 x21 x22 x23 x24 x25 x26 x27 x28 x29 x30 x31 x32 x33 x34 x35 x36 x37 x38 x39 x40 x41 x42 x43 x44 x45 x46 x47 x48 x49 x50 x51 x52 x53 x54 x55 x56 x57 x58 x59 x60 x61 x62 x63 x64 x65 x66 x67 x68 x69 x70 x71 x72, l = #[x0, x1, x2, x3, x4, x5, x6, x7, x8, x9, x10, x11, x12, x13, x14, x15, x16, x17, x18, x19, x20, x21, x22, x23, x24, x25, x26, x27, x28, x29, x30, x31, x32, x33, x34, x35, x36, x37, x38, x39, x40, x41, x42, x43, x44, x45, x46, x47, x48, x49, x50, x51, x52, x53, x54, x55, x56, x57, x58, x59, x60, x61, x62, x63, x64, x65, x66, x67, x68, x69, x70, x71, x72] := by
  obtain ⟨l⟩ := l
  have h0 : l.length = 72 + 1 := h
  clear h
  obtain ⟨x0, l1, rfl, h1⟩ := cons_of h0
  obtain ⟨x1, l2, rfl, h2⟩ := cons_of h1
  obtain ⟨x2, l3, rfl, h3⟩ := cons_of h2
  obtain ⟨x3, l4, rfl, h4⟩ := cons_of h3
  obtain ⟨x4, l5, rfl, h5⟩ := cons_of h4
  obtain ⟨x5, l6, rfl, h6⟩ := cons_of h5
  obtain ⟨x6, l7, rfl, h7⟩ := cons_of h6
  obtain ⟨x7, l8, rfl, h8⟩ := cons_of h7
  obtain ⟨x8, l9, rfl, h9⟩ := cons_of h8
  obtain ⟨x9, l10, rfl, h10⟩ := cons_of h9
  obtain ⟨x10, l11, rfl, h11⟩ := cons_of h10
  obtain ⟨x11, l12, rfl, h12⟩ := cons_of h11
  obtain ⟨x12, l13, rfl, h13⟩ := cons_of h12
  obtain ⟨x13, l14, rfl, h14⟩ := cons_of h13
  obtain ⟨x14, l15, rfl, h15⟩ := cons_of h14
  obtain ⟨x15, l16, rfl, h16⟩ := cons_of h15
  obtain ⟨x16, l17, rfl, h17⟩ := cons_of h16
  obtain ⟨x17, l18, rfl, h18⟩ := cons_of h17
  obtain ⟨x18, l19, rfl, h19⟩ := cons_of h18
  obtain ⟨x19, l20, rfl, h20⟩ := cons_of h19
  obtain ⟨x20, l21, rfl, h21⟩ := cons_of h20
  obtain ⟨x21, l22, rfl, h22⟩ := cons_of h21
  obtain ⟨x22, l23, rfl, h23⟩ := cons_of h22
  obtain ⟨x23, l24, rfl, h24⟩ := cons_of h23
  obtain ⟨x24, l25, rfl, h25⟩ := cons_of h24
  obtain ⟨x25, l26, rfl, h26⟩ := cons_of h25
  obtain ⟨x26, l27, rfl, h27⟩ := cons_of h26
  obtain ⟨x27, l28, rfl, h28⟩ := cons_of h27
  obtain ⟨x28, l29, rfl, h29⟩ := cons_of h28
  obtain ⟨x29, l30, rfl, h30⟩ := cons_of h29
  obtain ⟨x30, l31, rfl, h31⟩ := cons_of h30
  obtain ⟨x31, l32, rfl, h32⟩ := cons_of h31
  obtain ⟨x32, l33, rfl, h33⟩ := cons_of h32
  obtain ⟨x33, l34, rfl, h34⟩ := cons_of h33
  obtain ⟨x34, l35, rfl, h35⟩ := cons_of h34
  obtain ⟨x35, l36, rfl, h36⟩ := cons_of h35
  obtain ⟨x36, l37, rfl, h37⟩ := cons_of h36
  obtain ⟨x37, l38, rfl, h38⟩ := cons_of h37
  obtain ⟨x38, l39, rfl, h39⟩ := cons_of h38
  obtain ⟨x39, l40, rfl, h40⟩ := cons_of h39
  obtain ⟨x40, l41, rfl, h41⟩ := cons_of h40
  obtain ⟨x41, l42, rfl, h42⟩ := cons_of h41
  obtain ⟨x42, l43, rfl, h43⟩ := cons_of h42
  obtain ⟨x43, l44, rfl, h44⟩ := cons_of h43
  obtain ⟨x44, l45, rfl, h45⟩ := cons_of h44
  obtain ⟨x45, l46, rfl, h46⟩ := cons_of h45
  obtain ⟨x46, l47, rfl, h47⟩ := cons_of h46
  obtain ⟨x47, l48, rfl, h48⟩ := cons_of h47
  obtain ⟨x48, l49, rfl, h49⟩ := cons_of h48
  obtain ⟨x49, l50, rfl, h50⟩ := cons_of h49
  obtain ⟨x50, l51, rfl, h51⟩ := cons_of h50
  obtain ⟨x51, l52, rfl, h52⟩ := cons_of h51
  obtain ⟨x52, l53, rfl, h53⟩ := cons_of h52
  obtain ⟨x53, l54, rfl, h54⟩ := cons_of h53
  obtain ⟨x54, l55, rfl, h55⟩ := cons_of h54
  obtain ⟨x55, l56, rfl, h56⟩ := cons_of h55
  obtain ⟨x56, l57, rfl, h57⟩ := cons_of h56
  obtain ⟨x57, l58, rfl, h58⟩ := cons_of h57
  obtain ⟨x58, l59, rfl, h59⟩ := cons_of h58
  obtain ⟨x59, l60, rfl, h60⟩ := cons_of h59
  obtain ⟨x60, l61, rfl, h61⟩ := cons_of h60
  obtain ⟨x61, l62, rfl, h62⟩ := cons_of h61
  obtain ⟨x62, l63, rfl, h63⟩ := cons_of h62
  obtain ⟨x63, l64, rfl, h64⟩ := cons_of h63
  obtain ⟨x64, l65, rfl, h65⟩ := cons_of h64
  obtain ⟨x65, l66, rfl, h66⟩ := cons_of h65
  obtain ⟨x66, l67, rfl, h67⟩ := cons_of h66
  obtain ⟨x67, l68, rfl, h68⟩ := cons_of h67
  obtain ⟨x68, l69, rfl, h69⟩ := cons_of h68
  obtain ⟨x69, l70, rfl, h70⟩ := cons_of h69
  obtain ⟨x70, l71, rfl, h71⟩ := cons_of h70
  obtain ⟨x71, l72, rfl, h72⟩ := cons_of h71
  obtain ⟨x72, l73, rfl, h73⟩ := cons_of h72
  cases l73 with
  | nil => exact ⟨x0, x1, x2, x3, x4, x5, x6, x7, x8, x9, x10, x11, x12, x13, x14, x15, x16, x17, x18, x19, x20, x21, x22, x23, x24, x25, x26, x27, x28, x29, x30, x31, x32, x33, x34, x35, x36, x37, x38, x39, x40, x41, x42, x43, x44, x45, x46, x47, x48, x49, x50, x51, x52, x53, x54, x55, x56, x57, x58, x59, x60, x61, x62, x63, x64, x65, x66, x67, x68, x69, x70, x71, x72, rfl⟩
  | cons a t => simp at h73
def VF (x : N4) (y : N4) : Nat → Value → World → Prop
  | 0, v, w => v = freshW.v
  | 1, v, w => v = x.v
  | 2, v, w => v = y.v
  | 3, v, w => v = .agg #[.int .u64 0, .int .u64 0, .int .u64 0, .int .u64 0, V x.a, V x.b, V x.c, V x.d, V y.a, V y.b, V y.c, V y.d, .int .u64 0, .int .u64 0, .int .u64 0, .int .u64 0]
  | 4, v, w => v = ansV ⟨x.and y, x, y, nulN⟩ false
  | 5, v, w => v = (C4.mk (x.and y) x y nulN).v
  | 6, v, w => v = (x.and y).v
  | 7, v, w => v = .tuple #[freshW.v, (oneC (x.and y)).v]
  | 8, v, w => v = freshW.v
  | 9, v, w => v = (oneC (x.and y)).v
  | 10, v, w => v = ansV ⟨(x.and y).not, x.and y, nulN, nulN⟩ false
  | 11, v, w => v = (C4.mk (x.and y).not (x.and y) nulN nulN).v
  | 12, v, w => v = ((x.and y).not).v
  | 13, v, w => ∃ B, v = .pointer (some ⟨B, 0, none⟩) ∧ w.there B 0 4
  | 14, v, w => ∃ B, v = .pointer (some ⟨B, 0, none⟩) ∧ At4 w B 0 (((x.and y).not))
  | _, _, _ => False
theorem VF_mono (x : N4) (y : N4) : ∀ j v w w', Below w.heap.size w w' → VF x y j v w → VF x y j v w' := by
  intro j v w w' hb h
  match j, h with
  | 0, h => exact h
  | 1, h => exact h
  | 2, h => exact h
  | 3, h => exact h
  | 4, h => exact h
  | 5, h => exact h
  | 6, h => exact h
  | 7, h => exact h
  | 8, h => exact h
  | 9, h => exact h
  | 10, h => exact h
  | 11, h => exact h
  | 12, h => exact h
  | 13, h => obtain ⟨B, rfl, h1⟩ := h; exact ⟨B, rfl, there_bel h1 (by omega) hb⟩
  | 14, h => obtain ⟨B, rfl, h1⟩ := h; exact ⟨B, rfl, At4.bel h1 hb⟩
attribute [local go_sem ↓] fldAns fldA
theorem or_nul (x : N4) : x.or nulN = x := by
  unfold N4.or nulN; simp
theorem morgan (x y : N4) : (x.and y).not = x.not.or y.not := by
  unfold N4.and N4.not N4.or; simp [BitVec.not_and]
theorem word_xor (a b : W64) : (a ||| b).toNat = (a ^^^ b).toNat + (a &&& b).toNat := by
  have h : (a ^^^ b) &&& (a &&& b) = 0#64 := by
    apply BitVec.eq_of_getLsbD_eq; intro i hi; simp; cases a.getLsbD i <;> simp
  have e : a ||| b = (a ^^^ b) ||| (a &&& b) := by
    apply BitVec.eq_of_getLsbD_eq; intro i hi; simp; cases a.getLsbD i <;> cases b.getLsbD i <;> rfl
  rw [e, ← BitVec.add_eq_or_of_and_eq_zero _ _ h, BitVec.toNat_add_of_and_eq_zero h]
theorem xor_is (x y : N4) : x.xor y = (x.or y).dif (x.and y) := by
  apply toNat_inj
  have e : (x.or y).toNat = (x.xor y).toNat + (x.and y).toNat := by
    unfold N4.or N4.xor N4.and N4.toNat
    simp only [word_xor]
    omega
  rw [dif_toNat, e]
  have := toNat_lt (x.xor y); have := toNat_lt (x.and y)
  omega
set_option maxHeartbeats 4000000 in
theorem walk (x y : N4) (w : World) : Calls Try.prog 10 #[x.v, y.v] w (RetBel (.bool true) w) := by
  have h0 : (x.or nulN).eqb x = true := (eqb_iff _ _).2 (or_nul x)
  have h1 : ((x.and y).not).eqb (x.not.or y.not) = true := (eqb_iff _ _).2 (morgan x y)
  have h2 : (x.xor y).eqb ((x.or y).dif (x.and y)) = true := (eqb_iff _ _).2 (xor_is x y)
  have QC00 : ∀ w, Calls Try.prog 37 #[freshW.v, .agg #[.int .u64 0, .int .u64 0, .int .u64 0, .int .u64 0, V x.a, V x.b, V x.c, V x.d, .int .u64 0, .int .u64 0, .int .u64 0, .int .u64 0, .int .u64 0, .int .u64 0, .int .u64 0, .int .u64 0]] w (RetBel (ansV ⟨x.or nulN, x, nulN, nulN⟩ false) w) := fun w => implOr_any freshW (oneC x) w freshW_ok
  have QC0 := Lib.hid QC00
  clear QC00
  have CA0 : ∀ w, Calls Try.prog 40 #[freshW.v, .agg #[.int .u64 0, .int .u64 0, .int .u64 0, .int .u64 0, V x.a, V x.b, V x.c, V x.d, V y.a, V y.b, V y.c, V y.d, .int .u64 0, .int .u64 0, .int .u64 0, .int .u64 0]] w (RetBel (ansV ⟨x.and y, x, y, nulN⟩ false) w) := fun w => implAnd_any freshW (xyC x y) w freshW_ok
  have CA := Lib.hid CA0
  clear CA0
  have CN0 : ∀ w, Calls Try.prog 38 #[freshW.v, (oneC (x.and y)).v] w (RetBel (ansV ⟨(x.and y).not, x.and y, nulN, nulN⟩ false) w) := fun w => implNot_any freshW (oneC (x.and y)) w freshW_ok
  have CN := Lib.hid CN0
  clear CN0
  have QC30 : ∀ w, Calls Try.prog 38 #[freshW.v, (oneC x).v] w (RetBel (ansV ⟨x.not, x, nulN, nulN⟩ false) w) := fun w => implNot_any freshW (oneC x) w freshW_ok
  have QC3 := Lib.hid QC30
  clear QC30
  have QC40 : ∀ w, Calls Try.prog 38 #[freshW.v, (oneC y).v] w (RetBel (ansV ⟨y.not, y, nulN, nulN⟩ false) w) := fun w => implNot_any freshW (oneC y) w freshW_ok
  have QC4 := Lib.hid QC40
  clear QC40
  have QC50 : ∀ w, Calls Try.prog 37 #[freshW.v, .agg #[.int .u64 0, .int .u64 0, .int .u64 0, .int .u64 0, V x.not.a, V x.not.b, V x.not.c, V x.not.d, V y.not.a, V y.not.b, V y.not.c, V y.not.d, .int .u64 0, .int .u64 0, .int .u64 0, .int .u64 0]] w (RetBel (ansV ⟨x.not.or y.not, x.not, y.not, nulN⟩ false) w) := fun w => implOr_any freshW (xyC x.not y.not) w freshW_ok
  have QC5 := Lib.hid QC50
  clear QC50
  have QC60 : ∀ w, Calls Try.prog 41 #[freshW.v, .agg #[.int .u64 0, .int .u64 0, .int .u64 0, .int .u64 0, V x.a, V x.b, V x.c, V x.d, V y.a, V y.b, V y.c, V y.d, .int .u64 0, .int .u64 0, .int .u64 0, .int .u64 0]] w (RetBel (ansV ⟨x.xor y, x, y, nulN⟩ false) w) := fun w => implXor_any freshW (xyC x y) w freshW_ok
  have QC6 := Lib.hid QC60
  clear QC60
  have QC70 : ∀ w, Calls Try.prog 37 #[freshW.v, .agg #[.int .u64 0, .int .u64 0, .int .u64 0, .int .u64 0, V x.a, V x.b, V x.c, V x.d, V y.a, V y.b, V y.c, V y.d, .int .u64 0, .int .u64 0, .int .u64 0, .int .u64 0]] w (RetBel (ansV ⟨x.or y, x, y, nulN⟩ false) w) := fun w => implOr_any freshW (xyC x y) w freshW_ok
  have QC7 := Lib.hid QC70
  clear QC70
  have OA0 : ∀ w, Calls Try.prog 39 #[(x.and y).v] w (RetBel (.tuple #[freshW.v, (oneC (x.and y)).v]) w) := one_law (x.and y)
  have OA := Lib.hid OA0
  clear OA0
  have OX0 : ∀ w, Calls Try.prog 39 #[(x).v] w (RetBel (.tuple #[freshW.v, (oneC (x)).v]) w) := one_law (x)
  have OX := Lib.hid OX0
  clear OX0
  have OY0 : ∀ w, Calls Try.prog 39 #[(y).v] w (RetBel (.tuple #[freshW.v, (oneC (y)).v]) w) := one_law (y)
  have OY := Lib.hid OY0
  clear OY0
  have SB0 : ∀ w, Calls Try.prog 42 #[(x.or y).v, (x.and y).v] w (RetBel (N4.v ((x.or y).dif (x.and y))) w) := sub_law (x.or y) (x.and y)
  have SB := Lib.hid SB0
  clear SB0
  go_enter Try.func10, Try.ntmps10
  go_wp2
  go_region_held3 (Keeps (w.heap.size + 2) ((w.alloc (Obj.cells #[V x.a, V x.b, V x.c, V x.d] 26)).alloc (Obj.cells #[V y.a, V y.b, V y.c, V y.d] 26))) (first | exact Keeps.start _ _ | exact Keeps.step (by assumption) (by simp) hb)
    (first | (go_at_call 36; refine (fresh_any _).mono ?_; rintro e w1 ⟨rfl, hb⟩) | (go_at_call 37; (first | (with_reducible refine (QC0.out _).mono ?_)); rintro e w1 ⟨rfl, hb⟩))
  obtain ⟨k1, hbw⟩ := ‹Keeps _ _ _›
  have b0 := fun o => k1 w.heap.size o (by omega)
  have b1 := fun o => k1 (w.heap.size + 1) o (by omega)
  have zsz := hbw.size
  simp [go_sem] at b0 b1 zsz
  have belw := (bel_alloc (bel_alloc (bel_refl w) (Obj.cells #[V x.a, V x.b, V x.c, V x.d] 26)) (Obj.cells #[V y.a, V y.b, V y.c, V y.d] 26)).trans (hbw.mono (by omega))
  clear k1 hbw
  go_wp2
  refine wp_region_all (by kernel_rfl) (GA [14, 15, 16, 17, 18, 19, 20, 21, 22, 23, 24, 25, 26, 5] [5] [] _ _ _) (FV (fun i => [14, 15, 16, 17, 18, 19, 20, 21, 22, 23, 24, 25, 26, 5, 5].getD i 0) (VF x y)) (all_ord (by kernel_rfl)) (GA.start (by simp)) ?_ ?_
  · intro j o ho a' w' hG hpre
    have hj : j < 15 := getElem?_lt ho
    have hb := hG.bel
    have s0 := hG.frame.rest 2 (by decide)
    have hc0 := fun o => (hb.cell (p := ⟨w.heap.size, o, none⟩) (show w.heap.size < _ by omega)).trans (b0 o)
    have s1 := hG.frame.rest 3 (by decide)
    have hc1 := fun o => (hb.cell (p := ⟨w.heap.size + 1, o, none⟩) (show w.heap.size + 1 < _ by omega)).trans (b1 o)
    simp [go_sem] at s0 s1
    match j, hj with
    | 0, _ =>
      cases ho
      refine all_val rfl rfl rfl hG (by decide) (by decide) (by simp) rfl (by kernel_rfl) (VF_mono _ _) ?_
      refine step_call (f := 36) (args := #[]) (w' := w') ?_ (fresh_any w') ?_
      · simp [execOp, Act.eval, go_sem]
      · rintro e w'' ⟨rfl, hb2⟩
        exact ⟨_, rfl, rfl, hb2⟩
    | 1, _ =>
      cases ho
      refine all_val rfl rfl rfl hG (by decide) (by decide) (by simp) rfl (by kernel_rfl) (VF_mono _ _) ?_
      refine step_val (v := x.v) (w' := w') ?_ ⟨rfl, bel_refl _⟩
      simp [execOp, Act.eval, s0, hc0, go_sem]
    | 2, _ =>
      cases ho
      refine all_val rfl rfl rfl hG (by decide) (by decide) (by simp) rfl (by kernel_rfl) (VF_mono _ _) ?_
      refine step_val (v := y.v) (w' := w') ?_ ⟨rfl, bel_refl _⟩
      simp [execOp, Act.eval, s1, hc1, go_sem]
    | 3, _ =>
      cases ho
      refine all_val rfl rfl rfl hG (by decide) (by decide) (by simp) rfl (by kernel_rfl) (VF_mono _ _) ?_
      obtain ⟨v0, e0, rfl⟩ := FV.get (d := 15) (hpre ⟨1, .data⟩ (by simp) rfl) rfl
      obtain ⟨v1, e1, rfl⟩ := FV.get (d := 16) (hpre ⟨2, .data⟩ (by simp) rfl) rfl
      refine step_val (v := .agg #[.int .u64 0, .int .u64 0, .int .u64 0, .int .u64 0, V x.a, V x.b, V x.c, V x.d, V y.a, V y.b, V y.c, V y.d, .int .u64 0, .int .u64 0, .int .u64 0, .int .u64 0]) (w' := w') ?_ ⟨rfl, bel_refl _⟩
      simp [execOp, Act.eval, e0, e1, go_sem]
    | 4, _ =>
      cases ho
      refine all_val rfl rfl rfl hG (by decide) (by decide) (by simp) rfl (by kernel_rfl) (VF_mono _ _) ?_
      obtain ⟨v0, e0, rfl⟩ := FV.get (d := 14) (hpre ⟨0, .data⟩ (by simp) rfl) rfl
      obtain ⟨v1, e1, rfl⟩ := FV.get (d := 17) (hpre ⟨3, .data⟩ (by simp) rfl) rfl
      refine step_call (f := 40) (args := #[freshW.v, .agg #[.int .u64 0, .int .u64 0, .int .u64 0, .int .u64 0, V x.a, V x.b, V x.c, V x.d, V y.a, V y.b, V y.c, V y.d, .int .u64 0, .int .u64 0, .int .u64 0, .int .u64 0]]) (w' := w') ?_ (CA.out w') ?_
      · simp [execOp, Act.eval, e0, e1, go_sem]
      · rintro e w'' ⟨rfl, hb2⟩
        exact ⟨_, rfl, rfl, hb2⟩
    | 5, _ =>
      cases ho
      refine all_val rfl rfl rfl hG (by decide) (by decide) (by simp) rfl (by kernel_rfl) (VF_mono _ _) ?_
      obtain ⟨v0, e0, rfl⟩ := FV.get (d := 18) (hpre ⟨4, .data⟩ (by simp) rfl) rfl
      refine step_val (v := (C4.mk (x.and y) x y nulN).v) (w' := w') ?_ ⟨rfl, bel_refl _⟩
      simp [execOp, Act.eval, e0, fldAns, go_sem]
    | 6, _ =>
      cases ho
      refine all_val rfl rfl rfl hG (by decide) (by decide) (by simp) rfl (by kernel_rfl) (VF_mono _ _) ?_
      obtain ⟨v0, e0, rfl⟩ := FV.get (d := 19) (hpre ⟨5, .data⟩ (by simp) rfl) rfl
      refine step_val (v := (x.and y).v) (w' := w') ?_ ⟨rfl, bel_refl _⟩
      simp [execOp, Act.eval, e0, fldA, go_sem]
    | 7, _ =>
      cases ho
      refine all_val rfl rfl rfl hG (by decide) (by decide) (by simp) rfl (by kernel_rfl) (VF_mono _ _) ?_
      obtain ⟨v0, e0, rfl⟩ := FV.get (d := 20) (hpre ⟨6, .data⟩ (by simp) rfl) rfl
      refine step_call (f := 39) (args := #[(x.and y).v]) (w' := w') ?_ (OA.out w') ?_
      · simp [execOp, Act.eval, e0, go_sem]
      · rintro e w'' ⟨rfl, hb2⟩
        exact ⟨_, rfl, rfl, hb2⟩
    | 8, _ =>
      cases ho
      refine all_val rfl rfl rfl hG (by decide) (by decide) (by simp) rfl (by kernel_rfl) (VF_mono _ _) ?_
      obtain ⟨v0, e0, rfl⟩ := FV.get (d := 21) (hpre ⟨7, .data⟩ (by simp) rfl) rfl
      refine step_val (v := freshW.v) (w' := w') ?_ ⟨rfl, bel_refl _⟩
      simp [execOp, Act.eval, e0, go_sem]
    | 9, _ =>
      cases ho
      refine all_val rfl rfl rfl hG (by decide) (by decide) (by simp) rfl (by kernel_rfl) (VF_mono _ _) ?_
      obtain ⟨v0, e0, rfl⟩ := FV.get (d := 21) (hpre ⟨7, .data⟩ (by simp) rfl) rfl
      refine step_val (v := (oneC (x.and y)).v) (w' := w') ?_ ⟨rfl, bel_refl _⟩
      simp [execOp, Act.eval, e0, go_sem]
    | 10, _ =>
      cases ho
      refine all_val rfl rfl rfl hG (by decide) (by decide) (by simp) rfl (by kernel_rfl) (VF_mono _ _) ?_
      obtain ⟨v0, e0, rfl⟩ := FV.get (d := 22) (hpre ⟨8, .data⟩ (by simp) rfl) rfl
      obtain ⟨v1, e1, rfl⟩ := FV.get (d := 23) (hpre ⟨9, .data⟩ (by simp) rfl) rfl
      refine step_call (f := 38) (args := #[freshW.v, (oneC (x.and y)).v]) (w' := w') ?_ (CN.out w') ?_
      · simp [execOp, Act.eval, e0, e1, go_sem]
      · rintro e w'' ⟨rfl, hb2⟩
        exact ⟨_, rfl, rfl, hb2⟩
    | 11, _ =>
      cases ho
      refine all_val rfl rfl rfl hG (by decide) (by decide) (by simp) rfl (by kernel_rfl) (VF_mono _ _) ?_
      obtain ⟨v0, e0, rfl⟩ := FV.get (d := 24) (hpre ⟨10, .data⟩ (by simp) rfl) rfl
      refine step_val (v := (C4.mk (x.and y).not (x.and y) nulN nulN).v) (w' := w') ?_ ⟨rfl, bel_refl _⟩
      simp [execOp, Act.eval, e0, fldAns, go_sem]
    | 12, _ =>
      cases ho
      refine all_val rfl rfl rfl hG (by decide) (by decide) (by simp) rfl (by kernel_rfl) (VF_mono _ _) ?_
      obtain ⟨v0, e0, rfl⟩ := FV.get (d := 25) (hpre ⟨11, .data⟩ (by simp) rfl) rfl
      refine step_val (v := ((x.and y).not).v) (w' := w') ?_ ⟨rfl, bel_refl _⟩
      simp [execOp, Act.eval, e0, fldA, go_sem]
    | 13, _ =>
      cases ho
      refine all_alloc (.cells #[.int .u64 0, .int .u64 0, .int .u64 0, .int .u64 0] 26) rfl rfl rfl hG (by decide) (by simp) rfl (by kernel_rfl) (VF_mono _ _) ?_ ⟨_, rfl, there_new _ _ _ _ (by simp)⟩
      simp [execOp, Act.eval, go_sem]
    | 14, _ =>
      cases ho
      obtain ⟨vp, ep, B, rfl, hth⟩ := FV.get (d := 5) (hpre ⟨13, .data⟩ (by simp) rfl) rfl
      obtain ⟨vx, ex, rfl⟩ := FV.get (d := 26) (hpre ⟨12, .data⟩ (by simp) rfl) rfl
      refine all_store 26 _ _ rfl B 0 [V (((x.and y).not)).a, V (((x.and y).not)).b, V (((x.and y).not)).c, V (((x.and y).not)).d] rfl rfl rfl hG rfl ep (by simp [Act.eval, ep]) (by simp [Act.eval, ex]) hth (hG.apart.1 5 (by decide) B 0 ep).1 (by kernel_rfl) (by simp [Value.oneCell']) ⟨B, rfl, At4.setNew hth⟩ ?_
      intro i u hij hi hu hv
      match i, hi with
      | 0, _ => exact (show u = freshW.v from hv)
      | 1, _ => exact (show u = x.v from hv)
      | 2, _ => exact (show u = y.v from hv)
      | 3, _ => exact (show u = .agg #[.int .u64 0, .int .u64 0, .int .u64 0, .int .u64 0, V x.a, V x.b, V x.c, V x.d, V y.a, V y.b, V y.c, V y.d, .int .u64 0, .int .u64 0, .int .u64 0, .int .u64 0] from hv)
      | 4, _ => exact (show u = ansV ⟨x.and y, x, y, nulN⟩ false from hv)
      | 5, _ => exact (show u = (C4.mk (x.and y) x y nulN).v from hv)
      | 6, _ => exact (show u = (x.and y).v from hv)
      | 7, _ => exact (show u = .tuple #[freshW.v, (oneC (x.and y)).v] from hv)
      | 8, _ => exact (show u = freshW.v from hv)
      | 9, _ => exact (show u = (oneC (x.and y)).v from hv)
      | 10, _ => exact (show u = ansV ⟨(x.and y).not, x.and y, nulN, nulN⟩ false from hv)
      | 11, _ => exact (show u = (C4.mk (x.and y).not (x.and y) nulN nulN).v from hv)
      | 12, _ => exact (show u = ((x.and y).not).v from hv)
      | 13, _ => obtain ⟨B2, rfl, h⟩ := hv; exact ⟨B2, rfl, World.there_setCells h _ _ _⟩
      | 14, _ => exact absurd rfl hij
      | i + 15, hi => exact absurd hi (by simp)
    | n + 15, hj => exact absurd hj (by simp)
  · intro a' w' hG hF
    obtain ⟨_, e5, B5, rfl, h5⟩ := FV.get (d := 5) (hF 14 (by decide)) rfl
    have l5 := h5.lt
    obtain ⟨h50, h51, h52, h53⟩ := h5
    simp only [Nat.zero_add] at h51 h52 h53
    have s2 := hG.frame.rest 2 (by decide)
    have c2 := fun o => (hG.bel.cell (p := ⟨w.heap.size, o, none⟩) (show w.heap.size < _ by omega)).trans (b0 o)
    have s3 := hG.frame.rest 3 (by decide)
    have c3 := fun o => (hG.bel.cell (p := ⟨w.heap.size + 1, o, none⟩) (show w.heap.size + 1 < _ by omega)).trans (b1 o)
    have hsz := hG.frame.size
    have hdf := hG.frame.defers
    have hgs := hG.bel.size
    have hbel : Below w.heap.size w w' := bel_trans belw hG.bel
    have z2 : w.heap.size < w'.heap.size := by omega
    have z3 : w.heap.size + 1 < w'.heap.size := by omega
    clear hF hG
    obtain ⟨tm, df⟩ := a'
    obtain ⟨x0, x1, x2, x3, x4, x5, x6, x7, x8, x9, x10, x11, x12, x13, x14, x15, x16, x17, x18, x19, x20, x21, x22, x23, x24, x25, x26, x27, x28, x29, x30, x31, x32, x33, x34, x35, x36, x37, x38, x39, x40, x41, x42, x43, x44, x45, x46, x47, x48, x49, x50, x51, x52, x53, x54, x55, x56, x57, x58, x59, x60, x61, x62, x63, x64, x65, x66, x67, x68, x69, x70, x71, x72, rfl⟩ := arrayN73 hsz
    simp [go_sem] at e5 s2 s3 hdf
    subst e5 s2 s3 hdf
    clear hsz
    go_wp2
    go_region_held3 (Keeps w'.heap.size w') (first | assumption | exact Keeps.start _ _ | exact Keeps.step (by assumption) (Nat.le_refl _) hb)
      (first | (go_at_call 36; refine (fresh_any _).mono ?_; rintro e w1 ⟨rfl, hb⟩) | (go_at_call 37; (first | (with_reducible refine (QC5.out _).mono ?_) | (with_reducible refine (QC7.out _).mono ?_)); rintro e w1 ⟨rfl, hb⟩) | (go_at_call 40; (first | (with_reducible refine (CA.out _).mono ?_)); rintro e w1 ⟨rfl, hb⟩) | (go_at_call 41; (first | (with_reducible refine (QC6.out _).mono ?_)); rintro e w1 ⟨rfl, hb⟩) | (go_at_call 38; (first | (with_reducible refine (QC3.out _).mono ?_) | (with_reducible refine (QC4.out _).mono ?_)); rintro e w1 ⟨rfl, hb⟩) | (go_at_call 39; (first | (with_reducible refine (OX.out _).mono ?_) | (with_reducible refine (OY.out _).mono ?_)); rintro e w1 ⟨rfl, hb⟩) | (go_at_call 42; (first | (with_reducible refine (SB.out _).mono ?_)); rintro e w1 ⟨rfl, hb⟩))
    go_wp2
    go_ret
    exact retBel rfl ((‹Keeps _ _ _›).bel hbel.size hbel)

set_option maxRecDepth 100000 in
theorem lifted (os : Os) (started : os.Started) (H : Type) (enc : TypeId × Value → H) :
    ReturnsInHanded {} Try.checked os 10 .any (Rows.fnDeMorganSpec.pre6 enc Try.prog Try.f10 Rows.fnDeMorganRow.domain false) (Rows.fnDeMorganSpec.post enc Try.prog Try.f10 false true false false) := by
  refine returnsInHanded_of_change (C := Try.checked) Try.own started (by kernel_rfl) Try.func10
    (ChangeSpec.witness6 (enc := enc) (C := Try.checked) false ⟨#[], #[.agg #[.int .u64 0, .int .u64 0, .int .u64 0, .int .u64 0], .agg #[.int .u64 0, .int .u64 0, .int .u64 0, .int .u64 0]], []⟩ 8 (by kernel_rfl) (by kernel_rfl) (by kernel_rfl) (by kernel_rfl)) ?_
  intro W base args ds gs before hval0 hW hcnd _
  have hval : ∀ (j : Nat) t v, Try.f10.params[j]? = some t → args[j]? = some v → Value.okWide Try.prog W .any base t v := hval0
  have hW' := hW
  obtain ⟨p, q, hA0, hV, rfl, hfz, hnd⟩ := hW
  have hA : DataW.TrodAll enc Try.prog W 0 (fun _ => true) true Try.f10.params.toList args.toList ds p := hA0
  rw [Try.params10] at hA hval
  obtain ⟨v0, vs0, d0, ds0, p0, q0, hargs, rfl, rfl, h0, r0⟩ := trodAll_cons hA
  obtain ⟨v1, vs1, d1, ds1, p1, q1, rfl, rfl, rfl, h1, r1⟩ := trodAll_cons r0
  obtain ⟨rfl, rfl, rfl⟩ := trodAll_nil r1
  obtain rfl : args = #[v0, v1] := by cases args; simp_all
  obtain ⟨rfl, rfl⟩ := trodVars_none hV
  have k0 := h0
  have lt0 : ∀ x ∈ p0, x.block < W.heap.size := by obtain ⟨m, hm⟩ := k0; exact DataW.trod_lt m _ _ _ hm
  obtain ⟨x0, rfl⟩ := open_num (hval 0 26 v0 rfl rfl)
  have k1 := h1
  have lt1 : ∀ x ∈ p1, x.block < W.heap.size := by obtain ⟨m, hm⟩ := k1; exact DataW.trod_lt m _ _ _ hm
  obtain ⟨x1, rfl⟩ := open_num (hval 1 26 v1 rfl rfl)
  clear hA0 hval0
  refine (walk x0 x1 W).mono fun e W' ⟨he, bel⟩ => ?_
  subst he
  exact ⟨_, rfl, _, _, _, [], _, [], hW', trodAll_mk1 (shut_bool Try.underlying4 _), (trodAll_cons_mk (Below.trod Try.laidOut (by kernel_rfl) (of_decide_eq_true (by kernel_rfl)) k0 bel lt0) (trodAll_cons_mk (Below.trod Try.laidOut (by kernel_rfl) (of_decide_eq_true (by kernel_rfl)) k1 bel lt1) trodAll_mk0)), rfl, bel.frame _, fun h => by cases h⟩

theorem holds : Rows.FnDeMorganSaid :=
  OpenClaim.holds_of_wide 10 Try.f10 rfl rfl rfl rfl rfl rfl rfl ⟨rfl, rfl, rfl, rfl, rfl⟩ rfl rfl rfl rfl rfl (by kernel_rfl) Try.func10 (by kernel_rfl)
    (of_decide_eq_true (by kernel_rfl)) (by unfold Func.isWrapper; first | (rw [if_pos (by decide +kernel)]; kernel_rfl) | (rw [if_neg (by decide +kernel)]; exact ⟨rfl, rfl⟩))
    (fun os started H enc _ => lifted os started H enc)
#print axioms holds
end Go.Proofs.Ytnbjmmmefnedhaa.fnDeMorgan
