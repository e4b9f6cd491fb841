/-
  For every number: the square of the root is not above the number, that of the next number is (the statement FnSqrtFitsSaid, no conditions).
-/
import Derived.Test.YtbmlbjpiodiihaaOpen
import Derived.Test.YtbmlbjpiodiihaaLawOne
import Derived.Test.YtbmlbjpiodiihaaDesk9
import Derived.Test.YtbmlbjpiodiihaaDesk4
import Derived.Test.YtbmlbjpiodiihaaDesk13
import Derived.Test.YtbmlbjpiodiihaaRegion2
import Derived.Test.YtbmlbjpiodiihaaRegionL
import Derived.Test.YtbmlbjpiodiihaaImpl0
import Derived.Test.YtbmlbjpiodiihaaArith
namespace Go.Proofs.Ytbmlbjpiodiihaa.fnSqrtFits
set_option maxRecDepth 20000
open Go.ChangeShapes Go.WideShapes Go.ChangeAt Go.RowKit
set_option linter.unusedVariables false
set_option linter.unusedSimpArgs false

attribute [local go_sem ↓] fldAns fldA
theorem fits_law (x r n : N4) (hr : r = ofN (rootN x.toNat)) (hn : n = r.add ⟨1#64, 0#64, 0#64, 0#64⟩) :
    r.mulc r = false ∧ x.ltc (r.mul r) = false ∧ (n.mulc n = true ∨ x.ltc (n.mul n) = true) := by
  obtain ⟨k1, k2⟩ := rootN_spec x.toNat
  have hx := toNat_lt x
  have hs := first_above hx
  have h1 : r.toNat = rootN x.toNat := by
    rw [hr, ofN_toNat]
    exact Nat.mod_eq_of_lt (Nat.lt_of_le_of_lt hs (by decide))
  have h2 : n.toNat = rootN x.toNat + 1 := by
    rw [hn, add_toNat, h1, show (⟨1#64, 0#64, 0#64, 0#64⟩ : N4).toNat = 1 from rfl]
    exact Nat.mod_eq_of_lt (by omega)
  unfold N4.mulc
  rw [ltc_eq, ltc_eq, mul_toNat, mul_toNat, h1, h2]
  generalize rootN x.toNat = q at *
  refine ⟨decide_eq_false (by omega), ?_, ?_⟩
  · rw [Nat.mod_eq_of_lt (by omega)]
    exact decide_eq_false (by omega)
  · rcases Nat.lt_or_ge ((q + 1) * (q + 1)) (2 ^ 256) with h | h
    · rw [Nat.mod_eq_of_lt h]
      exact .inr (decide_eq_true (by omega))
    · exact .inl (decide_eq_true h)
theorem arrayN52 {l : Array Value} (h : l.size = 52) : ∃ x0 x1 x2 x3 x4 x5 x6 x7 x8 x9 x10 x11 x12 x13 x14 x15 x16 x17 x18 x19 x20 x21 x22 x23 x24 x25 x26 x27 x28 x29 x30 x31 x32 x33 x34 x35 x36 x37 x38 x39 x40 x41 x42 x43 x44 x45 x46 x47 x48 x49 x50 x51, l = #[x0, x1, x2, x3, x4, x5, x6, x7, x8, x9, x10, x11, x12, x13, x14, x15, x16, x17, x18, x19, x20, x21, x22, x23, x24, x25, x26, x27, x28, x29, x30, x31, x32, x33, x34, x35, x36, x37, x38, x39, x40, x41, x42, x43, x44, x45, x46, x47, x48, x49, x50, x51] := by
  obtain ⟨l⟩ := l
  have h0 : l.length = 51 + 1 := h
  clear h
  obtain ⟨x0, l1, rfl, h1⟩ := cons_of h0
  obtain ⟨x1, l2, rfl, h2⟩ := cons_of h1
  obtain ⟨x2, l3, rfl, h3⟩ := cons_of h2
  obtain ⟨x3, l4, rfl, h4⟩ := cons_of h3
  obtain ⟨x4, l5, rfl, h5⟩ := cons_of h4
  obtain ⟨x5, l6, rfl, h6⟩ := cons_of h5
  obtain ⟨x6, l7, rfl, h7⟩ := cons_of h6
  obtain ⟨x7, l8, rfl, h8⟩ := cons_of h7
  obtain ⟨x8, l9, rfl, h9⟩ := cons_of h8
  obtain ⟨x9, l10, rfl, h10⟩ := cons_of h9
  obtain ⟨x10, l11, rfl, h11⟩ := cons_of h10
  obtain ⟨x11, l12, rfl, h12⟩ := cons_of h11
  obtain ⟨x12, l13, rfl, h13⟩ := cons_of h12
  obtain ⟨x13, l14, rfl, h14⟩ := cons_of h13
  obtain ⟨x14, l15, rfl, h15⟩ := cons_of h14
  obtain ⟨x15, l16, rfl, h16⟩ := cons_of h15
  obtain ⟨x16, l17, rfl, h17⟩ := cons_of h16
  obtain ⟨x17, l18, rfl, h18⟩ := cons_of h17
  obtain ⟨x18, l19, rfl, h19⟩ := cons_of h18
  obtain ⟨x19, l20, rfl, h20⟩ := cons_of h19
  obtain ⟨x20, l21, rfl, h21⟩ := cons_of h20
  obtain ⟨x21, l22, rfl, h22⟩ := cons_of h21
  obtain ⟨x22, l23, rfl, h23⟩ := cons_of h22
  obtain ⟨x23, l24, rfl, h24⟩ := cons_of h23
  obtain ⟨x24, l25, rfl, h25⟩ := cons_of h24
  obtain ⟨x25, l26, rfl, h26⟩ := cons_of h25
  obtain ⟨x26, l27, rfl, h27⟩ := cons_of h26
  obtain ⟨x27, l28, rfl, h28⟩ := cons_of h27
  obtain ⟨x28, l29, rfl, h29⟩ := cons_of h28
  obtain ⟨x29, l30, rfl, h30⟩ := cons_of h29
  obtain ⟨x30, l31, rfl, h31⟩ := cons_of h30
  obtain ⟨x31, l32, rfl, h32⟩ := cons_of h31
  obtain ⟨x32, l33, rfl, h33⟩ := cons_of h32
  obtain ⟨x33, l34, rfl, h34⟩ := cons_of h33
  obtain ⟨x34, l35, rfl, h35⟩ := cons_of h34
  obtain ⟨x35, l36, rfl, h36⟩ := cons_of h35
  obtain ⟨x36, l37, rfl, h37⟩ := cons_of h36
  obtain ⟨x37, l38, rfl, h38⟩ := cons_of h37
  obtain ⟨x38, l39, rfl, h39⟩ := cons_of h38
  obtain ⟨x39, l40, rfl, h40⟩ := cons_of h39
  obtain ⟨x40, l41, rfl, h41⟩ := cons_of h40
  obtain ⟨x41, l42, rfl, h42⟩ := cons_of h41
  obtain ⟨x42, l43, rfl, h43⟩ := cons_of h42
  obtain ⟨x43, l44, rfl, h44⟩ := cons_of h43
  obtain ⟨x44, l45, rfl, h45⟩ := cons_of h44
  obtain ⟨x45, l46, rfl, h46⟩ := cons_of h45
  obtain ⟨x46, l47, rfl, h47⟩ := cons_of h46
  obtain ⟨x47, l48, rfl, h48⟩ := cons_of h47
  obtain ⟨x48, l49, rfl, h49⟩ := cons_of h48
  obtain ⟨x49, l50, rfl, h50⟩ := cons_of h49
  obtain ⟨x50, l51, rfl, h51⟩ := cons_of h50
  obtain ⟨x51, l52, rfl, h52⟩ := cons_of h51
  cases l52 with
  | nil => exact ⟨x0, x1, x2, x3, x4, x5, x6, x7, x8, x9, x10, x11, x12, x13, x14, x15, x16, x17, x18, x19, x20, x21, x22, x23, x24, x25, x26, x27, x28, x29, x30, x31, x32, x33, x34, x35, x36, x37, x38, x39, x40, x41, x42, x43, x44, x45, x46, x47, x48, x49, x50, x51, rfl⟩
  | cons a t => simp at h52
def VF2 (x : N4) (r : N4) (n : N4) (A : C4) (fa : Bool) (C : C4) (fb : Bool) : Nat → Value → World → Prop
  | 0, v, w => v = freshW.v
  | 1, v, w => v = r.v
  | 2, v, w => v = r.v
  | 3, v, w => v = .agg #[.int .u64 0, .int .u64 0, .int .u64 0, .int .u64 0, V r.a, V r.b, V r.c, V r.d, V r.a, V r.b, V r.c, V r.d, .int .u64 0, .int .u64 0, .int .u64 0, .int .u64 0]
  | 4, v, w => v = ansV A fa
  | 5, v, w => ∃ B, v = .pointer (some ⟨B, 0, none⟩) ∧ w.there B 0 17
  | 6, v, w => ∃ B, v = .pointer (some ⟨B, 0, none⟩) ∧ AtL w B ((C4.l A ++ [Value.bool fa]))
  | _, _, _ => False
theorem VF2_mono (x : N4) (r : N4) (n : N4) (A : C4) (fa : Bool) (C : C4) (fb : Bool) : ∀ j v w w', Below w.heap.size w w' → VF2 x r n A fa C fb j v w → VF2 x r n A fa C fb j v w' := by
  intro j v w w' hb h
  match j, h with
  | 0, h => exact h
  | 1, h => exact h
  | 2, h => exact h
  | 3, h => exact h
  | 4, h => exact h
  | 5, h => obtain ⟨B, rfl, h1⟩ := h; exact ⟨B, rfl, there_bel h1 (by omega) hb⟩
  | 6, h => obtain ⟨B, rfl, h1⟩ := h; exact ⟨B, rfl, AtL.bel h1 hb⟩
def VF3 (x : N4) (r : N4) (n : N4) (A : C4) (fa : Bool) (C : C4) (fb : Bool) : Nat → Value → World → Prop
  | 0, v, w => v = freshW.v
  | 1, v, w => v = r.v
  | 2, v, w => v = .agg #[.int .u64 0, .int .u64 0, .int .u64 0, .int .u64 0, V r.a, V r.b, V r.c, V r.d, .int .u64 0, .int .u64 0, .int .u64 0, .int .u64 0, .int .u64 0, .int .u64 0, .int .u64 0, .int .u64 0]
  | 3, v, w => v = ansV ⟨n, r, nulN, nulN⟩ false
  | 4, v, w => v = (C4.mk n r nulN nulN).v
  | 5, v, w => v = n.v
  | 6, v, w => ∃ B, v = .pointer (some ⟨B, 0, none⟩) ∧ w.there B 0 4
  | 7, v, w => ∃ B, v = .pointer (some ⟨B, 0, none⟩) ∧ At4 w B 0 (n)
  | _, _, _ => False
theorem VF3_mono (x : N4) (r : N4) (n : N4) (A : C4) (fa : Bool) (C : C4) (fb : Bool) : ∀ j v w w', Below w.heap.size w w' → VF3 x r n A fa C fb j v w → VF3 x r n A fa C fb j v w' := by
  intro j v w w' hb h
  match j, h with
  | 0, h => exact h
  | 1, h => exact h
  | 2, h => exact h
  | 3, h => exact h
  | 4, h => exact h
  | 5, h => exact h
  | 6, h => obtain ⟨B, rfl, h1⟩ := h; exact ⟨B, rfl, there_bel h1 (by omega) hb⟩
  | 7, h => obtain ⟨B, rfl, h1⟩ := h; exact ⟨B, rfl, At4.bel h1 hb⟩
def VF4 (x : N4) (r : N4) (n : N4) (A : C4) (fa : Bool) (C : C4) (fb : Bool) : Nat → Value → World → Prop
  | 0, v, w => v = freshW.v
  | 1, v, w => v = n.v
  | 2, v, w => v = n.v
  | 3, v, w => v = .agg #[.int .u64 0, .int .u64 0, .int .u64 0, .int .u64 0, V n.a, V n.b, V n.c, V n.d, V n.a, V n.b, V n.c, V n.d, .int .u64 0, .int .u64 0, .int .u64 0, .int .u64 0]
  | 4, v, w => v = ansV C fb
  | 5, v, w => ∃ B, v = .pointer (some ⟨B, 0, none⟩) ∧ w.there B 0 17
  | 6, v, w => ∃ B, v = .pointer (some ⟨B, 0, none⟩) ∧ AtL w B ((C4.l C ++ [Value.bool fb]))
  | _, _, _ => False
theorem VF4_mono (x : N4) (r : N4) (n : N4) (A : C4) (fa : Bool) (C : C4) (fb : Bool) : ∀ j v w w', Below w.heap.size w w' → VF4 x r n A fa C fb j v w → VF4 x r n A fa C fb j v w' := by
  intro j v w w' hb h
  match j, h with
  | 0, h => exact h
  | 1, h => exact h
  | 2, h => exact h
  | 3, h => exact h
  | 4, h => exact h
  | 5, h => obtain ⟨B, rfl, h1⟩ := h; exact ⟨B, rfl, there_bel h1 (by omega) hb⟩
  | 6, h => obtain ⟨B, rfl, h1⟩ := h; exact ⟨B, rfl, AtL.bel h1 hb⟩
set_option maxRecDepth 20000 in
set_option maxHeartbeats 8000000 in
theorem walk (x : N4) (w : World) : Calls Try.prog 9 #[x.v] w (RetBel (.bool true) w) := by
  obtain ⟨r, hr⟩ : ∃ r, r = ofN (rootN x.toNat) := ⟨_, rfl⟩
  obtain ⟨n, hn⟩ : ∃ n, n = r.add ⟨1#64, 0#64, 0#64, 0#64⟩ := ⟨_, rfl⟩
  obtain ⟨g1, g2, g3⟩ := fits_law x r n hr hn
  obtain ⟨A, hA⟩ : ∃ A : C4, A = ⟨r.mul r, r, r, nulN⟩ := ⟨_, rfl⟩
  obtain ⟨fa, hfa⟩ : ∃ fa, fa = r.mulc r := ⟨_, rfl⟩
  obtain ⟨C, hC⟩ : ∃ C : C4, C = ⟨n.mul n, n, n, nulN⟩ := ⟨_, rfl⟩
  obtain ⟨fb, hfb⟩ : ∃ fb, fb = n.mulc n := ⟨_, rfl⟩
  have SQ0 : ∀ w, Calls Try.prog 34 #[freshW.v, (oneC x).v] w (RetBel (ansV ⟨r, x, nulN, nulN⟩ false) w) := fun w => by
    have h := implSqrt_any freshW (oneC x) w freshW_ok
    rw [hr]
    exact h
  have SQ := Lib.hid SQ0
  clear SQ0
  have MA0 : ∀ w, Calls Try.prog 36 #[freshW.v, .agg #[.int .u64 0, .int .u64 0, .int .u64 0, .int .u64 0, V r.a, V r.b, V r.c, V r.d, V r.a, V r.b, V r.c, V r.d, .int .u64 0, .int .u64 0, .int .u64 0, .int .u64 0]] w (RetBel (ansV A fa) w) := fun w => by
    have h := implMulOverflow_any freshW (xyC r r) w freshW_ok
    rw [hA, hfa]
    exact h
  have MA := Lib.hid MA0
  clear MA0
  have AN0 : ∀ w, Calls Try.prog 37 #[freshW.v, .agg #[.int .u64 0, .int .u64 0, .int .u64 0, .int .u64 0, V r.a, V r.b, V r.c, V r.d, .int .u64 0, .int .u64 0, .int .u64 0, .int .u64 0, .int .u64 0, .int .u64 0, .int .u64 0, .int .u64 0], .int .u64 1] w (RetBel (ansV ⟨n, r, nulN, nulN⟩ false) w) := fun w => by
    have h := implAddUint64_any freshW (oneC r) 1#64 w freshW_ok
    rw [hn]
    exact h
  have AN := Lib.hid AN0
  clear AN0
  have MC0 : ∀ w, Calls Try.prog 36 #[freshW.v, .agg #[.int .u64 0, .int .u64 0, .int .u64 0, .int .u64 0, V n.a, V n.b, V n.c, V n.d, V n.a, V n.b, V n.c, V n.d, .int .u64 0, .int .u64 0, .int .u64 0, .int .u64 0]] w (RetBel (ansV C fb) w) := fun w => by
    have h := implMulOverflow_any freshW (xyC n n) w freshW_ok
    rw [hC, hfb]
    exact h
  have MC := Lib.hid MC0
  clear MC0
  have k1 : Hid (fa = false) := by rw [hfa]; exact g1
  have k2 : Hid (x.ltc A.a = false) := by rw [hA]; exact g2
  have k3 : Hid (fb = false → x.ltc C.a = true) := fun h => by
    rw [hC]
    rcases g3 with g3 | g3
    · rw [← hfb, h] at g3; cases g3
    · exact g3
  have GA1 : Hid (∀ w, Calls Try.prog 38 #[A.a.v, x.v] w (RetBel (.bool false) w)) := fun w => by
    have h := implGt_any A.a x w
    rw [k2.out] at h
    exact h
  have GC1 : Hid (fb = false → ∀ w, Calls Try.prog 38 #[C.a.v, x.v] w (RetBel (.bool true) w)) := fun e w => by
    have h := implGt_any C.a x w
    rw [k3.out e] at h
    exact h
  have O1 : Hid (∀ w, Calls Try.prog 32 #[x.v] w (RetBel (.tuple #[freshW.v, (oneC x).v]) w)) := one_law x
  clear g1 g2 g3 hA hfa hC hfb hr hn k2 k3
  go_enter Try.func9, Try.ntmps9
  go_wp2_with fail
  refine (O1.out _).mono ?_
  rintro e w1 ⟨rfl, hb1⟩
  have kk := Keeps.of' (B := w.heap.size + 1) (by simp) hb1
  have bel1 := Lib.hid (bel_trans (bel_alloc (bel_refl w) _) hb1)
  have hx1 : Hid (At4 w1 w.heap.size 0 x) := At4.bel (a := (w.alloc (Obj.cells #[V x.a, V x.b, V x.c, V x.d] 26))) (by constructor <;> simp [go_sem]) hb1
  clear kk hb1
  go_wp2_with fail
  refine (SQ.out _).mono ?_
  rintro e w2 ⟨rfl, hb2⟩
  have bel2 := Lib.hid (bel_trans bel1.out hb2)
  have hx2 := Lib.hid (hx1.out.bel hb2)
  clear hb2 hx1 bel1
  have hth : (w2.alloc (Obj.cells #[.int .u64 0, .int .u64 0, .int .u64 0, .int .u64 0] 26)).there w2.heap.size 0 4 := there_at _ _ _ _ _ (by simp) (by simp [go_sem])
  have RR := Lib.hid (At4.setNew (x := r) hth)
  have HX3 := Lib.hid ((hx2.out.alloc (Obj.cells #[.int .u64 0, .int .u64 0, .int .u64 0, .int .u64 0] 26)).setFar4 (g := w2.heap.size) (k := 0) (cs := [V r.a, V r.b, V r.c, V r.d]) (by have := hx2.out.lt; omega))
  have belw := setCells_bel (B := w2.heap.size) (o := 0) (vs := [V r.a, V r.b, V r.c, V r.d]) (bel_alloc bel2.out (Obj.cells #[.int .u64 0, .int .u64 0, .int .u64 0, .int .u64 0] 26)) bel2.out.size
  clear hx2 bel2
  go_upto_region 2 with (refine wpList_store_mid rfl 26 _ _ rfl w2.heap.size 0 [V r.a, V r.b, V r.c, V r.d].toArray rfl rfl hth (by kernel_rfl) (by simp [Value.oneCell']) ?_)
  clear hth
  generalize (w2.alloc (Obj.cells #[.int .u64 0, .int .u64 0, .int .u64 0, .int .u64 0] 26)).setCells w2.heap.size 0 [V r.a, V r.b, V r.c, V r.d] = W at *
  generalize w2.heap.size = g3 at *
  obtain ⟨r0, r1, r2, r3⟩ := RR.out
  simp only [Nat.zero_add] at r1 r2 r3
  have lx := HX3.out.lt
  have b0 : ∀ o, W.cell? ⟨w.heap.size, o, none⟩ = W.cell? ⟨w.heap.size, o, none⟩ := fun o => rfl
  simp only [Act.put]
  refine wp_region_all (by kernel_rfl) (GA [14, 15, 16, 17, 18, 4] [4] [] _ _ _) (FV (fun i => [14, 15, 16, 17, 18, 4, 4].getD i 0) (VF2 x r n A fa C fb)) (all_ord (by kernel_rfl)) (GA.start (by simp)) ?_ ?_
  · intro j o ho a' w' hG hpre
    have hj : j < 7 := getElem?_lt ho
    have hb := hG.bel
    have s0 := hG.frame.rest 1 (by decide)
    have hc0 := fun o => (hb.cell (p := ⟨w.heap.size, o, none⟩) (show w.heap.size < _ by omega)).trans (b0 o)
    simp [go_sem] at s0
    have t3 := hG.frame.rest 3 (by decide)
    simp [go_sem] at t3
    have m0 := bel_cell hb r0
    have m1 := bel_cell hb r1
    have m2 := bel_cell hb r2
    have m3 := bel_cell hb r3
    match j, hj with
    | 0, _ =>
      cases ho
      refine all_val rfl rfl rfl hG (by decide) (by decide) (by simp) rfl (by kernel_rfl) (VF2_mono _ _ _ _ _ _ _) ?_
      refine step_call (f := 18) (args := #[]) (w' := w') ?_ (fresh_any w') ?_
      · simp [execOp, Act.eval, go_sem]
      · rintro e w'' ⟨rfl, hb2⟩
        exact ⟨_, rfl, rfl, hb2⟩
    | 1, _ =>
      cases ho
      refine all_val rfl rfl rfl hG (by decide) (by decide) (by simp) rfl (by kernel_rfl) (VF2_mono _ _ _ _ _ _ _) ?_
      have sp3 := hG.frame.rest 3 (by decide)
      simp [go_sem] at sp3
      refine step_val (v := r.v) (w' := w') ?_ ⟨rfl, bel_refl _⟩
      simp [execOp, Act.eval, sp3, t3, m0, m1, m2, m3, go_sem]
    | 2, _ =>
      cases ho
      refine all_val rfl rfl rfl hG (by decide) (by decide) (by simp) rfl (by kernel_rfl) (VF2_mono _ _ _ _ _ _ _) ?_
      have sp3 := hG.frame.rest 3 (by decide)
      simp [go_sem] at sp3
      refine step_val (v := r.v) (w' := w') ?_ ⟨rfl, bel_refl _⟩
      simp [execOp, Act.eval, sp3, t3, m0, m1, m2, m3, go_sem]
    | 3, _ =>
      cases ho
      refine all_val rfl rfl rfl hG (by decide) (by decide) (by simp) rfl (by kernel_rfl) (VF2_mono _ _ _ _ _ _ _) ?_
      obtain ⟨v0, e0, rfl⟩ := FV.get (d := 15) (hpre ⟨1, .data⟩ (by simp) rfl) rfl
      obtain ⟨v1, e1, rfl⟩ := FV.get (d := 16) (hpre ⟨2, .data⟩ (by simp) rfl) rfl
      refine step_val (v := .agg #[.int .u64 0, .int .u64 0, .int .u64 0, .int .u64 0, V r.a, V r.b, V r.c, V r.d, V r.a, V r.b, V r.c, V r.d, .int .u64 0, .int .u64 0, .int .u64 0, .int .u64 0]) (w' := w') ?_ ⟨rfl, bel_refl _⟩
      simp [execOp, Act.eval, e0, e1, go_sem]
    | 4, _ =>
      cases ho
      refine all_val rfl rfl rfl hG (by decide) (by decide) (by simp) rfl (by kernel_rfl) (VF2_mono _ _ _ _ _ _ _) ?_
      obtain ⟨v0, e0, rfl⟩ := FV.get (d := 14) (hpre ⟨0, .data⟩ (by simp) rfl) rfl
      obtain ⟨v1, e1, rfl⟩ := FV.get (d := 17) (hpre ⟨3, .data⟩ (by simp) rfl) rfl
      refine step_call (f := 36) (args := #[freshW.v, .agg #[.int .u64 0, .int .u64 0, .int .u64 0, .int .u64 0, V r.a, V r.b, V r.c, V r.d, V r.a, V r.b, V r.c, V r.d, .int .u64 0, .int .u64 0, .int .u64 0, .int .u64 0]]) (w' := w') ?_ (MA.out w') ?_
      · simp [execOp, Act.eval, e0, e1, go_sem]
      · rintro e w'' ⟨rfl, hb2⟩
        exact ⟨_, rfl, rfl, hb2⟩
    | 5, _ =>
      cases ho
      refine all_alloc (.cells #[.int .u64 0, .int .u64 0, .int .u64 0, .int .u64 0, .int .u64 0, .int .u64 0, .int .u64 0, .int .u64 0, .int .u64 0, .int .u64 0, .int .u64 0, .int .u64 0, .int .u64 0, .int .u64 0, .int .u64 0, .int .u64 0, .bool false] 31) rfl rfl rfl hG (by decide) (by simp) rfl (by kernel_rfl) (VF2_mono _ _ _ _ _ _ _) ?_ ⟨_, rfl, there_new _ _ _ _ (by simp)⟩
      simp [execOp, Act.eval, go_sem]
    | 6, _ =>
      cases ho
      obtain ⟨vp, ep, B, rfl, hth⟩ := FV.get (d := 4) (hpre ⟨5, .data⟩ (by simp) rfl) rfl
      obtain ⟨vx, ex, rfl⟩ := FV.get (d := 18) (hpre ⟨4, .data⟩ (by simp) rfl) rfl
      refine all_store 31 _ _ rfl B 0 ((C4.l A ++ [Value.bool fa])) rfl rfl rfl hG rfl ep (slot_eva ep) ((slot_eva ex).trans rfl) hth (hG.apart.1 4 (by decide) B 0 ep).1 (by kernel_rfl) (by simp [Value.oneCell']) ⟨B, rfl, AtL.setNew hth (by simp)⟩ ?_
      intro i u hij hi hu hv
      match i, hi with
      | 0, _ => exact (show u = freshW.v from hv)
      | 1, _ => exact (show u = r.v from hv)
      | 2, _ => exact (show u = r.v from hv)
      | 3, _ => exact (show u = .agg #[.int .u64 0, .int .u64 0, .int .u64 0, .int .u64 0, V r.a, V r.b, V r.c, V r.d, V r.a, V r.b, V r.c, V r.d, .int .u64 0, .int .u64 0, .int .u64 0, .int .u64 0] from hv)
      | 4, _ => exact (show u = ansV A fa from hv)
      | 5, _ => obtain ⟨B2, rfl, h⟩ := hv; exact ⟨B2, rfl, World.there_setCells h _ _ _⟩
      | 6, _ => exact absurd rfl hij
      | i + 7, hi => exact absurd hi (by simp)
    | n + 7, hj => exact absurd hj (by simp)
  · intro a' w' hG hF
    obtain ⟨_, e4, B4, rfl, h4⟩ := FV.get (d := 4) (hF 6 (by decide)) rfl
    have l4 := h4.lt
    have s1 := hG.frame.rest 1 (by decide)
    have c1 := fun o => (hG.bel.cell (p := ⟨w.heap.size, o, none⟩) (show w.heap.size < _ by omega)).trans (b0 o)
    have s3 := hG.frame.rest 3 (by decide)
    have s5 := hG.frame.rest 5 (by decide)
    have s6 := hG.frame.rest 6 (by decide)
    have hsz := hG.frame.size
    have hdf := hG.frame.defers
    have hgs := hG.bel.size
    have hbel : Below w.heap.size w w' := bel_trans belw hG.bel
    have z1 : w.heap.size < w'.heap.size := by omega
    have RR' := Lib.hid (RR.out.bel hG.bel)
    have HX3' := Lib.hid (HX3.out.bel hG.bel)
    clear hF hG
    obtain ⟨tm, df⟩ := a'
    obtain ⟨x0, x1, x2, x3, x4, x5, x6, x7, x8, x9, x10, x11, x12, x13, x14, x15, x16, x17, x18, x19, x20, x21, x22, x23, x24, x25, x26, x27, x28, x29, x30, x31, x32, x33, x34, x35, x36, x37, x38, x39, x40, x41, x42, x43, x44, x45, x46, x47, x48, x49, x50, x51, rfl⟩ := arrayN52 hsz
    simp [go_sem] at e4 s1 s3 s5 s6 hdf
    subst e4 s1 s3 s5 s6 hdf
    clear hsz
    have HA4 := Lib.hid h4
    clear h4
    have b0n := c1
    have belwn := hbel
    clear b0 belw c1 hbel r0 r1 r2 r3 RR HX3 lx
    have b0 := b0n
    have belw := belwn
    clear b0n belwn
    obtain ⟨r0, r1, r2, r3⟩ := RR'.out
    simp only [Nat.zero_add] at r1 r2 r3
    obtain ⟨W2, hW2⟩ : ∃ W2, W2 = w' := ⟨_, rfl⟩
    have lx := HX3'.out.lt
    go_wp2
    refine wp_region_all (by kernel_rfl) (GA [19, 20, 21, 22, 23, 24, 5] [5] [] _ _ _) (FV (fun i => [19, 20, 21, 22, 23, 24, 5, 5].getD i 0) (VF3 x r n A fa C fb)) (all_ord (by kernel_rfl)) (GA.start (by simp)) ?_ ?_
    · intro j o ho a' w' hG hpre
      have hj : j < 8 := getElem?_lt ho
      have hb := hG.bel
      have s0 := hG.frame.rest 1 (by decide)
      have hc0 := fun o => (hb.cell (p := ⟨w.heap.size, o, none⟩) (show w.heap.size < _ by omega)).trans (b0 o)
      simp [go_sem] at s0
      have t3 := hG.frame.rest 3 (by decide)
      simp [go_sem] at t3
      have m0 := bel_cell hb r0
      have m1 := bel_cell hb r1
      have m2 := bel_cell hb r2
      have m3 := bel_cell hb r3
      match j, hj with
      | 0, _ =>
        cases ho
        refine all_val rfl rfl rfl hG (by decide) (by decide) (by simp) rfl (by kernel_rfl) (VF3_mono _ _ _ _ _ _ _) ?_
        refine step_call (f := 18) (args := #[]) (w' := w') ?_ (fresh_any w') ?_
        · simp [execOp, Act.eval, go_sem]
        · rintro e w'' ⟨rfl, hb2⟩
          exact ⟨_, rfl, rfl, hb2⟩
      | 1, _ =>
        cases ho
        refine all_val rfl rfl rfl hG (by decide) (by decide) (by simp) rfl (by kernel_rfl) (VF3_mono _ _ _ _ _ _ _) ?_
        have sp3 := hG.frame.rest 3 (by decide)
        simp [go_sem] at sp3
        refine step_val (v := r.v) (w' := w') ?_ ⟨rfl, bel_refl _⟩
        simp [execOp, Act.eval, sp3, t3, m0, m1, m2, m3, go_sem]
      | 2, _ =>
        cases ho
        refine all_val rfl rfl rfl hG (by decide) (by decide) (by simp) rfl (by kernel_rfl) (VF3_mono _ _ _ _ _ _ _) ?_
        obtain ⟨v0, e0, rfl⟩ := FV.get (d := 20) (hpre ⟨1, .data⟩ (by simp) rfl) rfl
        refine step_val (v := .agg #[.int .u64 0, .int .u64 0, .int .u64 0, .int .u64 0, V r.a, V r.b, V r.c, V r.d, .int .u64 0, .int .u64 0, .int .u64 0, .int .u64 0, .int .u64 0, .int .u64 0, .int .u64 0, .int .u64 0]) (w' := w') ?_ ⟨rfl, bel_refl _⟩
        simp [execOp, Act.eval, e0, go_sem]
      | 3, _ =>
        cases ho
        refine all_val rfl rfl rfl hG (by decide) (by decide) (by simp) rfl (by kernel_rfl) (VF3_mono _ _ _ _ _ _ _) ?_
        obtain ⟨v0, e0, rfl⟩ := FV.get (d := 19) (hpre ⟨0, .data⟩ (by simp) rfl) rfl
        obtain ⟨v1, e1, rfl⟩ := FV.get (d := 21) (hpre ⟨2, .data⟩ (by simp) rfl) rfl
        refine step_call (f := 37) (args := #[freshW.v, .agg #[.int .u64 0, .int .u64 0, .int .u64 0, .int .u64 0, V r.a, V r.b, V r.c, V r.d, .int .u64 0, .int .u64 0, .int .u64 0, .int .u64 0, .int .u64 0, .int .u64 0, .int .u64 0, .int .u64 0], .int .u64 1]) (w' := w') ?_ (AN.out w') ?_
        · simp [execOp, Act.eval, e0, e1, go_sem]
        · rintro e w'' ⟨rfl, hb2⟩
          exact ⟨_, rfl, rfl, hb2⟩
      | 4, _ =>
        cases ho
        refine all_val rfl rfl rfl hG (by decide) (by decide) (by simp) rfl (by kernel_rfl) (VF3_mono _ _ _ _ _ _ _) ?_
        obtain ⟨v0, e0, rfl⟩ := FV.get (d := 22) (hpre ⟨3, .data⟩ (by simp) rfl) rfl
        refine step_val (v := (C4.mk n r nulN nulN).v) (w' := w') ?_ ⟨rfl, bel_refl _⟩
        simp [execOp, Act.eval, e0, fldAns, go_sem]
      | 5, _ =>
        cases ho
        refine all_val rfl rfl rfl hG (by decide) (by decide) (by simp) rfl (by kernel_rfl) (VF3_mono _ _ _ _ _ _ _) ?_
        obtain ⟨v0, e0, rfl⟩ := FV.get (d := 23) (hpre ⟨4, .data⟩ (by simp) rfl) rfl
        refine step_val (v := n.v) (w' := w') ?_ ⟨rfl, bel_refl _⟩
        simp [execOp, Act.eval, e0, fldA, go_sem]
      | 6, _ =>
        cases ho
        refine all_alloc (.cells #[.int .u64 0, .int .u64 0, .int .u64 0, .int .u64 0] 26) rfl rfl rfl hG (by decide) (by simp) rfl (by kernel_rfl) (VF3_mono _ _ _ _ _ _ _) ?_ ⟨_, rfl, there_new _ _ _ _ (by simp)⟩
        simp [execOp, Act.eval, go_sem]
      | 7, _ =>
        cases ho
        obtain ⟨vp, ep, B, rfl, hth⟩ := FV.get (d := 5) (hpre ⟨6, .data⟩ (by simp) rfl) rfl
        obtain ⟨vx, ex, rfl⟩ := FV.get (d := 24) (hpre ⟨5, .data⟩ (by simp) rfl) rfl
        refine all_store 26 _ _ rfl B 0 [V (n).a, V (n).b, V (n).c, V (n).d] rfl rfl rfl hG rfl ep (by simp [Act.eval, ep]) (by simp [Act.eval, ex]) hth (hG.apart.1 5 (by decide) B 0 ep).1 (by kernel_rfl) (by simp [Value.oneCell']) ⟨B, rfl, At4.setNew hth⟩ ?_
        intro i u hij hi hu hv
        match i, hi with
        | 0, _ => exact (show u = freshW.v from hv)
        | 1, _ => exact (show u = r.v from hv)
        | 2, _ => exact (show u = .agg #[.int .u64 0, .int .u64 0, .int .u64 0, .int .u64 0, V r.a, V r.b, V r.c, V r.d, .int .u64 0, .int .u64 0, .int .u64 0, .int .u64 0, .int .u64 0, .int .u64 0, .int .u64 0, .int .u64 0] from hv)
        | 3, _ => exact (show u = ansV ⟨n, r, nulN, nulN⟩ false from hv)
        | 4, _ => exact (show u = (C4.mk n r nulN nulN).v from hv)
        | 5, _ => exact (show u = n.v from hv)
        | 6, _ => obtain ⟨B2, rfl, h⟩ := hv; exact ⟨B2, rfl, World.there_setCells h _ _ _⟩
        | 7, _ => exact absurd rfl hij
        | i + 8, hi => exact absurd hi (by simp)
      | n + 8, hj => exact absurd hj (by simp)
    · intro a' w' hG hF
      obtain ⟨_, e5, B5, rfl, h5⟩ := FV.get (d := 5) (hF 7 (by decide)) rfl
      have l5 := h5.lt
      obtain ⟨h50, h51, h52, h53⟩ := h5
      simp only [Nat.zero_add] at h51 h52 h53
      have s1 := hG.frame.rest 1 (by decide)
      have c1 := fun o => (hG.bel.cell (p := ⟨w.heap.size, o, none⟩) (show w.heap.size < _ by omega)).trans (b0 o)
      have s3 := hG.frame.rest 3 (by decide)
      have s4 := hG.frame.rest 4 (by decide)
      have s6 := hG.frame.rest 6 (by decide)
      have hsz := hG.frame.size
      have hdf := hG.frame.defers
      have hgs := hG.bel.size
      have hbel : Below w.heap.size w w' := bel_trans belw hG.bel
      have z1 : w.heap.size < w'.heap.size := by omega
      have RR'' := Lib.hid (RR'.out.bel hG.bel)
      have HX3'' := Lib.hid (HX3'.out.bel hG.bel)
      have HA4' := Lib.hid (HA4.out.bel hG.bel)
      clear hF hG
      obtain ⟨tm, df⟩ := a'
      obtain ⟨x0, x1, x2, x3, x4, x5, x6, x7, x8, x9, x10, x11, x12, x13, x14, x15, x16, x17, x18, x19, x20, x21, x22, x23, x24, x25, x26, x27, x28, x29, x30, x31, x32, x33, x34, x35, x36, x37, x38, x39, x40, x41, x42, x43, x44, x45, x46, x47, x48, x49, x50, x51, rfl⟩ := arrayN52 hsz
      simp [go_sem] at e5 s1 s3 s4 s6 hdf
      subst e5 s1 s3 s4 s6 hdf
      clear hsz
      have HN5 : Hid (At4 w' B5 0 n) := ⟨h50, by simpa using h51, by simpa using h52, by simpa using h53⟩
      clear h50 h51 h52 h53
      have b0n := c1
      have belwn := hbel
      clear b0 belw c1 hbel r0 r1 r2 r3 RR' RR'' HX3' HA4 lx
      have b0 := b0n
      have belw := belwn
      clear b0n belwn
      obtain ⟨n0, n1, n2, n3⟩ := HN5.out
      simp only [Nat.zero_add] at n1 n2 n3
      obtain ⟨W3, hW3⟩ : ∃ W3, W3 = w' := ⟨_, rfl⟩
      have lx := HX3''.out.lt
      go_wp2
      refine wp_region_all (by kernel_rfl) (GA [25, 26, 27, 28, 29, 6] [6] [] _ _ _) (FV (fun i => [25, 26, 27, 28, 29, 6, 6].getD i 0) (VF4 x r n A fa C fb)) (all_ord (by kernel_rfl)) (GA.start (by simp)) ?_ ?_
      · intro j o ho a' w' hG hpre
        have hj : j < 7 := getElem?_lt ho
        have hb := hG.bel
        have s0 := hG.frame.rest 1 (by decide)
        have hc0 := fun o => (hb.cell (p := ⟨w.heap.size, o, none⟩) (show w.heap.size < _ by omega)).trans (b0 o)
        simp [go_sem] at s0
        have t5 := hG.frame.rest 5 (by decide)
        simp [go_sem] at t5
        have m0 := bel_cell hb n0
        have m1 := bel_cell hb n1
        have m2 := bel_cell hb n2
        have m3 := bel_cell hb n3
        match j, hj with
        | 0, _ =>
          cases ho
          refine all_val rfl rfl rfl hG (by decide) (by decide) (by simp) rfl (by kernel_rfl) (VF4_mono _ _ _ _ _ _ _) ?_
          refine step_call (f := 18) (args := #[]) (w' := w') ?_ (fresh_any w') ?_
          · simp [execOp, Act.eval, go_sem]
          · rintro e w'' ⟨rfl, hb2⟩
            exact ⟨_, rfl, rfl, hb2⟩
        | 1, _ =>
          cases ho
          refine all_val rfl rfl rfl hG (by decide) (by decide) (by simp) rfl (by kernel_rfl) (VF4_mono _ _ _ _ _ _ _) ?_
          have sp5 := hG.frame.rest 5 (by decide)
          simp [go_sem] at sp5
          refine step_val (v := n.v) (w' := w') ?_ ⟨rfl, bel_refl _⟩
          simp [execOp, Act.eval, sp5, t5, m0, m1, m2, m3, go_sem]
        | 2, _ =>
          cases ho
          refine all_val rfl rfl rfl hG (by decide) (by decide) (by simp) rfl (by kernel_rfl) (VF4_mono _ _ _ _ _ _ _) ?_
          have sp5 := hG.frame.rest 5 (by decide)
          simp [go_sem] at sp5
          refine step_val (v := n.v) (w' := w') ?_ ⟨rfl, bel_refl _⟩
          simp [execOp, Act.eval, sp5, t5, m0, m1, m2, m3, go_sem]
        | 3, _ =>
          cases ho
          refine all_val rfl rfl rfl hG (by decide) (by decide) (by simp) rfl (by kernel_rfl) (VF4_mono _ _ _ _ _ _ _) ?_
          obtain ⟨v0, e0, rfl⟩ := FV.get (d := 26) (hpre ⟨1, .data⟩ (by simp) rfl) rfl
          obtain ⟨v1, e1, rfl⟩ := FV.get (d := 27) (hpre ⟨2, .data⟩ (by simp) rfl) rfl
          refine step_val (v := .agg #[.int .u64 0, .int .u64 0, .int .u64 0, .int .u64 0, V n.a, V n.b, V n.c, V n.d, V n.a, V n.b, V n.c, V n.d, .int .u64 0, .int .u64 0, .int .u64 0, .int .u64 0]) (w' := w') ?_ ⟨rfl, bel_refl _⟩
          simp [execOp, Act.eval, e0, e1, go_sem]
        | 4, _ =>
          cases ho
          refine all_val rfl rfl rfl hG (by decide) (by decide) (by simp) rfl (by kernel_rfl) (VF4_mono _ _ _ _ _ _ _) ?_
          obtain ⟨v0, e0, rfl⟩ := FV.get (d := 25) (hpre ⟨0, .data⟩ (by simp) rfl) rfl
          obtain ⟨v1, e1, rfl⟩ := FV.get (d := 28) (hpre ⟨3, .data⟩ (by simp) rfl) rfl
          refine step_call (f := 36) (args := #[freshW.v, .agg #[.int .u64 0, .int .u64 0, .int .u64 0, .int .u64 0, V n.a, V n.b, V n.c, V n.d, V n.a, V n.b, V n.c, V n.d, .int .u64 0, .int .u64 0, .int .u64 0, .int .u64 0]]) (w' := w') ?_ (MC.out w') ?_
          · simp [execOp, Act.eval, e0, e1, go_sem]
          · rintro e w'' ⟨rfl, hb2⟩
            exact ⟨_, rfl, rfl, hb2⟩
        | 5, _ =>
          cases ho
          refine all_alloc (.cells #[.int .u64 0, .int .u64 0, .int .u64 0, .int .u64 0, .int .u64 0, .int .u64 0, .int .u64 0, .int .u64 0, .int .u64 0, .int .u64 0, .int .u64 0, .int .u64 0, .int .u64 0, .int .u64 0, .int .u64 0, .int .u64 0, .bool false] 31) rfl rfl rfl hG (by decide) (by simp) rfl (by kernel_rfl) (VF4_mono _ _ _ _ _ _ _) ?_ ⟨_, rfl, there_new _ _ _ _ (by simp)⟩
          simp [execOp, Act.eval, go_sem]
        | 6, _ =>
          cases ho
          obtain ⟨vp, ep, B, rfl, hth⟩ := FV.get (d := 6) (hpre ⟨5, .data⟩ (by simp) rfl) rfl
          obtain ⟨vx, ex, rfl⟩ := FV.get (d := 29) (hpre ⟨4, .data⟩ (by simp) rfl) rfl
          refine all_store 31 _ _ rfl B 0 ((C4.l C ++ [Value.bool fb])) rfl rfl rfl hG rfl ep (slot_eva ep) ((slot_eva ex).trans rfl) hth (hG.apart.1 6 (by decide) B 0 ep).1 (by kernel_rfl) (by simp [Value.oneCell']) ⟨B, rfl, AtL.setNew hth (by simp)⟩ ?_
          intro i u hij hi hu hv
          match i, hi with
          | 0, _ => exact (show u = freshW.v from hv)
          | 1, _ => exact (show u = n.v from hv)
          | 2, _ => exact (show u = n.v from hv)
          | 3, _ => exact (show u = .agg #[.int .u64 0, .int .u64 0, .int .u64 0, .int .u64 0, V n.a, V n.b, V n.c, V n.d, V n.a, V n.b, V n.c, V n.d, .int .u64 0, .int .u64 0, .int .u64 0, .int .u64 0] from hv)
          | 4, _ => exact (show u = ansV C fb from hv)
          | 5, _ => obtain ⟨B2, rfl, h⟩ := hv; exact ⟨B2, rfl, World.there_setCells h _ _ _⟩
          | 6, _ => exact absurd rfl hij
          | i + 7, hi => exact absurd hi (by simp)
        | n + 7, hj => exact absurd hj (by simp)
      · intro a' w' hG hF
        obtain ⟨_, e6, B6, rfl, h6⟩ := FV.get (d := 6) (hF 6 (by decide)) rfl
        have l6 := h6.lt
        have s1 := hG.frame.rest 1 (by decide)
        have c1 := fun o => (hG.bel.cell (p := ⟨w.heap.size, o, none⟩) (show w.heap.size < _ by omega)).trans (b0 o)
        have s3 := hG.frame.rest 3 (by decide)
        have s4 := hG.frame.rest 4 (by decide)
        have s5 := hG.frame.rest 5 (by decide)
        have hsz := hG.frame.size
        have hdf := hG.frame.defers
        have hgs := hG.bel.size
        have hbel : Below w.heap.size w w' := bel_trans belw hG.bel
        have z1 : w.heap.size < w'.heap.size := by omega
        have HX3''' := Lib.hid (HX3''.out.bel hG.bel)
        have HA4'' := Lib.hid (HA4'.out.bel hG.bel)
        clear hF hG
        obtain ⟨tm, df⟩ := a'
        obtain ⟨x0, x1, x2, x3, x4, x5, x6, x7, x8, x9, x10, x11, x12, x13, x14, x15, x16, x17, x18, x19, x20, x21, x22, x23, x24, x25, x26, x27, x28, x29, x30, x31, x32, x33, x34, x35, x36, x37, x38, x39, x40, x41, x42, x43, x44, x45, x46, x47, x48, x49, x50, x51, rfl⟩ := arrayN52 hsz
        simp [go_sem] at e6 s1 s3 s4 s5 hdf
        subst e6 s1 s3 s4 s5 hdf
        clear hsz
        have HC6 := Lib.hid h6
        clear h6 n0 n1 n2 n3 b0 belw hW2 hW3 W2 W3 c1
        obtain rfl := k1.out
        obtain ⟨p0, p1, p2, p3⟩ := HA4''.out.ansA
        simp only [Nat.zero_add] at p1 p2 p3
        have pf := HA4''.out.ansF
        obtain ⟨y0, y1, y2, y3⟩ := HX3'''.out
        simp only [Nat.zero_add] at y1 y2 y3
        go_wp2_with fail
        refine (GA1.out _).mono ?_
        rintro e w3 ⟨rfl, hb3⟩
        have HC7 := Lib.hid (HC6.out.bel hb3)
        have HX7 := Lib.hid (HX3'''.out.bel hb3)
        have hbel7 := Lib.hid (bel_trans hbel hb3)
        clear p0 p1 p2 p3 pf y0 y1 y2 y3 hb3 hbel
        obtain ⟨p0, p1, p2, p3⟩ := HC7.out.ansA
        simp only [Nat.zero_add] at p1 p2 p3
        have pf := HC7.out.ansF
        obtain ⟨y0, y1, y2, y3⟩ := HX7.out
        simp only [Nat.zero_add] at y1 y2 y3
        cases fb
        · have GC := Lib.hid (GC1.out rfl)
          go_wp2_with fail
          refine (GC.out _).mono ?_
          rintro e w4 ⟨rfl, hb4⟩
          go_wp2
          go_ret
          exact retBel rfl (bel_trans hbel7.out hb4)
        · go_wp2
          go_ret
          exact retBel rfl hbel7.out


set_option maxRecDepth 100000 in
theorem lifted (os : Os) (started : os.Started) (H : Type) (enc : TypeId × Value → H) :
    ReturnsInHanded {} Try.checked os 9 .any (Rows.fnSqrtFitsSpec.pre6 enc Try.prog Try.f9 Rows.fnSqrtFitsRow.domain false) (Rows.fnSqrtFitsSpec.post enc Try.prog Try.f9 false true false false) := by
  refine returnsInHanded_of_change (C := Try.checked) Try.own started (by kernel_rfl) Try.func9
    (ChangeSpec.witness6 (enc := enc) (C := Try.checked) false ⟨#[], #[.agg #[.int .u64 0, .int .u64 0, .int .u64 0, .int .u64 0]], []⟩ 8 (by kernel_rfl) (by kernel_rfl) (by kernel_rfl) (by kernel_rfl)) ?_
  intro W base args ds gs before hval0 hW hcnd _
  have hval : ∀ (j : Nat) t v, Try.f9.params[j]? = some t → args[j]? = some v → Value.okWide Try.prog W .any base t v := hval0
  have hW' := hW
  obtain ⟨p, q, hA0, hV, rfl, hfz, hnd⟩ := hW
  have hA : DataW.TrodAll enc Try.prog W 0 (fun _ => true) true Try.f9.params.toList args.toList ds p := hA0
  rw [Try.params9] at hA hval
  obtain ⟨v0, vs0, d0, ds0, p0, q0, hargs, rfl, rfl, h0, r0⟩ := trodAll_cons hA
  obtain ⟨rfl, rfl, rfl⟩ := trodAll_nil r0
  obtain rfl : args = #[v0] := by cases args; simp_all
  obtain ⟨rfl, rfl⟩ := trodVars_none hV
  have k0 := h0
  have lt0 : ∀ x ∈ p0, x.block < W.heap.size := by obtain ⟨m, hm⟩ := k0; exact DataW.trod_lt m _ _ _ hm
  obtain ⟨x0, rfl⟩ := open_num (hval 0 26 v0 rfl rfl)
  clear hA0 hval0
  refine (walk x0 W).mono fun e W' ⟨he, bel⟩ => ?_
  subst he
  exact ⟨_, rfl, _, _, _, [], _, [], hW', trodAll_mk1 (shut_bool Try.underlying4 _), (trodAll_cons_mk (Below.trod Try.laidOut (by kernel_rfl) (of_decide_eq_true (by kernel_rfl)) k0 bel lt0) trodAll_mk0), rfl, bel.frame _, fun h => by cases h⟩

theorem holds : Rows.FnSqrtFitsSaid :=
  OpenClaim.holds_of_wide 9 Try.f9 rfl rfl rfl rfl rfl rfl rfl ⟨rfl, rfl, rfl, rfl, rfl⟩ rfl rfl rfl rfl rfl (by kernel_rfl) Try.func9 (by kernel_rfl)
    (of_decide_eq_true (by kernel_rfl)) (by unfold Func.isWrapper; first | (rw [if_pos (by decide +kernel)]; kernel_rfl) | (rw [if_neg (by decide +kernel)]; exact ⟨rfl, rfl⟩))
    (fun os started H enc _ => lifted os started H enc)
#print axioms holds
end Go.Proofs.Ytbmlbjpiodiihaa.fnSqrtFits
