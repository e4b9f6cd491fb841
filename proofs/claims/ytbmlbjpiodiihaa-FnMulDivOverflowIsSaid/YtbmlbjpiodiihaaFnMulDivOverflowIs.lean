/-
  For every ways and cells: where m is not 0, impl.MulDivOverflow gives the cells in which z is x times y by m, and tells whether that is 2^256 or more; no other cell is changed (the statement FnMulDivOverflowIsSaid, no conditions).
-/
import Derived.Test.YtbmlbjpiodiihaaOpen
import Derived.Test.YtbmlbjpiodiihaaSpec1
import Derived.Test.YtbmlbjpiodiihaaSpec10
import Derived.Test.YtbmlbjpiodiihaaDesk12
import Derived.Test.YtbmlbjpiodiihaaRegion2
import Derived.Test.YtbmlbjpiodiihaaHeldM
namespace Go.Proofs.Ytbmlbjpiodiihaa.fnMulDivOverflowIs
set_option maxRecDepth 20000
open Go.ChangeShapes Go.WideShapes Go.ChangeAt Go.RowKit
set_option linter.unusedVariables false
set_option linter.unusedSimpArgs false

theorem arrayN43 {l : Array Value} (h : l.size = 43) : ∃ x0 x1 x2 x3 x4 x5 x6 x7 x8 x9 x10 x11 x12 x13 x14 x15 x16 x17 x18 x19 x20 x21 x22 x23 x24 x25 x26 x27 x28 x29 x30 x31 x32 x33 x34 x35 x36 x37 x38 x39 x40 x41 x42, l = #[x0, x1, x2, x3, x4, x5, x6, x7, x8, x9, x10, x11, x12, x13, x14, x15, x16, x17, x18, x19, x20, x21, x22, x23, x24, x25, x26, x27, x28, x29, x30, x31, x32, x33, x34, x35, x36, x37, x38, x39, x40, x41, x42] := by
  obtain ⟨l⟩ := l
  have h0 : l.length = 42 + 1 := h
  clear h
  obtain ⟨x0, l1, rfl, h1⟩ := cons_of h0
  obtain ⟨x1, l2, rfl, h2⟩ := cons_of h1
  obtain ⟨x2, l3, rfl, h3⟩ := cons_of h2
  obtain ⟨x3, l4, rfl, h4⟩ := cons_of h3
  obtain ⟨x4, l5, rfl, h5⟩ := cons_of h4
  obtain ⟨x5, l6, rfl, h6⟩ := cons_of h5
  obtain ⟨x6, l7, rfl, h7⟩ := cons_of h6
  obtain ⟨x7, l8, rfl, h8⟩ := cons_of h7
  obtain ⟨x8, l9, rfl, h9⟩ := cons_of h8
  obtain ⟨x9, l10, rfl, h10⟩ := cons_of h9
  obtain ⟨x10, l11, rfl, h11⟩ := cons_of h10
  obtain ⟨x11, l12, rfl, h12⟩ := cons_of h11
  obtain ⟨x12, l13, rfl, h13⟩ := cons_of h12
  obtain ⟨x13, l14, rfl, h14⟩ := cons_of h13
  obtain ⟨x14, l15, rfl, h15⟩ := cons_of h14
  obtain ⟨x15, l16, rfl, h16⟩ := cons_of h15
  obtain ⟨x16, l17, rfl, h17⟩ := cons_of h16
  obtain ⟨x17, l18, rfl, h18⟩ := cons_of h17
  obtain ⟨x18, l19, rfl, h19⟩ := cons_of h18
  obtain ⟨x19, l20, rfl, h20⟩ := cons_of h19
  obtain ⟨x20, l21, rfl, h21⟩ := cons_of h20
  obtain ⟨x21, l22, rfl, h22⟩ := cons_of h21
  obtain ⟨x22, l23, rfl, h23⟩ := cons_of h22
  obtain ⟨x23, l24, rfl, h24⟩ := cons_of h23
  obtain ⟨x24, l25, rfl, h25⟩ := cons_of h24
  obtain ⟨x25, l26, rfl, h26⟩ := cons_of h25
  obtain ⟨x26, l27, rfl, h27⟩ := cons_of h26
  obtain ⟨x27, l28, rfl, h28⟩ := cons_of h27
  obtain ⟨x28, l29, rfl, h29⟩ := cons_of h28
  obtain ⟨x29, l30, rfl, h30⟩ := cons_of h29
  obtain ⟨x30, l31, rfl, h31⟩ := cons_of h30
  obtain ⟨x31, l32, rfl, h32⟩ := cons_of h31
  obtain ⟨x32, l33, rfl, h33⟩ := cons_of h32
  obtain ⟨x33, l34, rfl, h34⟩ := cons_of h33
  obtain ⟨x34, l35, rfl, h35⟩ := cons_of h34
  obtain ⟨x35, l36, rfl, h36⟩ := cons_of h35
  obtain ⟨x36, l37, rfl, h37⟩ := cons_of h36
  obtain ⟨x37, l38, rfl, h38⟩ := cons_of h37
  obtain ⟨x38, l39, rfl, h39⟩ := cons_of h38
  obtain ⟨x39, l40, rfl, h40⟩ := cons_of h39
  obtain ⟨x40, l41, rfl, h41⟩ := cons_of h40
  obtain ⟨x41, l42, rfl, h42⟩ := cons_of h41
  obtain ⟨x42, l43, rfl, h43⟩ := cons_of h42
  cases l43 with
  | nil => exact ⟨x0, x1, x2, x3, x4, x5, x6, x7, x8, x9, x10, x11, x12, x13, x14, x15, x16, x17, x18, x19, x20, x21, x22, x23, x24, x25, x26, x27, x28, x29, x30, x31, x32, x33, x34, x35, x36, x37, x38, x39, x40, x41, x42, rfl⟩
  | cons a t => simp at h43
def VF1 (k : W4) (c : C4) (mm : N4) (zq : N4) (ov : Bool) : Nat → Value → World → Prop
  | 0, v, w => v = k.v
  | 1, v, w => v = c.v
  | 2, v, w => v = (c.get (ix k.x)).v
  | 3, v, w => v = k.v
  | 4, v, w => v = c.v
  | 5, v, w => v = (c.get (ix k.y)).v
  | 6, v, w => v = mm.v
  | 7, v, w => v = .tuple #[zq.v, .bool ov]
  | 8, v, w => v = .tuple #[zq.v, .bool ov]
  | 9, v, w => v = zq.v
  | 10, v, w => v = .bool ov
  | 11, v, w => ∃ B, v = .pointer (some ⟨B, 0, none⟩) ∧ w.there B 0 4
  | 12, v, w => ∃ B, v = .pointer (some ⟨B, 0, none⟩) ∧ At4 w B 0 (zq) ∧ w.there B 0 4
  | 13, v, w => v = .bool ov
  | _, _, _ => False
theorem VF1_mono (k : W4) (c : C4) (mm : N4) (zq : N4) (ov : Bool) : ∀ j v w w', Below w.heap.size w w' → VF1 k c mm zq ov j v w → VF1 k c mm zq ov j v w' := by
  intro j v w w' hb h
  match j, h with
  | 0, h => exact h
  | 1, h => exact h
  | 2, h => exact h
  | 3, h => exact h
  | 4, h => exact h
  | 5, h => exact h
  | 6, h => exact h
  | 7, h => exact h
  | 8, h => exact h
  | 9, h => exact h
  | 10, h => exact h
  | 11, h => obtain ⟨B, rfl, h1⟩ := h; exact ⟨B, rfl, there_bel h1 (by omega) hb⟩
  | 12, h => obtain ⟨B, rfl, h1, h2⟩ := h; exact ⟨B, rfl, At4.bel h1 hb, there_bel h2 (by omega) hb⟩
  | 13, h => exact h
theorem run_load_op {P : Program} {op : Oper} {a : Act} (ty : TypeId) (x : Operand) (ho : op.op = .load ty x) (b o : Nat) (hx : a.eval x = .pointer (some ⟨b, o, none⟩)) (cs : List Value) {d : TypeDesc}
    (hu : P.underlying ty = some d) (hd : d.isRow = true) (hi : (P.info? ty).map (·.size) = some cs.length) (w : World) (hc : w.rangeAt b o cs) : (execOp a.eval op).run P w = .ok (.value (.agg cs.toArray)) w := by
  unfold execOp
  simp only [ho, hx, Instr.loadAt, Instr.sureAddr, Sem.run_bind, Sem.run_pure, Result.andThen_ok, run_loadVar_mid w b o ty cs d hc hu hd hi]

theorem get_put (c : C4) (n : Int) (z : N4) : (c.put (ix n) z).get (ix n) = z := by
  rcases ix_cases n with h | h | h | h <;> rw [h] <;> rfl
set_option maxRecDepth 20000 in
set_option maxHeartbeats 8000000 in
theorem walk (k : W4) (hk : k.ok) (c : C4) (w : World) : Calls Try.prog 5 #[k.v, c.v] w (RetBel (.bool true) w) := by
  obtain ⟨mm, hmm⟩ : ∃ mm, mm = (c.get (ix k.m)) := ⟨_, rfl⟩
  obtain ⟨zq, hzq⟩ : ∃ zq, zq = ofN (mulDivT (c.get (ix k.x)) (c.get (ix k.y)) (c.get (ix k.m))) := ⟨_, rfl⟩
  obtain ⟨ov, hov⟩ : ∃ ov, ov = mulDivC (c.get (ix k.x)) (c.get (ix k.y)) (c.get (ix k.m)) := ⟨_, rfl⟩
  obtain ⟨P, hP⟩ : ∃ P, P = c.put (ix k.z) zq := ⟨_, rfl⟩
  have SM : Hid (∀ w, Calls Try.prog 17 #[k.v, c.v] w (RetBel (N4.v mm) w)) := fun w => by rw [hmm]; exact specM_any k c w hk
  have IM : Hid (∀ w, Calls Try.prog 22 #[k.v, c.v] w (RetBel (ansV P ov) w)) := fun w => by rw [hP, hzq, hov]; exact implMulDivOverflow_any k c w hk
  have SD : Hid (mm.eqb ⟨0#64, 0#64, 0#64, 0#64⟩ = false → ∀ w, Calls Try.prog 23 #[(c.get (ix k.x)).v, (c.get (ix k.y)).v, mm.v] w (RetBel (.tuple #[zq.v, .bool ov]) w)) := fun h w => by
    rw [hzq, hov, hmm]
    refine specMulDiv_c _ _ _ ?_ w
    rcases Nat.eq_zero_or_pos (N4.toNat (c.get (ix k.m))) with h0 | h0
    · rw [hmm, eqb_zero, (isZ_iff _).2 h0] at h; cases h
    · exact h0
  have SG : Hid (∀ w, Calls Try.prog 24 #[P.v, .int .i64 k.z] w (RetBel (N4.v zq) w)) := fun w => by
    have h := specGet_any P k.z w hk.1
    rw [hP] at h
    have e : (c.put (ix k.z) zq).get (ix k.z) = zq := get_put c k.z zq
    rw [e] at h
    rw [hP]
    exact h
  have SP : Hid (∀ w, Calls Try.prog 13 #[c.v, .int .i64 k.z, zq.v] w (RetBel (C4.v P) w)) := fun w => by rw [hP]; exact specPut_any c k.z zq w hk.1
  have TD : Hid (∀ w, Calls Try.prog 11 #[ansV P ov, P.v, .bool ov] w (RetBel (.bool true) w)) := fun w => by
    have h := told_any P P ov ov w
    rw [C4.eqb_self] at h
    simpa using h
  clear hmm hzq hov hP
  go_enter Try.func5, Try.ntmps5
  go_wp2_with fail
  refine (SM.out _).mono ?_
  rintro e w1 ⟨rfl, hb1⟩
  have kk := Keeps.of' (B := w.heap.size + 2) (by simp) hb1
  have b0 := fun o => kk.1 w.heap.size o (by omega)
  have b1 := fun o => kk.1 (w.heap.size + 1) o (by omega)
  have zs := hb1.size
  simp [go_sem] at b0 b1 zs
  have z0 : w.heap.size < w1.heap.size := by omega
  have z1 : w.heap.size + 1 < w1.heap.size := by omega
  have bel1 : Hid (Below w.heap.size w w1) := bel_trans (bel_alloc (bel_alloc (bel_refl w) _) _) hb1
  clear kk hb1 zs
  cases hz : mm.eqb ⟨0#64, 0#64, 0#64, 0#64⟩
  · have SD2 := Lib.hid (SD.out hz)
    clear SD
    go_wp2_with fail
    refine (IM.out _).mono ?_
    rintro e w2 ⟨rfl, hb2⟩
    have kk := Keeps.of' (B := w1.heap.size + 1) (by simp) hb2
    have d0 := fun o => kk.1 w.heap.size o (by omega)
    have d1 := fun o => kk.1 (w.heap.size + 1) o (by omega)
    have d5 := fun o => kk.1 w1.heap.size o (by omega)
    have zs2 := hb2.size
    simp [go_sem, b0, b1, z0, z1] at d0 d1 d5 zs2
    have bel2 : Hid (Below w.heap.size w w2) := bel_trans (bel_alloc bel1.out _) hb2
    clear b0 b1 kk hb2 bel1
    have hth : (w2.alloc (Obj.cells #[.int .u64 0, .int .u64 0, .int .u64 0, .int .u64 0, .int .u64 0, .int .u64 0, .int .u64 0, .int .u64 0, .int .u64 0, .int .u64 0, .int .u64 0, .int .u64 0, .int .u64 0, .int .u64 0, .int .u64 0, .int .u64 0, .bool false] 31)).there w2.heap.size 0 17 := there_at _ _ _ _ _ (by simp) (by simp [go_sem])
    go_wp2_with (refine wpList_store_mid rfl 31 _ _ rfl w2.heap.size 0 (P.l ++ [Value.bool ov]).toArray rfl rfl hth (by kernel_rfl) (by simp [Value.oneCell']) ?_)
    have RG := World.rangeAt_setCells_same (w2.alloc (Obj.cells #[.int .u64 0, .int .u64 0, .int .u64 0, .int .u64 0, .int .u64 0, .int .u64 0, .int .u64 0, .int .u64 0, .int .u64 0, .int .u64 0, .int .u64 0, .int .u64 0, .int .u64 0, .int .u64 0, .int .u64 0, .int .u64 0, .bool false] 31)) w2.heap.size 0 (P.l ++ [Value.bool ov]) hth
    have b0 : ∀ o, ((w2.alloc (Obj.cells #[.int .u64 0, .int .u64 0, .int .u64 0, .int .u64 0, .int .u64 0, .int .u64 0, .int .u64 0, .int .u64 0, .int .u64 0, .int .u64 0, .int .u64 0, .int .u64 0, .int .u64 0, .int .u64 0, .int .u64 0, .int .u64 0, .bool false] 31)).setCells w2.heap.size 0 (P.l ++ [Value.bool ov])).cell? ⟨w.heap.size, o, none⟩ = [Value.int .i64 k.z, Value.int .i64 k.x, Value.int .i64 k.y, Value.int .i64 k.m][o]? := fun o => by
      rw [setCells_far _ _ _ _ _ _ (by omega), World.cell?_alloc_lt _ _ _ (by show w.heap.size < _; omega)]; exact d0 o
    have b1 : ∀ o, ((w2.alloc (Obj.cells #[.int .u64 0, .int .u64 0, .int .u64 0, .int .u64 0, .int .u64 0, .int .u64 0, .int .u64 0, .int .u64 0, .int .u64 0, .int .u64 0, .int .u64 0, .int .u64 0, .int .u64 0, .int .u64 0, .int .u64 0, .int .u64 0, .bool false] 31)).setCells w2.heap.size 0 (P.l ++ [Value.bool ov])).cell? ⟨w.heap.size + 1, o, none⟩ = [V c.a.a, V c.a.b, V c.a.c, V c.a.d, V c.b.a, V c.b.b, V c.b.c, V c.b.d, V c.c.a, V c.c.b, V c.c.c, V c.c.d, V c.d.a, V c.d.b, V c.d.c, V c.d.d][o]? := fun o => by
      rw [setCells_far _ _ _ _ _ _ (by omega), World.cell?_alloc_lt _ _ _ (by show w.heap.size + 1 < _; omega)]; exact d1 o
    have b5 : ∀ o, ((w2.alloc (Obj.cells #[.int .u64 0, .int .u64 0, .int .u64 0, .int .u64 0, .int .u64 0, .int .u64 0, .int .u64 0, .int .u64 0, .int .u64 0, .int .u64 0, .int .u64 0, .int .u64 0, .int .u64 0, .int .u64 0, .int .u64 0, .int .u64 0, .bool false] 31)).setCells w2.heap.size 0 (P.l ++ [Value.bool ov])).cell? ⟨w1.heap.size, o, none⟩ = [V mm.a, V mm.b, V mm.c, V mm.d][o]? := fun o => by
      rw [setCells_far _ _ _ _ _ _ (by omega), World.cell?_alloc_lt _ _ _ (by show w1.heap.size < _; omega)]; exact d5 o
    have belw := setCells_bel (B := w2.heap.size) (o := 0) (vs := P.l ++ [Value.bool ov]) (bel_alloc bel2.out (Obj.cells #[.int .u64 0, .int .u64 0, .int .u64 0, .int .u64 0, .int .u64 0, .int .u64 0, .int .u64 0, .int .u64 0, .int .u64 0, .int .u64 0, .int .u64 0, .int .u64 0, .int .u64 0, .int .u64 0, .int .u64 0, .int .u64 0, .bool false] 31)) bel2.out.size
    have wsz : w2.heap.size < ((w2.alloc (Obj.cells #[.int .u64 0, .int .u64 0, .int .u64 0, .int .u64 0, .int .u64 0, .int .u64 0, .int .u64 0, .int .u64 0, .int .u64 0, .int .u64 0, .int .u64 0, .int .u64 0, .int .u64 0, .int .u64 0, .int .u64 0, .int .u64 0, .bool false] 31)).setCells w2.heap.size 0 (P.l ++ [Value.bool ov])).heap.size := by rw [setCells_size]; simp
    clear hth d0 d1 d5 bel2
    generalize (w2.alloc (Obj.cells #[.int .u64 0, .int .u64 0, .int .u64 0, .int .u64 0, .int .u64 0, .int .u64 0, .int .u64 0, .int .u64 0, .int .u64 0, .int .u64 0, .int .u64 0, .int .u64 0, .int .u64 0, .int .u64 0, .int .u64 0, .int .u64 0, .bool false] 31)).setCells w2.heap.size 0 (P.l ++ [Value.bool ov]) = W at *
    generalize w2.heap.size = g6 at *
    generalize w1.heap.size = g5 at *
    have n0 := (b5 0).trans rfl
    have n1 := (b5 1).trans rfl
    have n2 := (b5 2).trans rfl
    have n3 := (b5 3).trans rfl
    clear b5
    simp only [Act.put]
    refine wp_region_all (by kernel_rfl) (GA [19, 20, 21, 22, 23, 24, 25, 26, 18, 27, 28, 7, 8] [7] [] _ _ _) (FV (fun i => [19, 20, 21, 22, 23, 24, 25, 26, 18, 27, 28, 7, 7, 8].getD i 0) (VF1 k c mm zq ov)) (all_ord (by kernel_rfl)) (GA.start (by simp)) ?_ ?_
    · intro j o ho a' w' hG hpre
      have hj : j < 14 := getElem?_lt ho
      have hb := hG.bel
      have s0 := hG.frame.rest 2 (by decide)
      have hc0 := fun o => (hb.cell (p := ⟨w.heap.size, o, none⟩) (show w.heap.size < _ by omega)).trans (b0 o)
      have s1 := hG.frame.rest 3 (by decide)
      have hc1 := fun o => (hb.cell (p := ⟨w.heap.size + 1, o, none⟩) (show w.heap.size + 1 < _ by omega)).trans (b1 o)
      simp [go_sem] at s0 s1
      have t5 := hG.frame.rest 5 (by decide)
      simp [go_sem] at t5
      have m0 := bel_cell hb n0
      have m1 := bel_cell hb n1
      have m2 := bel_cell hb n2
      have m3 := bel_cell hb n3
      match j, hj with
      | 0, _ =>
        cases ho
        refine all_val rfl rfl rfl hG (by decide) (by decide) (by simp) rfl (by kernel_rfl) (VF1_mono _ _ _ _ _) ?_
        refine step_val (v := k.v) (w' := w') ?_ ⟨rfl, bel_refl _⟩
        simp [execOp, Act.eval, s0, hc0, go_sem]
      | 1, _ =>
        cases ho
        refine all_val rfl rfl rfl hG (by decide) (by decide) (by simp) rfl (by kernel_rfl) (VF1_mono _ _ _ _ _) ?_
        refine step_val (v := c.v) (w' := w') ?_ ⟨rfl, bel_refl _⟩
        simp [execOp, Act.eval, s1, hc1, go_sem]
      | 2, _ =>
        cases ho
        refine all_val rfl rfl rfl hG (by decide) (by decide) (by simp) rfl (by kernel_rfl) (VF1_mono _ _ _ _ _) ?_
        obtain ⟨v0, e0, rfl⟩ := FV.get (d := 19) (hpre ⟨0, .data⟩ (by simp) rfl) rfl
        obtain ⟨v1, e1, rfl⟩ := FV.get (d := 20) (hpre ⟨1, .data⟩ (by simp) rfl) rfl
        refine step_call (f := 15) (args := #[k.v, c.v]) (w' := w') ?_ (specX_any k c w' hk) ?_
        · simp [execOp, Act.eval, e0, e1, go_sem]
        · rintro e w'' ⟨rfl, hb2⟩
          exact ⟨_, rfl, rfl, hb2⟩
      | 3, _ =>
        cases ho
        refine all_val rfl rfl rfl hG (by decide) (by decide) (by simp) rfl (by kernel_rfl) (VF1_mono _ _ _ _ _) ?_
        refine step_val (v := k.v) (w' := w') ?_ ⟨rfl, bel_refl _⟩
        simp [execOp, Act.eval, s0, hc0, go_sem]
      | 4, _ =>
        cases ho
        refine all_val rfl rfl rfl hG (by decide) (by decide) (by simp) rfl (by kernel_rfl) (VF1_mono _ _ _ _ _) ?_
        refine step_val (v := c.v) (w' := w') ?_ ⟨rfl, bel_refl _⟩
        simp [execOp, Act.eval, s1, hc1, go_sem]
      | 5, _ =>
        cases ho
        refine all_val rfl rfl rfl hG (by decide) (by decide) (by simp) rfl (by kernel_rfl) (VF1_mono _ _ _ _ _) ?_
        obtain ⟨v0, e0, rfl⟩ := FV.get (d := 22) (hpre ⟨3, .data⟩ (by simp) rfl) rfl
        obtain ⟨v1, e1, rfl⟩ := FV.get (d := 23) (hpre ⟨4, .data⟩ (by simp) rfl) rfl
        refine step_call (f := 16) (args := #[k.v, c.v]) (w' := w') ?_ (specY_any k c w' hk) ?_
        · simp [execOp, Act.eval, e0, e1, go_sem]
        · rintro e w'' ⟨rfl, hb2⟩
          exact ⟨_, rfl, rfl, hb2⟩
      | 6, _ =>
        cases ho
        refine all_val rfl rfl rfl hG (by decide) (by decide) (by simp) rfl (by kernel_rfl) (VF1_mono _ _ _ _ _) ?_
        refine step_val (v := mm.v) (w' := w') ?_ ⟨rfl, bel_refl _⟩
        simp [execOp, Act.eval, t5, m0, m1, m2, m3, go_sem]
      | 7, _ =>
        cases ho
        refine all_val rfl rfl rfl hG (by decide) (by decide) (by simp) rfl (by kernel_rfl) (VF1_mono _ _ _ _ _) ?_
        obtain ⟨v0, e0, rfl⟩ := FV.get (d := 21) (hpre ⟨2, .data⟩ (by simp) rfl) rfl
        obtain ⟨v1, e1, rfl⟩ := FV.get (d := 24) (hpre ⟨5, .data⟩ (by simp) rfl) rfl
        obtain ⟨v2, e2, rfl⟩ := FV.get (d := 25) (hpre ⟨6, .data⟩ (by simp) rfl) rfl
        refine step_call (f := 23) (args := #[(c.get (ix k.x)).v, (c.get (ix k.y)).v, mm.v]) (w' := w') ?_ (SD2.out w') ?_
        · simp [execOp, Act.eval, e0, e1, e2, go_sem]
        · rintro e w'' ⟨rfl, hb2⟩
          exact ⟨_, rfl, rfl, hb2⟩
      | 8, _ =>
        cases ho
        refine all_val rfl rfl rfl hG (by decide) (by decide) (by simp) rfl (by kernel_rfl) (VF1_mono _ _ _ _ _) ?_
        obtain ⟨v0, e0, rfl⟩ := FV.get (d := 26) (hpre ⟨7, .data⟩ (by simp) rfl) rfl
        refine step_val (v := .tuple #[zq.v, .bool ov]) (w' := w') ?_ ⟨rfl, bel_refl _⟩
        simp [execOp, Act.eval, e0, go_sem]
      | 9, _ =>
        cases ho
        refine all_val rfl rfl rfl hG (by decide) (by decide) (by simp) rfl (by kernel_rfl) (VF1_mono _ _ _ _ _) ?_
        obtain ⟨v0, e0, rfl⟩ := FV.get (d := 18) (hpre ⟨8, .data⟩ (by simp) rfl) rfl
        refine step_val (v := zq.v) (w' := w') ?_ ⟨rfl, bel_refl _⟩
        simp [execOp, Act.eval, e0, go_sem]
      | 10, _ =>
        cases ho
        refine all_val rfl rfl rfl hG (by decide) (by decide) (by simp) rfl (by kernel_rfl) (VF1_mono _ _ _ _ _) ?_
        obtain ⟨v0, e0, rfl⟩ := FV.get (d := 18) (hpre ⟨8, .data⟩ (by simp) rfl) rfl
        refine step_val (v := .bool ov) (w' := w') ?_ ⟨rfl, bel_refl _⟩
        simp [execOp, Act.eval, e0, go_sem]
      | 11, _ =>
        cases ho
        refine all_alloc (.cells #[.int .u64 0, .int .u64 0, .int .u64 0, .int .u64 0] 26) rfl rfl rfl hG (by decide) (by simp) rfl (by kernel_rfl) (VF1_mono _ _ _ _ _) ?_ ⟨_, rfl, there_new _ _ _ _ (by simp)⟩
        simp [execOp, Act.eval, go_sem]
      | 12, _ =>
        cases ho
        obtain ⟨vp, ep, B, rfl, hth⟩ := FV.get (d := 7) (hpre ⟨11, .data⟩ (by simp) rfl) rfl
        obtain ⟨vx, ex, rfl⟩ := FV.get (d := 27) (hpre ⟨9, .data⟩ (by simp) rfl) rfl
        refine all_store 26 _ _ rfl B 0 [V (zq).a, V (zq).b, V (zq).c, V (zq).d] rfl rfl rfl hG rfl ep (by simp [Act.eval, ep]) (by simp [Act.eval, ex]) hth (hG.apart.1 7 (by decide) B 0 ep).1 (by kernel_rfl) (by simp [Value.oneCell']) ⟨B, rfl, At4.setNew hth, World.there_setCells hth _ _ _⟩ ?_
        intro i u hij hi hu hv
        match i, hi with
        | 0, _ => exact (show u = k.v from hv)
        | 1, _ => exact (show u = c.v from hv)
        | 2, _ => exact (show u = (c.get (ix k.x)).v from hv)
        | 3, _ => exact (show u = k.v from hv)
        | 4, _ => exact (show u = c.v from hv)
        | 5, _ => exact (show u = (c.get (ix k.y)).v from hv)
        | 6, _ => exact (show u = mm.v from hv)
        | 7, _ => exact (show u = .tuple #[zq.v, .bool ov] from hv)
        | 8, _ => exact (show u = .tuple #[zq.v, .bool ov] from hv)
        | 9, _ => exact (show u = zq.v from hv)
        | 10, _ => exact (show u = .bool ov from hv)
        | 11, _ => obtain ⟨B2, rfl, h⟩ := hv; exact ⟨B2, rfl, World.there_setCells h _ _ _⟩
        | 12, _ => exact absurd rfl hij
        | 13, _ => exact (show u = .bool ov from hv)
        | i + 14, hi => exact absurd hi (by simp)
      | 13, _ =>
        cases ho
        refine all_val rfl rfl rfl hG (by decide) (by decide) (by simp) rfl (by kernel_rfl) (VF1_mono _ _ _ _ _) ?_
        obtain ⟨v0, e0, rfl⟩ := FV.get (d := 28) (hpre ⟨10, .data⟩ (by simp) rfl) rfl
        refine step_val (v := .bool ov) (w' := w') ?_ ⟨rfl, bel_refl _⟩
        simp [execOp, Act.eval, e0, go_sem]
      | n + 14, hj => exact absurd hj (by simp)
    · intro a' w' hG hF
      obtain ⟨_, e7, B7, rfl, h7, th7⟩ := FV.get (d := 7) (hF 12 (by decide)) rfl
      have l7 := h7.lt
      obtain ⟨h70, h71, h72, h73⟩ := h7
      simp only [Nat.zero_add] at h71 h72 h73
      obtain ⟨_, e8, rfl⟩ := FV.get (d := 8) (hF 13 (by decide)) rfl
      have s2 := hG.frame.rest 2 (by decide)
      have c2 := fun o => (hG.bel.cell (p := ⟨w.heap.size, o, none⟩) (show w.heap.size < _ by omega)).trans (b0 o)
      have s3 := hG.frame.rest 3 (by decide)
      have c3 := fun o => (hG.bel.cell (p := ⟨w.heap.size + 1, o, none⟩) (show w.heap.size + 1 < _ by omega)).trans (b1 o)
      have s5 := hG.frame.rest 5 (by decide)
      have s6 := hG.frame.rest 6 (by decide)
      have hsz := hG.frame.size
      have hdf := hG.frame.defers
      have hgs := hG.bel.size
      have hbel : Below w.heap.size w w' := bel_trans belw hG.bel
      have z2 : w.heap.size < w'.heap.size := by omega
      have z3 : w.heap.size + 1 < w'.heap.size := by omega
      have gB7 := (hG.apart.1 7 (by decide) B7 0 e7).1
      have ra6 := rangeAt_bel RG hG.bel
      have ra3 : World.rangeAt w' (w.heap.size + 1) 0 c.l := fun j v hj => ((hG.bel.cell (p := ⟨w.heap.size + 1, 0 + j, none⟩) (show w.heap.size + 1 < _ by omega)).trans (b1 (0 + j))).trans (by rw [Nat.zero_add]; exact hj)
      clear hF hG
      obtain ⟨tm, df⟩ := a'
      obtain ⟨x0, x1, x2, x3, x4, x5, x6, x7, x8, x9, x10, x11, x12, x13, x14, x15, x16, x17, x18, x19, x20, x21, x22, x23, x24, x25, x26, x27, x28, x29, x30, x31, x32, x33, x34, x35, x36, x37, x38, x39, x40, x41, x42, rfl⟩ := arrayN43 hsz
      simp [go_sem] at e7 e8 s2 s3 s5 s6 hdf
      subst e7 e8 s2 s3 s5 s6 hdf
      clear hsz
      have z6' : g6 < w'.heap.size := by omega
      cases ov
      · go_wp2
        have n0 := h70
        have n1 := h71
        have n2 := h72
        have n3 := h73
        have b0 := c2
        have b1 := c3
        have z0' : w.heap.size < w'.heap.size := by omega
        have z1' : w.heap.size + 1 < w'.heap.size := by omega
        have belU := hbel
        clear h70 h71 h72 h73 c2 c3 hbel
        have k0 := b0 0
        simp [go_sem] at k0
        have zz0 : w.heap.size < (World.heap w').size := by omega
        have zz1 : w.heap.size + 1 < (World.heap w').size := by omega
        have zz6 : g6 < (World.heap w').size := by omega
        have zz7 : B7 < (World.heap w').size := by omega
        clear b0 b1
        refine wp_region_noPanic ?_
        refine wp_region_held_drew (S := (Keeps (World.heap w').size w')) (by kernel_rfl) (by exact Keeps.start _ _) (fun hHeld => ?_)
        refine hm_take (i := 0) (v := (ansV P false)) rfl rfl (by kernel_rfl) (by kernel_rfl) (by kernel_rfl) (fun _ _ _ h => h) rfl ?_ (by assumption) ?_
        · (intro wS hSw; exact run_load_op 31 _ rfl g6 0 rfl (P.l ++ [Value.bool false]) Try.underlying31 rfl (by kernel_rfl) _ (fun j v hj => (hSw.1 _ _ zz6).trans (ra6 j v hj)))
        try simp only [Act.put, List.setIfInBounds_toArray, List.set_cons_zero, List.set_cons_succ]
        refine hm_take (i := 1) (v := c.v) rfl rfl (by kernel_rfl) (by kernel_rfl) (by kernel_rfl) (fun _ _ _ h => h) rfl ?_ (by assumption) ?_
        · (intro wS hSw; exact run_load_op 28 _ rfl (w.heap.size + 1) 0 rfl c.l Try.underlying28 rfl (by kernel_rfl) _ (fun j v hj => (hSw.1 _ _ zz1).trans (ra3 j v hj)))
        try simp only [Act.put, List.setIfInBounds_toArray, List.set_cons_zero, List.set_cons_succ]
        refine hm_take (i := 2) (v := ?_) rfl rfl (by kernel_rfl) (by kernel_rfl) (by kernel_rfl) (fun _ _ _ h => h) rfl ?_ (by assumption) ?_
        rotate_left
        · (intro w hSw; (try dsimp only at hSw); go_simp; try with_reducible rfl)
        try simp only [Act.put, List.setIfInBounds_toArray, List.set_cons_zero, List.set_cons_succ]
        refine hm_take (i := 3) (v := ?_) rfl rfl (by kernel_rfl) (by kernel_rfl) (by kernel_rfl) (fun _ _ _ h => h) rfl ?_ (by assumption) ?_
        rotate_left
        · (intro w hSw; (try dsimp only at hSw); go_simp; try with_reducible rfl)
        try simp only [Act.put, List.setIfInBounds_toArray, List.set_cons_zero, List.set_cons_succ]
        refine hm_take (i := 4) (v := ?_) rfl rfl (by kernel_rfl) (by kernel_rfl) (by kernel_rfl) (fun _ _ _ h => h) rfl ?_ (by assumption) ?_
        rotate_left
        · (intro w hSw; (try dsimp only at hSw); go_simp; try with_reducible rfl)
        try simp only [Act.put, List.setIfInBounds_toArray, List.set_cons_zero, List.set_cons_succ]
        refine hm_take (i := 6) (v := ?_) rfl rfl (by kernel_rfl) (by kernel_rfl) (by kernel_rfl) (fun _ _ _ h => h) rfl ?_ (by assumption) ?_
        rotate_left
        · (intro w hSw; (try dsimp only at hSw); go_simp; try with_reducible rfl)
        try simp only [Act.put, List.setIfInBounds_toArray, List.set_cons_zero, List.set_cons_succ]
        refine hm_call (i := 5) rfl (by kernel_rfl) rfl (fun K hK => ?_)
        go_simp
        (go_at_call 13; refine (SP.out _).mono ?_; rintro e w1 ⟨rfl, hb⟩)
        (try go_wp2_with fail)
        refine hK.out _ _ (by (try dsimp only); first | assumption | exact Keeps.step (by assumption) (Nat.le_refl _) hb) (fun hHeld => ?_)
        clear hK K
        try simp only [Act.put, List.setIfInBounds_toArray, List.set_cons_zero, List.set_cons_succ]
        refine hm_call (i := 7) rfl (by kernel_rfl) rfl (fun K hK => ?_)
        go_simp
        (go_at_call 11; refine (TD.out _).mono ?_; rintro e w1 ⟨rfl, hb⟩)
        (try go_wp2_with fail)
        refine hK.out _ _ (by (try dsimp only); first | assumption | exact Keeps.step (by assumption) (Nat.le_refl _) hb) (fun hHeld => ?_)
        clear hK K
        try simp only [Act.put, List.setIfInBounds_toArray, List.set_cons_zero, List.set_cons_succ]
        refine hm_take (i := 8) (v := ?_) rfl rfl (by kernel_rfl) (by kernel_rfl) (by kernel_rfl) (fun _ _ _ h => h) rfl ?_ (by assumption) ?_
        rotate_left
        · (intro w hSw; (try dsimp only at hSw); go_simp; try with_reducible rfl)
        try simp only [Act.put, List.setIfInBounds_toArray, List.set_cons_zero, List.set_cons_succ]
        refine wpAnyH_done (by kernel_rfl) ?_ _
        refine NoPanic.normal ?_
        go_wp2
        go_ret
        exact retBel rfl ((‹Keeps _ _ _›).bel belU.size belU)
      · have ra7 : w'.rangeAt g6 0 P.l := fun j v hj => ra6 j v (by rw [List.getElem?_append_left (List.getElem?_eq_some_iff.1 hj).1]; exact hj)
        go_upto_region 7 with fail
        go_wp2_with (first | (refine wpList_load_mid rfl 28 _ rfl g6 0 rfl P.l _ ra7 Try.underlying28 rfl (by kernel_rfl) ?_) | fail)
        refine (SG.out _).mono ?_
        rintro e w3 ⟨rfl, hb3⟩
        have kk := Keeps.of' (B := w'.heap.size) rfl hb3
        have th3 := there_bel th7 (by omega) hb3
        have bel4 := setCells_bel (B := B7) (o := 0) (vs := [V zq.a, V zq.b, V zq.c, V zq.d]) (bel_trans hbel hb3) (by have := belw.size; omega)
        go_wp2_with (refine wpList_store_mid rfl 26 _ _ rfl B7 0 [V zq.a, V zq.b, V zq.c, V zq.d].toArray rfl rfl th3 (by kernel_rfl) (by simp [Value.oneCell']) ?_)
        have e0 : ∀ o, (w3.setCells B7 0 [V zq.a, V zq.b, V zq.c, V zq.d]).cell? ⟨w.heap.size, o, none⟩ = [Value.int .i64 k.z, Value.int .i64 k.x, Value.int .i64 k.y, Value.int .i64 k.m][o]? := fun o => by
          rw [setCells_far _ _ _ _ _ _ (by omega), kk.1 _ _ (by omega)]; exact c2 o
        have e1 : ∀ o, (w3.setCells B7 0 [V zq.a, V zq.b, V zq.c, V zq.d]).cell? ⟨w.heap.size + 1, o, none⟩ = [V c.a.a, V c.a.b, V c.a.c, V c.a.d, V c.b.a, V c.b.b, V c.b.c, V c.b.d, V c.c.a, V c.c.b, V c.c.c, V c.c.d, V c.d.a, V c.d.b, V c.d.c, V c.d.d][o]? := fun o => by
          rw [setCells_far _ _ _ _ _ _ (by omega), kk.1 _ _ (by omega)]; exact c3 o
        have rb6 : (w3.setCells B7 0 [V zq.a, V zq.b, V zq.c, V zq.d]).rangeAt g6 0 (P.l ++ [Value.bool true]) := rangeAt_far (rangeAt_bel ra6 hb3) (by omega)
        have rb3 : (w3.setCells B7 0 [V zq.a, V zq.b, V zq.c, V zq.d]).rangeAt (w.heap.size + 1) 0 c.l := rangeAt_far (rangeAt_bel ra3 hb3) (by omega)
        have zn := At4.setNew (x := zq) th3
        have zu0 : w.heap.size < (w3.setCells B7 0 [V zq.a, V zq.b, V zq.c, V zq.d]).heap.size := by have := zn.lt; omega
        have zu1 : w.heap.size + 1 < (w3.setCells B7 0 [V zq.a, V zq.b, V zq.c, V zq.d]).heap.size := by have := zn.lt; omega
        have zu7 := zn.lt
        have zu6 : g6 < (w3.setCells B7 0 [V zq.a, V zq.b, V zq.c, V zq.d]).heap.size := by rw [setCells_size]; have := hb3.size; omega
        clear c2 c3 h70 h71 h72 h73 kk th3 th7 hb3 hbel ra6 ra3 b0 b1
        generalize w3.setCells B7 0 [V zq.a, V zq.b, V zq.c, V zq.d] = U at *
        obtain ⟨n0, n1, n2, n3⟩ := zn
        simp only [Nat.zero_add] at n1 n2 n3
        have ra6 := rb6
        have ra3 := rb3
        have b0 := e0
        have b1 := e1
        have belU := bel4
        clear rb6 rb3 e0 e1 bel4
        simp only [Act.put]
        have k0 := b0 0
        simp [go_sem] at k0
        have zz0 : w.heap.size < (World.heap U).size := by omega
        have zz1 : w.heap.size + 1 < (World.heap U).size := by omega
        have zz6 : g6 < (World.heap U).size := by omega
        have zz7 : B7 < (World.heap U).size := by omega
        clear b0 b1
        refine wp_region_noPanic ?_
        refine wp_region_held_drew (S := (Keeps (World.heap U).size U)) (by kernel_rfl) (by exact Keeps.start _ _) (fun hHeld => ?_)
        refine hm_take (i := 0) (v := (ansV P true)) rfl rfl (by kernel_rfl) (by kernel_rfl) (by kernel_rfl) (fun _ _ _ h => h) rfl ?_ (by assumption) ?_
        · (intro wS hSw; exact run_load_op 31 _ rfl g6 0 rfl (P.l ++ [Value.bool true]) Try.underlying31 rfl (by kernel_rfl) _ (fun j v hj => (hSw.1 _ _ zz6).trans (ra6 j v hj)))
        try simp only [Act.put, List.setIfInBounds_toArray, List.set_cons_zero, List.set_cons_succ]
        refine hm_take (i := 1) (v := c.v) rfl rfl (by kernel_rfl) (by kernel_rfl) (by kernel_rfl) (fun _ _ _ h => h) rfl ?_ (by assumption) ?_
        · (intro wS hSw; exact run_load_op 28 _ rfl (w.heap.size + 1) 0 rfl c.l Try.underlying28 rfl (by kernel_rfl) _ (fun j v hj => (hSw.1 _ _ zz1).trans (ra3 j v hj)))
        try simp only [Act.put, List.setIfInBounds_toArray, List.set_cons_zero, List.set_cons_succ]
        refine hm_take (i := 2) (v := ?_) rfl rfl (by kernel_rfl) (by kernel_rfl) (by kernel_rfl) (fun _ _ _ h => h) rfl ?_ (by assumption) ?_
        rotate_left
        · (intro w hSw; (try dsimp only at hSw); go_simp; try with_reducible rfl)
        try simp only [Act.put, List.setIfInBounds_toArray, List.set_cons_zero, List.set_cons_succ]
        refine hm_take (i := 3) (v := ?_) rfl rfl (by kernel_rfl) (by kernel_rfl) (by kernel_rfl) (fun _ _ _ h => h) rfl ?_ (by assumption) ?_
        rotate_left
        · (intro w hSw; (try dsimp only at hSw); go_simp; try with_reducible rfl)
        try simp only [Act.put, List.setIfInBounds_toArray, List.set_cons_zero, List.set_cons_succ]
        refine hm_take (i := 4) (v := ?_) rfl rfl (by kernel_rfl) (by kernel_rfl) (by kernel_rfl) (fun _ _ _ h => h) rfl ?_ (by assumption) ?_
        rotate_left
        · (intro w hSw; (try dsimp only at hSw); go_simp; try with_reducible rfl)
        try simp only [Act.put, List.setIfInBounds_toArray, List.set_cons_zero, List.set_cons_succ]
        refine hm_take (i := 6) (v := ?_) rfl rfl (by kernel_rfl) (by kernel_rfl) (by kernel_rfl) (fun _ _ _ h => h) rfl ?_ (by assumption) ?_
        rotate_left
        · (intro w hSw; (try dsimp only at hSw); go_simp; try with_reducible rfl)
        try simp only [Act.put, List.setIfInBounds_toArray, List.set_cons_zero, List.set_cons_succ]
        refine hm_call (i := 5) rfl (by kernel_rfl) rfl (fun K hK => ?_)
        go_simp
        (go_at_call 13; refine (SP.out _).mono ?_; rintro e w1 ⟨rfl, hb⟩)
        (try go_wp2_with fail)
        refine hK.out _ _ (by (try dsimp only); first | assumption | exact Keeps.step (by assumption) (Nat.le_refl _) hb) (fun hHeld => ?_)
        clear hK K
        try simp only [Act.put, List.setIfInBounds_toArray, List.set_cons_zero, List.set_cons_succ]
        refine hm_call (i := 7) rfl (by kernel_rfl) rfl (fun K hK => ?_)
        go_simp
        (go_at_call 11; refine (TD.out _).mono ?_; rintro e w1 ⟨rfl, hb⟩)
        (try go_wp2_with fail)
        refine hK.out _ _ (by (try dsimp only); first | assumption | exact Keeps.step (by assumption) (Nat.le_refl _) hb) (fun hHeld => ?_)
        clear hK K
        try simp only [Act.put, List.setIfInBounds_toArray, List.set_cons_zero, List.set_cons_succ]
        refine hm_take (i := 8) (v := ?_) rfl rfl (by kernel_rfl) (by kernel_rfl) (by kernel_rfl) (fun _ _ _ h => h) rfl ?_ (by assumption) ?_
        rotate_left
        · (intro w hSw; (try dsimp only at hSw); go_simp; try with_reducible rfl)
        try simp only [Act.put, List.setIfInBounds_toArray, List.set_cons_zero, List.set_cons_succ]
        refine wpAnyH_done (by kernel_rfl) ?_ _
        refine NoPanic.normal ?_
        go_wp2
        go_ret
        exact retBel rfl ((‹Keeps _ _ _›).bel belU.size belU)
  · go_wp2_with fail
    go_ret
    exact retBel rfl (bel_alloc bel1.out _)

set_option maxRecDepth 100000 in
theorem lifted (os : Os) (started : os.Started) (H : Type) (enc : TypeId × Value → H) :
    ReturnsInHanded {} Try.checked os 5 .any (Rows.fnMulDivOverflowIsSpec.pre6 enc Try.prog Try.f5 Rows.fnMulDivOverflowIsRow.domain false) (Rows.fnMulDivOverflowIsSpec.post enc Try.prog Try.f5 false true false false) := by
  refine returnsInHanded_of_change (C := Try.checked) Try.own started (by kernel_rfl) Try.func5
    (ChangeSpec.witness6 (enc := enc) (C := Try.checked) false ⟨#[], #[.agg #[.int .i64 0, .int .i64 0, .int .i64 0, .int .i64 0], .agg #[.int .u64 0, .int .u64 0, .int .u64 0, .int .u64 0, .int .u64 0, .int .u64 0, .int .u64 0, .int .u64 0, .int .u64 0, .int .u64 0, .int .u64 0, .int .u64 0, .int .u64 0, .int .u64 0, .int .u64 0, .int .u64 0]], []⟩ 8 (by kernel_rfl) (by kernel_rfl) (by kernel_rfl) (by kernel_rfl)) ?_
  intro W base args ds gs before hval0 hW hcnd _
  have hval : ∀ (j : Nat) t v, Try.f5.params[j]? = some t → args[j]? = some v → Value.okWide Try.prog W .any base t v := hval0
  have hW' := hW
  obtain ⟨p, q, hA0, hV, rfl, hfz, hnd⟩ := hW
  have hA : DataW.TrodAll enc Try.prog W 0 (fun _ => true) true Try.f5.params.toList args.toList ds p := hA0
  rw [Try.params5] at hA hval
  obtain ⟨v0, vs0, d0, ds0, p0, q0, hargs, rfl, rfl, h0, r0⟩ := trodAll_cons hA
  obtain ⟨v1, vs1, d1, ds1, p1, q1, rfl, rfl, rfl, h1, r1⟩ := trodAll_cons r0
  obtain ⟨rfl, rfl, rfl⟩ := trodAll_nil r1
  obtain rfl : args = #[v0, v1] := by cases args; simp_all
  obtain ⟨rfl, rfl⟩ := trodVars_none hV
  have k0 := h0
  have lt0 : ∀ x ∈ p0, x.block < W.heap.size := by obtain ⟨m, hm⟩ := k0; exact DataW.trod_lt m _ _ _ hm
  obtain ⟨x0, rfl, g0⟩ := open_ways (hval 0 23 v0 rfl rfl)
  have k1 := h1
  have lt1 : ∀ x ∈ p1, x.block < W.heap.size := by obtain ⟨m, hm⟩ := k1; exact DataW.trod_lt m _ _ _ hm
  obtain ⟨x1, rfl⟩ := open_cells (hval 1 28 v1 rfl rfl)
  clear hA0 hval0
  refine (walk x0 g0 x1 W).mono fun e W' ⟨he, bel⟩ => ?_
  subst he
  exact ⟨_, rfl, _, _, _, [], _, [], hW', trodAll_mk1 (shut_bool Try.underlying4 _), (trodAll_cons_mk (Below.trod Try.laidOut (by kernel_rfl) (of_decide_eq_true (by kernel_rfl)) k0 bel lt0) (trodAll_cons_mk (Below.trod Try.laidOut (by kernel_rfl) (of_decide_eq_true (by kernel_rfl)) k1 bel lt1) trodAll_mk0)), rfl, bel.frame _, fun h => by cases h⟩

theorem holds : Rows.FnMulDivOverflowIsSaid :=
  OpenClaim.holds_of_wide 5 Try.f5 rfl rfl rfl rfl rfl rfl rfl ⟨rfl, rfl, rfl, rfl, rfl⟩ rfl rfl rfl rfl rfl (by kernel_rfl) Try.func5 (by kernel_rfl)
    (of_decide_eq_true (by kernel_rfl)) (by unfold Func.isWrapper; first | (rw [if_pos (by decide +kernel)]; kernel_rfl) | (rw [if_neg (by decide +kernel)]; exact ⟨rfl, rfl⟩))
    (fun os started H enc _ => lifted os started H enc)
#print axioms holds
end Go.Proofs.Ytbmlbjpiodiihaa.fnMulDivOverflowIs
