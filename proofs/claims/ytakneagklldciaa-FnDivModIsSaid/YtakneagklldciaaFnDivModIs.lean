/-
  For every ways and cells: where z and m are two cells, impl.DivMod gives the cells in which z is how often y goes into x and m is what is left (both 0 where y is 0); no other cell is changed (the statement FnDivModIsSaid, no conditions).
-/
import Derived.Test.YtakneagklldciaaOpen
import Derived.Test.YtakneagklldciaaSpec1
import Derived.Test.YtakneagklldciaaSpec7
import Derived.Test.YtakneagklldciaaDesk10
import Derived.Test.YtakneagklldciaaRegion2
namespace Go.Proofs.Ytakneagklldciaa.fnDivModIs
set_option maxRecDepth 20000
open Go.ChangeShapes Go.WideShapes Go.ChangeAt Go.RowKit
set_option linter.unusedVariables false
set_option linter.unusedSimpArgs false

theorem arrayN39 {l : Array Value} (h : l.size = 39) : ∃ x0 x1 x2 x3 x4 x5 x6 x7 x8 x9 x10 x11 x12 x13 x14 x15 x16 x17 x18 x19 x20 x21 x22 x23 x24 x25 x26 x27 x28 x29 x30 x31 x32 x33 x34 x35 x36 x37 x38, l = #[x0, x1, x2, x3, x4, x5, x6, x7, x8, x9, x10, x11, x12, x13, x14, x15, x16, x17, x18, x19, x20, x21, x22, x23, x24, x25, x26, x27, x28, x29, x30, x31, x32, x33, x34, x35, x36, x37, x38] := by
  obtain ⟨l⟩ := l
  have h0 : l.length = 38 + 1 := h
  clear h
  obtain ⟨x0, l1, rfl, h1⟩ := cons_of h0
  obtain ⟨x1, l2, rfl, h2⟩ := cons_of h1
  obtain ⟨x2, l3, rfl, h3⟩ := cons_of h2
  obtain ⟨x3, l4, rfl, h4⟩ := cons_of h3
  obtain ⟨x4, l5, rfl, h5⟩ := cons_of h4
  obtain ⟨x5, l6, rfl, h6⟩ := cons_of h5
  obtain ⟨x6, l7, rfl, h7⟩ := cons_of h6
  obtain ⟨x7, l8, rfl, h8⟩ := cons_of h7
  obtain ⟨x8, l9, rfl, h9⟩ := cons_of h8
  obtain ⟨x9, l10, rfl, h10⟩ := cons_of h9
  obtain ⟨x10, l11, rfl, h11⟩ := cons_of h10
  obtain ⟨x11, l12, rfl, h12⟩ := cons_of h11
  obtain ⟨x12, l13, rfl, h13⟩ := cons_of h12
  obtain ⟨x13, l14, rfl, h14⟩ := cons_of h13
  obtain ⟨x14, l15, rfl, h15⟩ := cons_of h14
  obtain ⟨x15, l16, rfl, h16⟩ := cons_of h15
  obtain ⟨x16, l17, rfl, h17⟩ := cons_of h16
  obtain ⟨x17, l18, rfl, h18⟩ := cons_of h17
  obtain ⟨x18, l19, rfl, h19⟩ := cons_of h18
  obtain ⟨x19, l20, rfl, h20⟩ := cons_of h19
  obtain ⟨x20, l21, rfl, h21⟩ := cons_of h20
  obtain ⟨x21, l22, rfl, h22⟩ := cons_of h21
  obtain ⟨x22, l23, rfl, h23⟩ := cons_of h22
  obtain ⟨x23, l24, rfl, h24⟩ := cons_of h23
  obtain ⟨x24, l25, rfl, h25⟩ := cons_of h24
  obtain ⟨x25, l26, rfl, h26⟩ := cons_of h25
  obtain ⟨x26, l27, rfl, h27⟩ := cons_of h26
  obtain ⟨x27, l28, rfl, h28⟩ := cons_of h27
  obtain ⟨x28, l29, rfl, h29⟩ := cons_of h28
  obtain ⟨x29, l30, rfl, h30⟩ := cons_of h29
  obtain ⟨x30, l31, rfl, h31⟩ := cons_of h30
  obtain ⟨x31, l32, rfl, h32⟩ := cons_of h31
  obtain ⟨x32, l33, rfl, h33⟩ := cons_of h32
  obtain ⟨x33, l34, rfl, h34⟩ := cons_of h33
  obtain ⟨x34, l35, rfl, h35⟩ := cons_of h34
  obtain ⟨x35, l36, rfl, h36⟩ := cons_of h35
  obtain ⟨x36, l37, rfl, h37⟩ := cons_of h36
  obtain ⟨x37, l38, rfl, h38⟩ := cons_of h37
  obtain ⟨x38, l39, rfl, h39⟩ := cons_of h38
  cases l39 with
  | nil => exact ⟨x0, x1, x2, x3, x4, x5, x6, x7, x8, x9, x10, x11, x12, x13, x14, x15, x16, x17, x18, x19, x20, x21, x22, x23, x24, x25, x26, x27, x28, x29, x30, x31, x32, x33, x34, x35, x36, x37, x38, rfl⟩
  | cons a t => simp at h39
/-- The sixteen cells of c at block B. -/
def AtC (w : World) (B : Nat) (c : C4) : Prop := At4 w B 0 c.a ∧ At4 w B 4 c.b ∧ At4 w B 8 c.c ∧ At4 w B 12 c.d
theorem AtC.bel {a b : World} {B : Nat} {c : C4} (h : AtC a B c) (k : Below a.heap.size a b) : AtC b B c := ⟨h.1.bel k, h.2.1.bel k, h.2.2.1.bel k, h.2.2.2.bel k⟩
theorem AtC.setNew {w : World} {g : Nat} {x : C4} (h : w.there g 0 16) : AtC (w.setCells g 0 [V x.a.a, V x.a.b, V x.a.c, V x.a.d, V x.b.a, V x.b.b, V x.b.c, V x.b.d, V x.c.a, V x.c.b, V x.c.c, V x.c.d, V x.d.a, V x.d.b, V x.d.c, V x.d.d]) g x := by
  have k := World.rangeAt_setCells_same w g 0 [V x.a.a, V x.a.b, V x.a.c, V x.a.d, V x.b.a, V x.b.b, V x.b.c, V x.b.d, V x.c.a, V x.c.b, V x.c.c, V x.c.d, V x.d.a, V x.d.b, V x.d.c, V x.d.d] h
  exact ⟨⟨k 0 _ rfl, k 1 _ rfl, k 2 _ rfl, k 3 _ rfl⟩, ⟨k 4 _ rfl, k 5 _ rfl, k 6 _ rfl, k 7 _ rfl⟩, ⟨k 8 _ rfl, k 9 _ rfl, k 10 _ rfl, k 11 _ rfl⟩, ⟨k 12 _ rfl, k 13 _ rfl, k 14 _ rfl, k 15 _ rfl⟩⟩
def VF (k : W4) (c : C4) : Nat → Value → World → Prop
  | 0, v, w => v = k.v
  | 1, v, w => v = c.v
  | 2, v, w => v = (c.get (ix k.x)).v
  | 3, v, w => v = k.v
  | 4, v, w => v = c.v
  | 5, v, w => v = (c.get (ix k.y)).v
  | 6, v, w => ∃ B, v = .pointer (some ⟨B, 0, none⟩) ∧ w.there B 0 4
  | 7, v, w => ∃ B, v = .pointer (some ⟨B, 0, none⟩) ∧ w.there B 0 4
  | 8, v, w => ∃ B, v = .pointer (some ⟨B, 0, none⟩) ∧ At4 w B 0 ((c.get (ix k.x)))
  | 9, v, w => ∃ B, v = .pointer (some ⟨B, 0, none⟩) ∧ At4 w B 0 ((c.get (ix k.y)))
  | _, _, _ => False
theorem VF_mono (k : W4) (c : C4) : ∀ j v w w', Below w.heap.size w w' → VF k c j v w → VF k c j v w' := by
  intro j v w w' hb h
  match j, h with
  | 0, h => exact h
  | 1, h => exact h
  | 2, h => exact h
  | 3, h => exact h
  | 4, h => exact h
  | 5, h => exact h
  | 6, h => obtain ⟨B, rfl, h1⟩ := h; exact ⟨B, rfl, there_bel h1 (by omega) hb⟩
  | 7, h => obtain ⟨B, rfl, h1⟩ := h; exact ⟨B, rfl, there_bel h1 (by omega) hb⟩
  | 8, h => obtain ⟨B, rfl, h1⟩ := h; exact ⟨B, rfl, At4.bel h1 hb⟩
  | 9, h => obtain ⟨B, rfl, h1⟩ := h; exact ⟨B, rfl, At4.bel h1 hb⟩
def VF2 (k : W4) (c : C4) (q : N4) (r : N4) (pa : C4) (pb : C4) (bb : Nat) : Nat → Value → World → Prop
  | 0, v, w => v = c.v
  | 1, v, w => v = .pointer (some ⟨bb, 0, none⟩)
  | 2, v, w => v = .int .i64 k.z
  | 3, v, w => v = (c.get (ix k.x)).v
  | 4, v, w => v = (c.get (ix k.y)).v
  | 5, v, w => v = q.v
  | 6, v, w => v = pa.v
  | 7, v, w => v = .pointer (some ⟨bb, 3, none⟩)
  | 8, v, w => v = .int .i64 k.m
  | 9, v, w => v = (c.get (ix k.x)).v
  | 10, v, w => v = (c.get (ix k.y)).v
  | 11, v, w => v = r.v
  | 12, v, w => v = pb.v
  | 13, v, w => ∃ B, v = .pointer (some ⟨B, 0, none⟩) ∧ w.there B 0 16
  | 14, v, w => ∃ B, v = .pointer (some ⟨B, 0, none⟩) ∧ AtC w B (pb)
  | _, _, _ => False
theorem VF2_mono (k : W4) (c : C4) (q : N4) (r : N4) (pa : C4) (pb : C4) (bb : Nat) : ∀ j v w w', Below w.heap.size w w' → VF2 k c q r pa pb bb j v w → VF2 k c q r pa pb bb j v w' := by
  intro j v w w' hb h
  match j, h with
  | 0, h => exact h
  | 1, h => exact h
  | 2, h => exact h
  | 3, h => exact h
  | 4, h => exact h
  | 5, h => exact h
  | 6, h => exact h
  | 7, h => exact h
  | 8, h => exact h
  | 9, h => exact h
  | 10, h => exact h
  | 11, h => exact h
  | 12, h => exact h
  | 13, h => obtain ⟨B, rfl, h1⟩ := h; exact ⟨B, rfl, there_bel h1 (by omega) hb⟩
  | 14, h => obtain ⟨B, rfl, h1⟩ := h; exact ⟨B, rfl, AtC.bel h1 hb⟩
set_option maxHeartbeats 4000000 in
theorem walk (k : W4) (hk : k.ok) (c : C4) (w : World) : Calls Try.prog 10 #[k.v, c.v] w (RetBel (.bool true) w) := by
  obtain ⟨q, hq⟩ : ∃ q, q = quoN (c.get (ix k.x)) (c.get (ix k.y)) := ⟨_, rfl⟩
  obtain ⟨r, hr⟩ : ∃ r, r = remN (c.get (ix k.x)) (c.get (ix k.y)) := ⟨_, rfl⟩
  obtain ⟨pa, hpa⟩ : ∃ pa, pa = c.put (ix k.z) q := ⟨_, rfl⟩
  obtain ⟨pb, hpb⟩ : ∃ pb, pb = pa.put (ix k.m) r := ⟨_, rfl⟩
  have Q0 : Hid (∀ w, Calls Try.prog 33 #[(c.get (ix k.x)).v, (c.get (ix k.y)).v] w (RetBel (N4.v q) w)) := fun w => by rw [hq]; exact specQuotient_any _ _ w
  have R0 : Hid (∀ w, Calls Try.prog 35 #[(c.get (ix k.x)).v, (c.get (ix k.y)).v] w (RetBel (N4.v r) w)) := fun w => by rw [hr]; exact specRest_any _ _ w
  have P1 : Hid (∀ w, Calls Try.prog 17 #[c.v, .int .i64 k.z, q.v] w (RetBel (C4.v pa) w)) := fun w => by rw [hpa]; exact specPut_any c k.z q w hk.1
  have P2 : Hid (∀ w, Calls Try.prog 17 #[pa.v, .int .i64 k.m, r.v] w (RetBel (C4.v pb) w)) := fun w => by rw [hpb]; exact specPut_any pa k.m r w hk.2.2.2
  have DM : Hid (ix k.z ≠ ix k.m → ∀ w, Calls Try.prog 37 #[k.v, c.v] w (RetBel (ansV pb false) w)) := fun hne w => by rw [hpb, hpa, hq, hr]; exact implDivMod_any k c w hk hne
  have TD : Hid (∀ w, Calls Try.prog 15 #[ansV pb false, pb.v, .bool false] w (RetBel (.bool true) w)) := fun w => by
    have h := told_any pb pb false false w
    rw [C4.eqb_self] at h
    exact h
  clear hq hr hpa hpb
  go_enter Try.func10, Try.ntmps10
  go_wp2
  go_region_held3 (Keeps (w.heap.size + 2) ((w.alloc (Obj.cells #[.int .i64 k.z, .int .i64 k.x, .int .i64 k.y, .int .i64 k.m] 23)).alloc (Obj.cells #[V c.a.a, V c.a.b, V c.a.c, V c.a.d, V c.b.a, V c.b.b, V c.b.c, V c.b.d, V c.c.a, V c.c.b, V c.c.c, V c.c.d, V c.d.a, V c.d.b, V c.d.c, V c.d.d] 28))) (first | assumption | exact Keeps.start _ _ | exact Keeps.step (by assumption) (by simp) hb)
    (first | (go_at_call 36; (first | refine (specCell_any k.z _ hk.1).mono ?_ | refine (specCell_any k.m _ hk.2.2.2).mono ?_); rintro e w1 ⟨rfl, rfl⟩))
  clear ‹Keeps _ _ _›
  obtain ⟨W1, hW1⟩ : ∃ W1, W1 = World.drew ((w.alloc (Obj.cells #[.int .i64 k.z, .int .i64 k.x, .int .i64 k.y, .int .i64 k.m] 23)).alloc (Obj.cells #[V c.a.a, V c.a.b, V c.a.c, V c.a.d, V c.b.a, V c.b.b, V c.b.c, V c.b.d, V c.c.a, V c.c.b, V c.c.c, V c.c.d, V c.d.a, V c.d.b, V c.d.c, V c.d.d] 28)) := ⟨_, rfl⟩
  have b0 : ∀ o, W1.cell? ⟨w.heap.size, o, none⟩ = World.cell? ((w.alloc (Obj.cells #[.int .i64 k.z, .int .i64 k.x, .int .i64 k.y, .int .i64 k.m] 23)).alloc (Obj.cells #[V c.a.a, V c.a.b, V c.a.c, V c.a.d, V c.b.a, V c.b.b, V c.b.c, V c.b.d, V c.c.a, V c.c.b, V c.c.c, V c.c.d, V c.d.a, V c.d.b, V c.d.c, V c.d.d] 28)) ⟨w.heap.size, o, none⟩ := fun o => by rw [hW1]; rfl
  have b1 : ∀ o, W1.cell? ⟨w.heap.size + 1, o, none⟩ = World.cell? ((w.alloc (Obj.cells #[.int .i64 k.z, .int .i64 k.x, .int .i64 k.y, .int .i64 k.m] 23)).alloc (Obj.cells #[V c.a.a, V c.a.b, V c.a.c, V c.a.d, V c.b.a, V c.b.b, V c.b.c, V c.b.d, V c.c.a, V c.c.b, V c.c.c, V c.c.d, V c.d.a, V c.d.b, V c.d.c, V c.d.d] 28)) ⟨w.heap.size + 1, o, none⟩ := fun o => by rw [hW1]; rfl
  have zsz : (World.heap ((w.alloc (Obj.cells #[.int .i64 k.z, .int .i64 k.x, .int .i64 k.y, .int .i64 k.m] 23)).alloc (Obj.cells #[V c.a.a, V c.a.b, V c.a.c, V c.a.d, V c.b.a, V c.b.b, V c.b.c, V c.b.d, V c.c.a, V c.c.b, V c.c.c, V c.c.d, V c.d.a, V c.d.b, V c.d.c, V c.d.d] 28))).size ≤ W1.heap.size := by rw [hW1]; exact Nat.le_refl _
  have belw : Below w.heap.size w W1 := by rw [hW1]; exact bel_drew (bel_alloc (bel_alloc (bel_refl w) _) _)
  rw [← hW1]
  simp [go_sem] at b0 b1 zsz
  clear hW1
  by_cases hzm : ix k.z = ix k.m
  · clear DM Q0 R0 P1 P2 TD
    have dz : (ix k.z == ix k.m) = true := beq_iff_eq.2 hzm
    go_wp2
    go_ret
    exact retBel rfl belw
  · have DN := Lib.hid (DM.out hzm)
    clear DM
    have dz : (ix k.z == ix k.m) = false := beq_eq_false_iff_ne.2 hzm
    go_wp2
    refine wp_region_all (by kernel_rfl) (GA [15, 16, 17, 18, 19, 20, 5, 6] [5, 6] [] _ _ _) (FV (fun i => [15, 16, 17, 18, 19, 20, 5, 6, 5, 6].getD i 0) (VF k c)) (all_ord (by kernel_rfl)) (GA.start (by simp)) ?_ ?_
    · intro j o ho a' w' hG hpre
      have hj : j < 10 := getElem?_lt ho
      have hb := hG.bel
      have s0 := hG.frame.rest 2 (by decide)
      have hc0 := fun o => (hb.cell (p := ⟨w.heap.size, o, none⟩) (show w.heap.size < _ by omega)).trans (b0 o)
      have s1 := hG.frame.rest 3 (by decide)
      have hc1 := fun o => (hb.cell (p := ⟨w.heap.size + 1, o, none⟩) (show w.heap.size + 1 < _ by omega)).trans (b1 o)
      simp [go_sem] at s0 s1
      match j, hj with
      | 0, _ =>
        cases ho
        refine all_val rfl rfl rfl hG (by decide) (by decide) (by simp) rfl (by kernel_rfl) (VF_mono _ _) ?_
        refine step_val (v := k.v) (w' := w') ?_ ⟨rfl, bel_refl _⟩
        simp [execOp, Act.eval, s0, hc0, go_sem]
      | 1, _ =>
        cases ho
        refine all_val rfl rfl rfl hG (by decide) (by decide) (by simp) rfl (by kernel_rfl) (VF_mono _ _) ?_
        refine step_val (v := c.v) (w' := w') ?_ ⟨rfl, bel_refl _⟩
        simp [execOp, Act.eval, s1, hc1, go_sem]
      | 2, _ =>
        cases ho
        refine all_val rfl rfl rfl hG (by decide) (by decide) (by simp) rfl (by kernel_rfl) (VF_mono _ _) ?_
        obtain ⟨v0, e0, rfl⟩ := FV.get (d := 15) (hpre ⟨0, .data⟩ (by simp) rfl) rfl
        obtain ⟨v1, e1, rfl⟩ := FV.get (d := 16) (hpre ⟨1, .data⟩ (by simp) rfl) rfl
        refine step_call (f := 19) (args := #[k.v, c.v]) (w' := w') ?_ (specX_any k c w' hk) ?_
        · simp [execOp, Act.eval, e0, e1, go_sem]
        · rintro e w'' ⟨rfl, hb2⟩
          exact ⟨_, rfl, rfl, hb2⟩
      | 3, _ =>
        cases ho
        refine all_val rfl rfl rfl hG (by decide) (by decide) (by simp) rfl (by kernel_rfl) (VF_mono _ _) ?_
        refine step_val (v := k.v) (w' := w') ?_ ⟨rfl, bel_refl _⟩
        simp [execOp, Act.eval, s0, hc0, go_sem]
      | 4, _ =>
        cases ho
        refine all_val rfl rfl rfl hG (by decide) (by decide) (by simp) rfl (by kernel_rfl) (VF_mono _ _) ?_
        refine step_val (v := c.v) (w' := w') ?_ ⟨rfl, bel_refl _⟩
        simp [execOp, Act.eval, s1, hc1, go_sem]
      | 5, _ =>
        cases ho
        refine all_val rfl rfl rfl hG (by decide) (by decide) (by simp) rfl (by kernel_rfl) (VF_mono _ _) ?_
        obtain ⟨v0, e0, rfl⟩ := FV.get (d := 18) (hpre ⟨3, .data⟩ (by simp) rfl) rfl
        obtain ⟨v1, e1, rfl⟩ := FV.get (d := 19) (hpre ⟨4, .data⟩ (by simp) rfl) rfl
        refine step_call (f := 20) (args := #[k.v, c.v]) (w' := w') ?_ (specY_any k c w' hk) ?_
        · simp [execOp, Act.eval, e0, e1, go_sem]
        · rintro e w'' ⟨rfl, hb2⟩
          exact ⟨_, rfl, rfl, hb2⟩
      | 6, _ =>
        cases ho
        refine all_alloc (.cells #[.int .u64 0, .int .u64 0, .int .u64 0, .int .u64 0] 26) rfl rfl rfl hG (by decide) (by simp) rfl (by kernel_rfl) (VF_mono _ _) ?_ ⟨_, rfl, there_new _ _ _ _ (by simp)⟩
        simp [execOp, Act.eval, go_sem]
      | 7, _ =>
        cases ho
        refine all_alloc (.cells #[.int .u64 0, .int .u64 0, .int .u64 0, .int .u64 0] 26) rfl rfl rfl hG (by decide) (by simp) rfl (by kernel_rfl) (VF_mono _ _) ?_ ⟨_, rfl, there_new _ _ _ _ (by simp)⟩
        simp [execOp, Act.eval, go_sem]
      | 8, _ =>
        cases ho
        obtain ⟨vp, ep, B, rfl, hth⟩ := FV.get (d := 5) (hpre ⟨6, .data⟩ (by simp) rfl) rfl
        obtain ⟨vx, ex, rfl⟩ := FV.get (d := 17) (hpre ⟨2, .data⟩ (by simp) rfl) rfl
        refine all_store 26 _ _ rfl B 0 [V ((c.get (ix k.x))).a, V ((c.get (ix k.x))).b, V ((c.get (ix k.x))).c, V ((c.get (ix k.x))).d] rfl rfl rfl hG rfl ep (by simp [Act.eval, ep]) (by simp [Act.eval, ex]) hth (hG.apart.1 5 (by decide) B 0 ep).1 (by kernel_rfl) (by simp [Value.oneCell']) ⟨B, rfl, At4.setNew hth⟩ ?_
        intro i u hij hi hu hv
        match i, hi with
        | 0, _ => exact (show u = k.v from hv)
        | 1, _ => exact (show u = c.v from hv)
        | 2, _ => exact (show u = (c.get (ix k.x)).v from hv)
        | 3, _ => exact (show u = k.v from hv)
        | 4, _ => exact (show u = c.v from hv)
        | 5, _ => exact (show u = (c.get (ix k.y)).v from hv)
        | 6, _ => obtain ⟨B2, rfl, h⟩ := hv; exact ⟨B2, rfl, World.there_setCells h _ _ _⟩
        | 7, _ => obtain ⟨B2, rfl, h⟩ := hv; exact ⟨B2, rfl, World.there_setCells h _ _ _⟩
        | 8, _ => exact absurd rfl hij
        | 9, _ => obtain ⟨B2, rfl, h⟩ := hv; exact ⟨B2, rfl, h.setFar4 (hG.apart.2 6 (by decide) 5 (by decide) (by decide) _ _ _ _ hu ep)⟩
        | i + 10, hi => exact absurd hi (by simp)
      | 9, _ =>
        cases ho
        obtain ⟨vp, ep, B, rfl, hth⟩ := FV.get (d := 6) (hpre ⟨7, .data⟩ (by simp) rfl) rfl
        obtain ⟨vx, ex, rfl⟩ := FV.get (d := 20) (hpre ⟨5, .data⟩ (by simp) rfl) rfl
        refine all_store 26 _ _ rfl B 0 [V ((c.get (ix k.y))).a, V ((c.get (ix k.y))).b, V ((c.get (ix k.y))).c, V ((c.get (ix k.y))).d] rfl rfl rfl hG rfl ep (by simp [Act.eval, ep]) (by simp [Act.eval, ex]) hth (hG.apart.1 6 (by decide) B 0 ep).1 (by kernel_rfl) (by simp [Value.oneCell']) ⟨B, rfl, At4.setNew hth⟩ ?_
        intro i u hij hi hu hv
        match i, hi with
        | 0, _ => exact (show u = k.v from hv)
        | 1, _ => exact (show u = c.v from hv)
        | 2, _ => exact (show u = (c.get (ix k.x)).v from hv)
        | 3, _ => exact (show u = k.v from hv)
        | 4, _ => exact (show u = c.v from hv)
        | 5, _ => exact (show u = (c.get (ix k.y)).v from hv)
        | 6, _ => obtain ⟨B2, rfl, h⟩ := hv; exact ⟨B2, rfl, World.there_setCells h _ _ _⟩
        | 7, _ => obtain ⟨B2, rfl, h⟩ := hv; exact ⟨B2, rfl, World.there_setCells h _ _ _⟩
        | 8, _ => obtain ⟨B2, rfl, h⟩ := hv; exact ⟨B2, rfl, h.setFar4 (hG.apart.2 5 (by decide) 6 (by decide) (by decide) _ _ _ _ hu ep)⟩
        | 9, _ => exact absurd rfl hij
        | i + 10, hi => exact absurd hi (by simp)
      | n + 10, hj => exact absurd hj (by simp)
    · intro a' w' hG hF
      obtain ⟨_, e5, B5, rfl, h5⟩ := FV.get (d := 5) (hF 8 (by decide)) rfl
      have l5 := h5.lt
      obtain ⟨h50, h51, h52, h53⟩ := h5
      simp only [Nat.zero_add] at h51 h52 h53
      obtain ⟨_, e6, B6, rfl, h6⟩ := FV.get (d := 6) (hF 9 (by decide)) rfl
      have l6 := h6.lt
      obtain ⟨h60, h61, h62, h63⟩ := h6
      simp only [Nat.zero_add] at h61 h62 h63
      have s2 := hG.frame.rest 2 (by decide)
      have c2 := fun o => (hG.bel.cell (p := ⟨w.heap.size, o, none⟩) (show w.heap.size < _ by omega)).trans (b0 o)
      have s3 := hG.frame.rest 3 (by decide)
      have c3 := fun o => (hG.bel.cell (p := ⟨w.heap.size + 1, o, none⟩) (show w.heap.size + 1 < _ by omega)).trans (b1 o)
      have s7 := hG.frame.rest 7 (by decide)
      have hsz := hG.frame.size
      have hdf := hG.frame.defers
      have hgs := hG.bel.size
      have hbel : Below w.heap.size w w' := bel_trans belw hG.bel
      have z2 : w.heap.size < w'.heap.size := by omega
      have z3 : w.heap.size + 1 < w'.heap.size := by omega
      clear hF hG
      obtain ⟨tm, df⟩ := a'
      obtain ⟨x0, x1, x2, x3, x4, x5, x6, x7, x8, x9, x10, x11, x12, x13, x14, x15, x16, x17, x18, x19, x20, x21, x22, x23, x24, x25, x26, x27, x28, x29, x30, x31, x32, x33, x34, x35, x36, x37, x38, rfl⟩ := arrayN39 hsz
      simp [go_sem] at e5 e6 s2 s3 s7 hdf
      subst e5 e6 s2 s3 s7 hdf
      clear hsz
      have b0 := c2
      have b1 := c3
      have belw := hbel
      clear c2 c3 hbel
      go_wp2
      refine wp_region_all (by kernel_rfl) (GA [21, 22, 23, 24, 25, 26, 27, 28, 29, 30, 31, 32, 33, 7] [7] [] _ _ _) (FV (fun i => [21, 22, 23, 24, 25, 26, 27, 28, 29, 30, 31, 32, 33, 7, 7].getD i 0) (VF2 k c q r pa pb w.heap.size)) (all_ord (by kernel_rfl)) (GA.start (by simp)) ?_ ?_
      · intro j o ho a' w' hG hpre
        have hj : j < 15 := getElem?_lt ho
        have hb := hG.bel
        have s0 := hG.frame.rest 2 (by decide)
        have hc0 := fun o => (hb.cell (p := ⟨w.heap.size, o, none⟩) (show w.heap.size < _ by omega)).trans (b0 o)
        have s1 := hG.frame.rest 3 (by decide)
        have hc1 := fun o => (hb.cell (p := ⟨w.heap.size + 1, o, none⟩) (show w.heap.size + 1 < _ by omega)).trans (b1 o)
        simp [go_sem] at s0 s1
        have t5 := hG.frame.rest 5 (by decide)
        have t6 := hG.frame.rest 6 (by decide)
        simp [go_sem] at t5 t6
        have m0 := bel_cell hb h50
        have m1 := bel_cell hb h51
        have m2 := bel_cell hb h52
        have m3 := bel_cell hb h53
        have n0 := bel_cell hb h60
        have n1 := bel_cell hb h61
        have n2 := bel_cell hb h62
        have n3 := bel_cell hb h63
        match j, hj with
        | 0, _ =>
          cases ho
          refine all_val rfl rfl rfl hG (by decide) (by decide) (by simp) rfl (by kernel_rfl) (VF2_mono _ _ _ _ _ _ _) ?_
          refine step_val (v := c.v) (w' := w') ?_ ⟨rfl, bel_refl _⟩
          simp [execOp, Act.eval, s1, hc1, go_sem]
        | 1, _ =>
          cases ho
          refine all_val rfl rfl rfl hG (by decide) (by decide) (by simp) rfl (by kernel_rfl) (VF2_mono _ _ _ _ _ _ _) ?_
          refine step_val (v := .pointer (some ⟨w.heap.size, 0, none⟩)) (w' := w') ?_ ⟨rfl, bel_refl _⟩
          simp [execOp, Act.eval, s0, hc0, go_sem]
        | 2, _ =>
          cases ho
          refine all_val rfl rfl rfl hG (by decide) (by decide) (by simp) rfl (by kernel_rfl) (VF2_mono _ _ _ _ _ _ _) ?_
          obtain ⟨v0, e0, rfl⟩ := FV.get (d := 22) (hpre ⟨1, .data⟩ (by simp) rfl) rfl
          refine step_val (v := .int .i64 k.z) (w' := w') ?_ ⟨rfl, bel_refl _⟩
          simp [execOp, Act.eval, e0, hc0, go_sem]
        | 3, _ =>
          cases ho
          refine all_val rfl rfl rfl hG (by decide) (by decide) (by simp) rfl (by kernel_rfl) (VF2_mono _ _ _ _ _ _ _) ?_
          have sp5 := hG.frame.rest 5 (by decide)
          simp [go_sem] at sp5
          refine step_val (v := (c.get (ix k.x)).v) (w' := w') ?_ ⟨rfl, bel_refl _⟩
          simp [execOp, Act.eval, sp5, t5, m0, m1, m2, m3, go_sem]
        | 4, _ =>
          cases ho
          refine all_val rfl rfl rfl hG (by decide) (by decide) (by simp) rfl (by kernel_rfl) (VF2_mono _ _ _ _ _ _ _) ?_
          have sp6 := hG.frame.rest 6 (by decide)
          simp [go_sem] at sp6
          refine step_val (v := (c.get (ix k.y)).v) (w' := w') ?_ ⟨rfl, bel_refl _⟩
          simp [execOp, Act.eval, sp6, t6, n0, n1, n2, n3, go_sem]
        | 5, _ =>
          cases ho
          refine all_val rfl rfl rfl hG (by decide) (by decide) (by simp) rfl (by kernel_rfl) (VF2_mono _ _ _ _ _ _ _) ?_
          obtain ⟨v0, e0, rfl⟩ := FV.get (d := 24) (hpre ⟨3, .data⟩ (by simp) rfl) rfl
          obtain ⟨v1, e1, rfl⟩ := FV.get (d := 25) (hpre ⟨4, .data⟩ (by simp) rfl) rfl
          refine step_call (f := 33) (args := #[(c.get (ix k.x)).v, (c.get (ix k.y)).v]) (w' := w') ?_ (Q0.out w') ?_
          · simp [execOp, Act.eval, e0, e1, go_sem]
          · rintro e w'' ⟨rfl, hb2⟩
            exact ⟨_, rfl, rfl, hb2⟩
        | 6, _ =>
          cases ho
          refine all_val rfl rfl rfl hG (by decide) (by decide) (by simp) rfl (by kernel_rfl) (VF2_mono _ _ _ _ _ _ _) ?_
          obtain ⟨v0, e0, rfl⟩ := FV.get (d := 21) (hpre ⟨0, .data⟩ (by simp) rfl) rfl
          obtain ⟨v1, e1, rfl⟩ := FV.get (d := 23) (hpre ⟨2, .data⟩ (by simp) rfl) rfl
          obtain ⟨v2, e2, rfl⟩ := FV.get (d := 26) (hpre ⟨5, .data⟩ (by simp) rfl) rfl
          refine step_call (f := 17) (args := #[c.v, .int .i64 k.z, q.v]) (w' := w') ?_ (P1.out w') ?_
          · simp [execOp, Act.eval, e0, e1, e2, go_sem]
          · rintro e w'' ⟨rfl, hb2⟩
            exact ⟨_, rfl, rfl, hb2⟩
        | 7, _ =>
          cases ho
          refine all_val rfl rfl rfl hG (by decide) (by decide) (by simp) rfl (by kernel_rfl) (VF2_mono _ _ _ _ _ _ _) ?_
          refine step_val (v := .pointer (some ⟨w.heap.size, 3, none⟩)) (w' := w') ?_ ⟨rfl, bel_refl _⟩
          simp [execOp, Act.eval, s0, hc0, go_sem]
        | 8, _ =>
          cases ho
          refine all_val rfl rfl rfl hG (by decide) (by decide) (by simp) rfl (by kernel_rfl) (VF2_mono _ _ _ _ _ _ _) ?_
          obtain ⟨v0, e0, rfl⟩ := FV.get (d := 28) (hpre ⟨7, .data⟩ (by simp) rfl) rfl
          refine step_val (v := .int .i64 k.m) (w' := w') ?_ ⟨rfl, bel_refl _⟩
          simp [execOp, Act.eval, e0, hc0, go_sem]
        | 9, _ =>
          cases ho
          refine all_val rfl rfl rfl hG (by decide) (by decide) (by simp) rfl (by kernel_rfl) (VF2_mono _ _ _ _ _ _ _) ?_
          have sp5 := hG.frame.rest 5 (by decide)
          simp [go_sem] at sp5
          refine step_val (v := (c.get (ix k.x)).v) (w' := w') ?_ ⟨rfl, bel_refl _⟩
          simp [execOp, Act.eval, sp5, t5, m0, m1, m2, m3, go_sem]
        | 10, _ =>
          cases ho
          refine all_val rfl rfl rfl hG (by decide) (by decide) (by simp) rfl (by kernel_rfl) (VF2_mono _ _ _ _ _ _ _) ?_
          have sp6 := hG.frame.rest 6 (by decide)
          simp [go_sem] at sp6
          refine step_val (v := (c.get (ix k.y)).v) (w' := w') ?_ ⟨rfl, bel_refl _⟩
          simp [execOp, Act.eval, sp6, t6, n0, n1, n2, n3, go_sem]
        | 11, _ =>
          cases ho
          refine all_val rfl rfl rfl hG (by decide) (by decide) (by simp) rfl (by kernel_rfl) (VF2_mono _ _ _ _ _ _ _) ?_
          obtain ⟨v0, e0, rfl⟩ := FV.get (d := 30) (hpre ⟨9, .data⟩ (by simp) rfl) rfl
          obtain ⟨v1, e1, rfl⟩ := FV.get (d := 31) (hpre ⟨10, .data⟩ (by simp) rfl) rfl
          refine step_call (f := 35) (args := #[(c.get (ix k.x)).v, (c.get (ix k.y)).v]) (w' := w') ?_ (R0.out w') ?_
          · simp [execOp, Act.eval, e0, e1, go_sem]
          · rintro e w'' ⟨rfl, hb2⟩
            exact ⟨_, rfl, rfl, hb2⟩
        | 12, _ =>
          cases ho
          refine all_val rfl rfl rfl hG (by decide) (by decide) (by simp) rfl (by kernel_rfl) (VF2_mono _ _ _ _ _ _ _) ?_
          obtain ⟨v0, e0, rfl⟩ := FV.get (d := 27) (hpre ⟨6, .data⟩ (by simp) rfl) rfl
          obtain ⟨v1, e1, rfl⟩ := FV.get (d := 29) (hpre ⟨8, .data⟩ (by simp) rfl) rfl
          obtain ⟨v2, e2, rfl⟩ := FV.get (d := 32) (hpre ⟨11, .data⟩ (by simp) rfl) rfl
          refine step_call (f := 17) (args := #[pa.v, .int .i64 k.m, r.v]) (w' := w') ?_ (P2.out w') ?_
          · simp [execOp, Act.eval, e0, e1, e2, go_sem]
          · rintro e w'' ⟨rfl, hb2⟩
            exact ⟨_, rfl, rfl, hb2⟩
        | 13, _ =>
          cases ho
          refine all_alloc (.cells #[.int .u64 0, .int .u64 0, .int .u64 0, .int .u64 0, .int .u64 0, .int .u64 0, .int .u64 0, .int .u64 0, .int .u64 0, .int .u64 0, .int .u64 0, .int .u64 0, .int .u64 0, .int .u64 0, .int .u64 0, .int .u64 0] 28) rfl rfl rfl hG (by decide) (by simp) rfl (by kernel_rfl) (VF2_mono _ _ _ _ _ _ _) ?_ ⟨_, rfl, there_new _ _ _ _ (by simp)⟩
          simp [execOp, Act.eval, go_sem]
        | 14, _ =>
          cases ho
          obtain ⟨vp, ep, B, rfl, hth⟩ := FV.get (d := 7) (hpre ⟨13, .data⟩ (by simp) rfl) rfl
          obtain ⟨vx, ex, rfl⟩ := FV.get (d := 33) (hpre ⟨12, .data⟩ (by simp) rfl) rfl
          refine all_store 28 _ _ rfl B 0 [V pb.a.a, V pb.a.b, V pb.a.c, V pb.a.d, V pb.b.a, V pb.b.b, V pb.b.c, V pb.b.d, V pb.c.a, V pb.c.b, V pb.c.c, V pb.c.d, V pb.d.a, V pb.d.b, V pb.d.c, V pb.d.d] rfl rfl rfl hG rfl ep (by simp [Act.eval, ep]) (by simp [Act.eval, ex]) hth (hG.apart.1 7 (by decide) B 0 ep).1 (by kernel_rfl) (by simp [Value.oneCell']) ⟨B, rfl, AtC.setNew hth⟩ ?_
          intro i u hij hi hu hv
          match i, hi with
          | 0, _ => exact (show u = c.v from hv)
          | 1, _ => exact (show u = .pointer (some ⟨w.heap.size, 0, none⟩) from hv)
          | 2, _ => exact (show u = .int .i64 k.z from hv)
          | 3, _ => exact (show u = (c.get (ix k.x)).v from hv)
          | 4, _ => exact (show u = (c.get (ix k.y)).v from hv)
          | 5, _ => exact (show u = q.v from hv)
          | 6, _ => exact (show u = pa.v from hv)
          | 7, _ => exact (show u = .pointer (some ⟨w.heap.size, 3, none⟩) from hv)
          | 8, _ => exact (show u = .int .i64 k.m from hv)
          | 9, _ => exact (show u = (c.get (ix k.x)).v from hv)
          | 10, _ => exact (show u = (c.get (ix k.y)).v from hv)
          | 11, _ => exact (show u = r.v from hv)
          | 12, _ => exact (show u = pb.v from hv)
          | 13, _ => obtain ⟨B2, rfl, h⟩ := hv; exact ⟨B2, rfl, World.there_setCells h _ _ _⟩
          | 14, _ => exact absurd rfl hij
          | i + 15, hi => exact absurd hi (by simp)
        | n + 15, hj => exact absurd hj (by simp)
      · intro a' w' hG hF
        obtain ⟨_, e7, B7, rfl, h7⟩ := FV.get (d := 7) (hF 14 (by decide)) rfl
        obtain ⟨⟨j0, j1, j2, j3⟩, ⟨j4, j5, j6, j7⟩, ⟨j8, j9, j10, j11⟩, ⟨j12, j13, j14, j15⟩⟩ := h7
        have l7 := At4.lt ⟨j0, j1, j2, j3⟩
        simp only [Nat.zero_add, Nat.reduceAdd] at j0 j1 j2 j3 j4 j5 j6 j7 j8 j9 j10 j11 j12 j13 j14 j15
        have s2 := hG.frame.rest 2 (by decide)
        have c2 := fun o => (hG.bel.cell (p := ⟨w.heap.size, o, none⟩) (show w.heap.size < _ by omega)).trans (b0 o)
        have s3 := hG.frame.rest 3 (by decide)
        have c3 := fun o => (hG.bel.cell (p := ⟨w.heap.size + 1, o, none⟩) (show w.heap.size + 1 < _ by omega)).trans (b1 o)
        have hsz := hG.frame.size
        have hdf := hG.frame.defers
        have hgs := hG.bel.size
        have hbel : Below w.heap.size w w' := bel_trans belw hG.bel
        have z2 : w.heap.size < w'.heap.size := by omega
        have z3 : w.heap.size + 1 < w'.heap.size := by omega
        clear hF hG
        obtain ⟨tm, df⟩ := a'
        obtain ⟨x0, x1, x2, x3, x4, x5, x6, x7, x8, x9, x10, x11, x12, x13, x14, x15, x16, x17, x18, x19, x20, x21, x22, x23, x24, x25, x26, x27, x28, x29, x30, x31, x32, x33, x34, x35, x36, x37, x38, rfl⟩ := arrayN39 hsz
        simp [go_sem] at e7 s2 s3 hdf
        subst e7 s2 s3 hdf
        clear hsz
        go_wp2
        go_region_held3 (Keeps w'.heap.size w') (first | assumption | exact Keeps.start _ _ | exact Keeps.step (by assumption) (Nat.le_refl _) hb)
          (first | (go_at_call 37; (with_reducible refine (DN.out _).mono ?_); rintro e w1 ⟨rfl, hb⟩) | (go_at_call 15; (with_reducible refine (TD.out _).mono ?_); rintro e w1 ⟨rfl, hb⟩))
        go_wp2
        go_ret
        exact retBel rfl ((‹Keeps _ _ _›).bel hbel.size hbel)

set_option maxRecDepth 100000 in
theorem lifted (os : Os) (started : os.Started) (H : Type) (enc : TypeId × Value → H) :
    ReturnsInHanded {} Try.checked os 10 .any (Rows.fnDivModIsSpec.pre6 enc Try.prog Try.f10 Rows.fnDivModIsRow.domain false) (Rows.fnDivModIsSpec.post enc Try.prog Try.f10 false true false false) := by
  refine returnsInHanded_of_change (C := Try.checked) Try.own started (by kernel_rfl) Try.func10
    (ChangeSpec.witness6 (enc := enc) (C := Try.checked) false ⟨#[], #[.agg #[.int .i64 0, .int .i64 0, .int .i64 0, .int .i64 0], .agg #[.int .u64 0, .int .u64 0, .int .u64 0, .int .u64 0, .int .u64 0, .int .u64 0, .int .u64 0, .int .u64 0, .int .u64 0, .int .u64 0, .int .u64 0, .int .u64 0, .int .u64 0, .int .u64 0, .int .u64 0, .int .u64 0]], []⟩ 8 (by kernel_rfl) (by kernel_rfl) (by kernel_rfl) (by kernel_rfl)) ?_
  intro W base args ds gs before hval0 hW hcnd _
  have hval : ∀ (j : Nat) t v, Try.f10.params[j]? = some t → args[j]? = some v → Value.okWide Try.prog W .any base t v := hval0
  have hW' := hW
  obtain ⟨p, q, hA0, hV, rfl, hfz, hnd⟩ := hW
  have hA : DataW.TrodAll enc Try.prog W 0 (fun _ => true) true Try.f10.params.toList args.toList ds p := hA0
  rw [Try.params10] at hA hval
  obtain ⟨v0, vs0, d0, ds0, p0, q0, hargs, rfl, rfl, h0, r0⟩ := trodAll_cons hA
  obtain ⟨v1, vs1, d1, ds1, p1, q1, rfl, rfl, rfl, h1, r1⟩ := trodAll_cons r0
  obtain ⟨rfl, rfl, rfl⟩ := trodAll_nil r1
  obtain rfl : args = #[v0, v1] := by cases args; simp_all
  obtain ⟨rfl, rfl⟩ := trodVars_none hV
  have k0 := h0
  have lt0 : ∀ x ∈ p0, x.block < W.heap.size := by obtain ⟨m, hm⟩ := k0; exact DataW.trod_lt m _ _ _ hm
  obtain ⟨x0, rfl, g0⟩ := open_ways (hval 0 23 v0 rfl rfl)
  have k1 := h1
  have lt1 : ∀ x ∈ p1, x.block < W.heap.size := by obtain ⟨m, hm⟩ := k1; exact DataW.trod_lt m _ _ _ hm
  obtain ⟨x1, rfl⟩ := open_cells (hval 1 28 v1 rfl rfl)
  clear hA0 hval0
  refine (walk x0 g0 x1 W).mono fun e W' ⟨he, bel⟩ => ?_
  subst he
  exact ⟨_, rfl, _, _, _, [], _, [], hW', trodAll_mk1 (shut_bool Try.underlying4 _), (trodAll_cons_mk (Below.trod Try.laidOut (by kernel_rfl) (of_decide_eq_true (by kernel_rfl)) k0 bel lt0) (trodAll_cons_mk (Below.trod Try.laidOut (by kernel_rfl) (of_decide_eq_true (by kernel_rfl)) k1 bel lt1) trodAll_mk0)), rfl, bel.frame _, fun h => by cases h⟩

theorem holds : Rows.FnDivModIsSaid :=
  OpenClaim.holds_of_wide 10 Try.f10 rfl rfl rfl rfl rfl rfl rfl ⟨rfl, rfl, rfl, rfl, rfl⟩ rfl rfl rfl rfl rfl (by kernel_rfl) Try.func10 (by kernel_rfl)
    (of_decide_eq_true (by kernel_rfl)) (by unfold Func.isWrapper; first | (rw [if_pos (by decide +kernel)]; kernel_rfl) | (rw [if_neg (by decide +kernel)]; exact ⟨rfl, rfl⟩))
    (fun os started H enc _ => lifted os started H enc)
#print axioms holds
end Go.Proofs.Ytakneagklldciaa.fnDivModIs
