/-
  For every ways and cells: impl.MulOverflow gives the cells in which z is x * y modulo 2^256, and tells whether the product is 2^256 or more; no other cell is changed (the statement FnMulOverflowIsSaid, no conditions).
-/
import Derived.Test.YtakneagklldciaaOpen
import Derived.Test.YtakneagklldciaaSpec1
import Derived.Test.YtakneagklldciaaSpec3
import Derived.Test.YtakneagklldciaaDesk9
import Derived.Test.YtakneagklldciaaDig6
import Derived.Test.YtakneagklldciaaSpec4
import Derived.Test.YtakneagklldciaaRegion2
namespace Go.Proofs.Ytakneagklldciaa.fnMulOverflowIs
set_option maxRecDepth 20000
open Go.ChangeShapes Go.WideShapes Go.ChangeAt Go.RowKit
set_option linter.unusedVariables false
set_option linter.unusedSimpArgs false

theorem arrayN31 {l : Array Value} (h : l.size = 31) : ∃ x0 x1 x2 x3 x4 x5 x6 x7 x8 x9 x10 x11 x12 x13 x14 x15 x16 x17 x18 x19 x20 x21 x22 x23 x24 x25 x26 x27 x28 x29 x30, l = #[x0, x1, x2, x3, x4, x5, x6, x7, x8, x9, x10, x11, x12, x13, x14, x15, x16, x17, x18, x19, x20, x21, x22, x23, x24, x25, x26, x27, x28, x29, x30] := by
  obtain ⟨l⟩ := l
  have h0 : l.length = 30 + 1 := h
  clear h
  obtain ⟨x0, l1, rfl, h1⟩ := cons_of h0
  obtain ⟨x1, l2, rfl, h2⟩ := cons_of h1
  obtain ⟨x2, l3, rfl, h3⟩ := cons_of h2
  obtain ⟨x3, l4, rfl, h4⟩ := cons_of h3
  obtain ⟨x4, l5, rfl, h5⟩ := cons_of h4
  obtain ⟨x5, l6, rfl, h6⟩ := cons_of h5
  obtain ⟨x6, l7, rfl, h7⟩ := cons_of h6
  obtain ⟨x7, l8, rfl, h8⟩ := cons_of h7
  obtain ⟨x8, l9, rfl, h9⟩ := cons_of h8
  obtain ⟨x9, l10, rfl, h10⟩ := cons_of h9
  obtain ⟨x10, l11, rfl, h11⟩ := cons_of h10
  obtain ⟨x11, l12, rfl, h12⟩ := cons_of h11
  obtain ⟨x12, l13, rfl, h13⟩ := cons_of h12
  obtain ⟨x13, l14, rfl, h14⟩ := cons_of h13
  obtain ⟨x14, l15, rfl, h15⟩ := cons_of h14
  obtain ⟨x15, l16, rfl, h16⟩ := cons_of h15
  obtain ⟨x16, l17, rfl, h17⟩ := cons_of h16
  obtain ⟨x17, l18, rfl, h18⟩ := cons_of h17
  obtain ⟨x18, l19, rfl, h19⟩ := cons_of h18
  obtain ⟨x19, l20, rfl, h20⟩ := cons_of h19
  obtain ⟨x20, l21, rfl, h21⟩ := cons_of h20
  obtain ⟨x21, l22, rfl, h22⟩ := cons_of h21
  obtain ⟨x22, l23, rfl, h23⟩ := cons_of h22
  obtain ⟨x23, l24, rfl, h24⟩ := cons_of h23
  obtain ⟨x24, l25, rfl, h25⟩ := cons_of h24
  obtain ⟨x25, l26, rfl, h26⟩ := cons_of h25
  obtain ⟨x26, l27, rfl, h27⟩ := cons_of h26
  obtain ⟨x27, l28, rfl, h28⟩ := cons_of h27
  obtain ⟨x28, l29, rfl, h29⟩ := cons_of h28
  obtain ⟨x29, l30, rfl, h30⟩ := cons_of h29
  obtain ⟨x30, l31, rfl, h31⟩ := cons_of h30
  cases l31 with
  | nil => exact ⟨x0, x1, x2, x3, x4, x5, x6, x7, x8, x9, x10, x11, x12, x13, x14, x15, x16, x17, x18, x19, x20, x21, x22, x23, x24, x25, x26, x27, x28, x29, x30, rfl⟩
  | cons a t => simp at h31
def VF (k : W4) (c : C4) : Nat → Value → World → Prop
  | 0, v, w => v = k.v
  | 1, v, w => v = c.v
  | 2, v, w => v = (c.get (ix k.x)).v
  | 3, v, w => v = k.v
  | 4, v, w => v = c.v
  | 5, v, w => v = (c.get (ix k.y)).v
  | 6, v, w => ∃ B, v = .pointer (some ⟨B, 0, none⟩) ∧ w.there B 0 4
  | 7, v, w => ∃ B, v = .pointer (some ⟨B, 0, none⟩) ∧ w.there B 0 4
  | 8, v, w => ∃ B, v = .pointer (some ⟨B, 0, none⟩) ∧ At4 w B 0 ((c.get (ix k.x)))
  | 9, v, w => ∃ B, v = .pointer (some ⟨B, 0, none⟩) ∧ At4 w B 0 ((c.get (ix k.y)))
  | _, _, _ => False
theorem VF_mono (k : W4) (c : C4) : ∀ j v w w', Below w.heap.size w w' → VF k c j v w → VF k c j v w' := by
  intro j v w w' hb h
  match j, h with
  | 0, h => exact h
  | 1, h => exact h
  | 2, h => exact h
  | 3, h => exact h
  | 4, h => exact h
  | 5, h => exact h
  | 6, h => obtain ⟨B, rfl, h1⟩ := h; exact ⟨B, rfl, there_bel h1 (by omega) hb⟩
  | 7, h => obtain ⟨B, rfl, h1⟩ := h; exact ⟨B, rfl, there_bel h1 (by omega) hb⟩
  | 8, h => obtain ⟨B, rfl, h1⟩ := h; exact ⟨B, rfl, At4.bel h1 hb⟩
  | 9, h => obtain ⟨B, rfl, h1⟩ := h; exact ⟨B, rfl, At4.bel h1 hb⟩
set_option maxHeartbeats 2000000 in
theorem walk (k : W4) (hk : k.ok) (c : C4) (w : World) : Calls Try.prog 4 #[k.v, c.v] w (RetBel (.bool true) w) := by
  have S0 : ∀ w, Calls Try.prog 22 #[(c.get (ix k.x)).v, (c.get (ix k.y)).v] w (RetBel (N4.v ((c.get (ix k.x)).mul (c.get (ix k.y)))) w) := fun w => by rw [eq_ofN (mul_toNat _ _)]; exact specMul_any _ _ w
  have S := Lib.hid S0
  clear S0
  have he : (c.put (ix k.z) ((c.get (ix k.x)).mul (c.get (ix k.y)))).eqb (c.put (ix k.z) ((c.get (ix k.x)).mul (c.get (ix k.y)))) = true := C4.eqb_self _
  have SF0 : ∀ v L (w : World), Dg w v ((c.get (ix k.x)).toNat * (c.get (ix k.y)).toNat) L → L ≤ 100 → Calls Try.prog 23 #[v] w fun e w' => e = .returned (.bool (!(c.get (ix k.x)).mulc (c.get (ix k.y)))) ∧ w = w' := fun v L w h hL => by
    have e : decide ((c.get (ix k.x)).toNat * (c.get (ix k.y)).toNat < 2 ^ 256) = !(c.get (ix k.x)).mulc (c.get (ix k.y)) := by unfold N4.mulc; rw [← decide_not]; congr 1; rw [Nat.not_le]
    rw [← e]; exact fits_dg v _ L w h (by omega)
  have SF := Lib.hid SF0
  clear SF0
  go_enter Try.func4, Try.ntmps4
  go_wp2
  refine wp_region_all (by kernel_rfl) (GA [7, 8, 9, 10, 11, 12, 5, 6] [5, 6] [] _ _ _) (FV (fun i => [7, 8, 9, 10, 11, 12, 5, 6, 5, 6].getD i 0) (VF k c)) (all_ord (by kernel_rfl)) (GA.start (by simp)) ?_ ?_
  · intro j o ho a' w' hG hpre
    have hj : j < 10 := getElem?_lt ho
    have hb := hG.bel
    have s0 := hG.frame.rest 2 (by decide)
    have hc0 := fun o => hb.cell (p := ⟨w.heap.size, o, none⟩) (by simp <;> omega)
    have s1 := hG.frame.rest 3 (by decide)
    have hc1 := fun o => hb.cell (p := ⟨w.heap.size + 1, o, none⟩) (by simp <;> omega)
    simp [go_sem] at s0 hc0 s1 hc1
    match j, hj with
    | 0, _ =>
      cases ho
      refine all_val rfl rfl rfl hG (by decide) (by decide) (by simp) rfl (by kernel_rfl) (VF_mono _ _) ?_
      refine step_val (v := k.v) (w' := w') ?_ ⟨rfl, bel_refl _⟩
      simp [execOp, Act.eval, s0, hc0, go_sem]
    | 1, _ =>
      cases ho
      refine all_val rfl rfl rfl hG (by decide) (by decide) (by simp) rfl (by kernel_rfl) (VF_mono _ _) ?_
      refine step_val (v := c.v) (w' := w') ?_ ⟨rfl, bel_refl _⟩
      simp [execOp, Act.eval, s1, hc1, go_sem]
    | 2, _ =>
      cases ho
      refine all_val rfl rfl rfl hG (by decide) (by decide) (by simp) rfl (by kernel_rfl) (VF_mono _ _) ?_
      obtain ⟨v0, e0, rfl⟩ := FV.get (d := 7) (hpre ⟨0, .data⟩ (by simp) rfl) rfl
      obtain ⟨v1, e1, rfl⟩ := FV.get (d := 8) (hpre ⟨1, .data⟩ (by simp) rfl) rfl
      refine step_call (f := 19) (args := #[k.v, c.v]) (w' := w') ?_ (specX_any k c w' hk) ?_
      · simp [execOp, Act.eval, e0, e1, go_sem]
      · rintro e w'' ⟨rfl, hb2⟩
        exact ⟨_, rfl, rfl, hb2⟩
    | 3, _ =>
      cases ho
      refine all_val rfl rfl rfl hG (by decide) (by decide) (by simp) rfl (by kernel_rfl) (VF_mono _ _) ?_
      refine step_val (v := k.v) (w' := w') ?_ ⟨rfl, bel_refl _⟩
      simp [execOp, Act.eval, s0, hc0, go_sem]
    | 4, _ =>
      cases ho
      refine all_val rfl rfl rfl hG (by decide) (by decide) (by simp) rfl (by kernel_rfl) (VF_mono _ _) ?_
      refine step_val (v := c.v) (w' := w') ?_ ⟨rfl, bel_refl _⟩
      simp [execOp, Act.eval, s1, hc1, go_sem]
    | 5, _ =>
      cases ho
      refine all_val rfl rfl rfl hG (by decide) (by decide) (by simp) rfl (by kernel_rfl) (VF_mono _ _) ?_
      obtain ⟨v0, e0, rfl⟩ := FV.get (d := 10) (hpre ⟨3, .data⟩ (by simp) rfl) rfl
      obtain ⟨v1, e1, rfl⟩ := FV.get (d := 11) (hpre ⟨4, .data⟩ (by simp) rfl) rfl
      refine step_call (f := 20) (args := #[k.v, c.v]) (w' := w') ?_ (specY_any k c w' hk) ?_
      · simp [execOp, Act.eval, e0, e1, go_sem]
      · rintro e w'' ⟨rfl, hb2⟩
        exact ⟨_, rfl, rfl, hb2⟩
    | 6, _ =>
      cases ho
      refine all_alloc (.cells #[.int .u64 0, .int .u64 0, .int .u64 0, .int .u64 0] 26) rfl rfl rfl hG (by decide) (by simp) rfl (by kernel_rfl) (VF_mono _ _) ?_ ⟨_, rfl, there_new _ _ _ _ (by simp)⟩
      simp [execOp, Act.eval, go_sem]
    | 7, _ =>
      cases ho
      refine all_alloc (.cells #[.int .u64 0, .int .u64 0, .int .u64 0, .int .u64 0] 26) rfl rfl rfl hG (by decide) (by simp) rfl (by kernel_rfl) (VF_mono _ _) ?_ ⟨_, rfl, there_new _ _ _ _ (by simp)⟩
      simp [execOp, Act.eval, go_sem]
    | 8, _ =>
      cases ho
      obtain ⟨vp, ep, B, rfl, hth⟩ := FV.get (d := 5) (hpre ⟨6, .data⟩ (by simp) rfl) rfl
      obtain ⟨vx, ex, rfl⟩ := FV.get (d := 9) (hpre ⟨2, .data⟩ (by simp) rfl) rfl
      refine all_store 26 _ _ rfl B 0 [V ((c.get (ix k.x))).a, V ((c.get (ix k.x))).b, V ((c.get (ix k.x))).c, V ((c.get (ix k.x))).d] rfl rfl rfl hG rfl ep (by simp [Act.eval, ep]) (by simp [Act.eval, ex]) hth (hG.apart.1 5 (by decide) B 0 ep).1 (by kernel_rfl) (by simp [Value.oneCell']) ⟨B, rfl, At4.setNew hth⟩ ?_
      intro i u hij hi hu hv
      match i, hi with
      | 0, _ => exact (show u = k.v from hv)
      | 1, _ => exact (show u = c.v from hv)
      | 2, _ => exact (show u = (c.get (ix k.x)).v from hv)
      | 3, _ => exact (show u = k.v from hv)
      | 4, _ => exact (show u = c.v from hv)
      | 5, _ => exact (show u = (c.get (ix k.y)).v from hv)
      | 6, _ => obtain ⟨B2, rfl, h⟩ := hv; exact ⟨B2, rfl, World.there_setCells h _ _ _⟩
      | 7, _ => obtain ⟨B2, rfl, h⟩ := hv; exact ⟨B2, rfl, World.there_setCells h _ _ _⟩
      | 8, _ => exact absurd rfl hij
      | 9, _ => obtain ⟨B2, rfl, h⟩ := hv; exact ⟨B2, rfl, h.setFar4 (hG.apart.2 6 (by decide) 5 (by decide) (by decide) _ _ _ _ hu ep)⟩
      | i + 10, hi => exact absurd hi (by simp)
    | 9, _ =>
      cases ho
      obtain ⟨vp, ep, B, rfl, hth⟩ := FV.get (d := 6) (hpre ⟨7, .data⟩ (by simp) rfl) rfl
      obtain ⟨vx, ex, rfl⟩ := FV.get (d := 12) (hpre ⟨5, .data⟩ (by simp) rfl) rfl
      refine all_store 26 _ _ rfl B 0 [V ((c.get (ix k.y))).a, V ((c.get (ix k.y))).b, V ((c.get (ix k.y))).c, V ((c.get (ix k.y))).d] rfl rfl rfl hG rfl ep (by simp [Act.eval, ep]) (by simp [Act.eval, ex]) hth (hG.apart.1 6 (by decide) B 0 ep).1 (by kernel_rfl) (by simp [Value.oneCell']) ⟨B, rfl, At4.setNew hth⟩ ?_
      intro i u hij hi hu hv
      match i, hi with
      | 0, _ => exact (show u = k.v from hv)
      | 1, _ => exact (show u = c.v from hv)
      | 2, _ => exact (show u = (c.get (ix k.x)).v from hv)
      | 3, _ => exact (show u = k.v from hv)
      | 4, _ => exact (show u = c.v from hv)
      | 5, _ => exact (show u = (c.get (ix k.y)).v from hv)
      | 6, _ => obtain ⟨B2, rfl, h⟩ := hv; exact ⟨B2, rfl, World.there_setCells h _ _ _⟩
      | 7, _ => obtain ⟨B2, rfl, h⟩ := hv; exact ⟨B2, rfl, World.there_setCells h _ _ _⟩
      | 8, _ => obtain ⟨B2, rfl, h⟩ := hv; exact ⟨B2, rfl, h.setFar4 (hG.apart.2 5 (by decide) 6 (by decide) (by decide) _ _ _ _ hu ep)⟩
      | 9, _ => exact absurd rfl hij
      | i + 10, hi => exact absurd hi (by simp)
    | n + 10, hj => exact absurd hj (by simp)
  · intro a' w' hG hF
    obtain ⟨_, e5, B5, rfl, h5⟩ := FV.get (d := 5) (hF 8 (by decide)) rfl
    have l5 := h5.lt
    obtain ⟨h50, h51, h52, h53⟩ := h5
    simp only [Nat.zero_add] at h51 h52 h53
    obtain ⟨_, e6, B6, rfl, h6⟩ := FV.get (d := 6) (hF 9 (by decide)) rfl
    have l6 := h6.lt
    obtain ⟨h60, h61, h62, h63⟩ := h6
    simp only [Nat.zero_add] at h61 h62 h63
    have s2 := hG.frame.rest 2 (by decide)
    have c2 := fun o => hG.bel.cell (p := ⟨w.heap.size, o, none⟩) (by simp <;> omega)
    have s3 := hG.frame.rest 3 (by decide)
    have c3 := fun o => hG.bel.cell (p := ⟨w.heap.size + 1, o, none⟩) (by simp <;> omega)
    have hsz := hG.frame.size
    have hdf := hG.frame.defers
    have hgs := hG.bel.size
    have hbel : Below w.heap.size w w' := bel_trans (bel_alloc (bel_alloc (bel_refl w) _) _) hG.bel
    simp [go_sem] at c2 c3 hgs
    have z2 : w.heap.size < w'.heap.size := by omega
    have z3 : w.heap.size + 1 < w'.heap.size := by omega
    clear hF hG
    obtain ⟨tm, df⟩ := a'
    obtain ⟨x0, x1, x2, x3, x4, x5, x6, x7, x8, x9, x10, x11, x12, x13, x14, x15, x16, x17, x18, x19, x20, x21, x22, x23, x24, x25, x26, x27, x28, x29, x30, rfl⟩ := arrayN31 hsz
    simp [go_sem] at e5 e6 s2 s3 hdf
    subst e5 e6 s2 s3 hdf
    clear hsz
    go_wp2
    go_region_held3 (Keeps w'.heap.size w') (first | assumption | exact Keeps.start _ _ | exact Keeps.step (by assumption) (Nat.le_refl _) hb | exact Keeps.step (by assumption) (Nat.le_refl _) hba | exact Keeps.step (by assumption) (Nat.le_refl _) hbb)
      (first | (go_at_call 21; refine (implMulOverflow_any k c _ hk).mono ?_; rintro e w1 ⟨rfl, hb⟩) | (go_at_call 22; refine (S.out _).mono ?_; rintro e w1 ⟨rfl, hb⟩) | (go_at_call 17; refine (specPut_any c k.z ((c.get (ix k.x)).mul (c.get (ix k.y))) _ hk.1).mono ?_; rintro e w1 ⟨rfl, hb⟩) | (go_at_call 25; (with_reducible refine (whole_dg (c.get (ix k.x)) _).mono ?_); rintro e w1 ⟨va, rfl, Da, hba⟩) | (go_at_call 25; (with_reducible refine (whole_dg (c.get (ix k.y)) _).mono ?_); rintro e w1 ⟨vb, rfl, Db, hbb⟩) | (go_at_call 24; (with_reducible refine (times_dg _ _ _ _ _ _ _ (Da.bel hbb) Db (by omega) (by omega)).mono ?_); rintro e w1 ⟨vc, rfl, Dc, hb⟩) | (go_at_call 23; (with_reducible refine (SF.out _ _ _ Dc (by omega)).mono ?_); rintro e w1 ⟨rfl, rfl⟩) | (go_at_call 15; refine (told_any (c.put (ix k.z) ((c.get (ix k.x)).mul (c.get (ix k.y)))) (c.put (ix k.z) ((c.get (ix k.x)).mul (c.get (ix k.y)))) _ _ _).mono ?_; rintro e w1 ⟨rfl, hb⟩))
    go_wp2
    go_ret
    exact retBel rfl ((‹Keeps _ _ _›).bel hbel.size hbel)

set_option maxRecDepth 100000 in
theorem lifted (os : Os) (started : os.Started) (H : Type) (enc : TypeId × Value → H) :
    ReturnsInHanded {} Try.checked os 4 .any (Rows.fnMulOverflowIsSpec.pre6 enc Try.prog Try.f4 Rows.fnMulOverflowIsRow.domain false) (Rows.fnMulOverflowIsSpec.post enc Try.prog Try.f4 false true false false) := by
  refine returnsInHanded_of_change (C := Try.checked) Try.own started (by kernel_rfl) Try.func4
    (ChangeSpec.witness6 (enc := enc) (C := Try.checked) false ⟨#[], #[.agg #[.int .i64 0, .int .i64 0, .int .i64 0, .int .i64 0], .agg #[.int .u64 0, .int .u64 0, .int .u64 0, .int .u64 0, .int .u64 0, .int .u64 0, .int .u64 0, .int .u64 0, .int .u64 0, .int .u64 0, .int .u64 0, .int .u64 0, .int .u64 0, .int .u64 0, .int .u64 0, .int .u64 0]], []⟩ 8 (by kernel_rfl) (by kernel_rfl) (by kernel_rfl) (by kernel_rfl)) ?_
  intro W base args ds gs before hval0 hW hcnd _
  have hval : ∀ (j : Nat) t v, Try.f4.params[j]? = some t → args[j]? = some v → Value.okWide Try.prog W .any base t v := hval0
  have hW' := hW
  obtain ⟨p, q, hA0, hV, rfl, hfz, hnd⟩ := hW
  have hA : DataW.TrodAll enc Try.prog W 0 (fun _ => true) true Try.f4.params.toList args.toList ds p := hA0
  rw [Try.params4] at hA hval
  obtain ⟨v0, vs0, d0, ds0, p0, q0, hargs, rfl, rfl, h0, r0⟩ := trodAll_cons hA
  obtain ⟨v1, vs1, d1, ds1, p1, q1, rfl, rfl, rfl, h1, r1⟩ := trodAll_cons r0
  obtain ⟨rfl, rfl, rfl⟩ := trodAll_nil r1
  obtain rfl : args = #[v0, v1] := by cases args; simp_all
  obtain ⟨rfl, rfl⟩ := trodVars_none hV
  have k0 := h0
  have lt0 : ∀ x ∈ p0, x.block < W.heap.size := by obtain ⟨m, hm⟩ := k0; exact DataW.trod_lt m _ _ _ hm
  obtain ⟨x0, rfl, g0⟩ := open_ways (hval 0 23 v0 rfl rfl)
  have k1 := h1
  have lt1 : ∀ x ∈ p1, x.block < W.heap.size := by obtain ⟨m, hm⟩ := k1; exact DataW.trod_lt m _ _ _ hm
  obtain ⟨x1, rfl⟩ := open_cells (hval 1 28 v1 rfl rfl)
  clear hA0 hval0
  refine (walk x0 g0 x1 W).mono fun e W' ⟨he, bel⟩ => ?_
  subst he
  exact ⟨_, rfl, _, _, _, [], _, [], hW', trodAll_mk1 (shut_bool Try.underlying4 _), (trodAll_cons_mk (Below.trod Try.laidOut (by kernel_rfl) (of_decide_eq_true (by kernel_rfl)) k0 bel lt0) (trodAll_cons_mk (Below.trod Try.laidOut (by kernel_rfl) (of_decide_eq_true (by kernel_rfl)) k1 bel lt1) trodAll_mk0)), rfl, bel.frame _, fun h => by cases h⟩

theorem holds : Rows.FnMulOverflowIsSaid :=
  OpenClaim.holds_of_wide 4 Try.f4 rfl rfl rfl rfl rfl rfl rfl ⟨rfl, rfl, rfl, rfl, rfl⟩ rfl rfl rfl rfl rfl (by kernel_rfl) Try.func4 (by kernel_rfl)
    (of_decide_eq_true (by kernel_rfl)) (by unfold Func.isWrapper; first | (rw [if_pos (by decide +kernel)]; kernel_rfl) | (rw [if_neg (by decide +kernel)]; exact ⟨rfl, rfl⟩))
    (fun os started H enc _ => lifted os started H enc)
#print axioms holds
end Go.Proofs.Ytakneagklldciaa.fnMulOverflowIs
