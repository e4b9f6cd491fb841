/-
  The reference's SignedQuotient and SignedRest.
-/
import Derived.Test.YtakneagklldciaaSpec7
import Derived.Test.YtakneagklldciaaRegion2
namespace Go.Proofs.Ytakneagklldciaa
set_option maxRecDepth 20000
open Go.RowKit
set_option linter.unusedVariables false
set_option linter.unusedSimpArgs false
set_option maxRecDepth 20000
/-- A number negated, by worth. -/
def ngN (x : N4) : N4 := ofN (2 ^ 256 - x.toNat)
def sqN (x y : N4) : N4 := if (x.neg == y.neg) = true then ofN ((absN x).toNat / (absN y).toNat) else ngN (ofN ((absN x).toNat / (absN y).toNat))
def srN (x y : N4) : N4 := if x.neg = true then ngN (remN (absN x) (absN y)) else remN (absN x) (absN y)
theorem arrayN19s {l : Array Value} (h : l.size = 19) : ∃ x0 x1 x2 x3 x4 x5 x6 x7 x8 x9 x10 x11 x12 x13 x14 x15 x16 x17 x18, l = #[x0, x1, x2, x3, x4, x5, x6, x7, x8, x9, x10, x11, x12, x13, x14, x15, x16, x17, x18] := by
  obtain ⟨l⟩ := l
  have h0 : l.length = 18 + 1 := h
  clear h
  obtain ⟨x0, l1, rfl, h1⟩ := cons_of h0
  obtain ⟨x1, l2, rfl, h2⟩ := cons_of h1
  obtain ⟨x2, l3, rfl, h3⟩ := cons_of h2
  obtain ⟨x3, l4, rfl, h4⟩ := cons_of h3
  obtain ⟨x4, l5, rfl, h5⟩ := cons_of h4
  obtain ⟨x5, l6, rfl, h6⟩ := cons_of h5
  obtain ⟨x6, l7, rfl, h7⟩ := cons_of h6
  obtain ⟨x7, l8, rfl, h8⟩ := cons_of h7
  obtain ⟨x8, l9, rfl, h9⟩ := cons_of h8
  obtain ⟨x9, l10, rfl, h10⟩ := cons_of h9
  obtain ⟨x10, l11, rfl, h11⟩ := cons_of h10
  obtain ⟨x11, l12, rfl, h12⟩ := cons_of h11
  obtain ⟨x12, l13, rfl, h13⟩ := cons_of h12
  obtain ⟨x13, l14, rfl, h14⟩ := cons_of h13
  obtain ⟨x14, l15, rfl, h15⟩ := cons_of h14
  obtain ⟨x15, l16, rfl, h16⟩ := cons_of h15
  obtain ⟨x16, l17, rfl, h17⟩ := cons_of h16
  obtain ⟨x17, l18, rfl, h18⟩ := cons_of h17
  obtain ⟨x18, l19, rfl, h19⟩ := cons_of h18
  cases l19 with
  | nil => exact ⟨x0, x1, x2, x3, x4, x5, x6, x7, x8, x9, x10, x11, x12, x13, x14, x15, x16, x17, x18, rfl⟩
  | cons a t => simp at h19
def VFSignedQuotient (x : N4) (y : N4) : Nat → Value → World → Prop
  | 0, v, w => v = x.v
  | 1, v, w => v = N4.v (absN x)
  | 2, v, w => v = y.v
  | 3, v, w => v = N4.v (absN y)
  | 4, v, w => v = N4.v (ofN ((absN x).toNat / (absN y).toNat))
  | 5, v, w => ∃ B, v = .pointer (some ⟨B, 0, none⟩) ∧ w.there B 0 4
  | 6, v, w => ∃ B, v = .pointer (some ⟨B, 0, none⟩) ∧ At4 w B 0 ((ofN ((absN x).toNat / (absN y).toNat)))
  | _, _, _ => False
theorem VFSignedQuotient_mono (x : N4) (y : N4) : ∀ j v w w', Below w.heap.size w w' → VFSignedQuotient x y j v w → VFSignedQuotient x y j v w' := by
  intro j v w w' hb h
  match j, h with
  | 0, h => exact h
  | 1, h => exact h
  | 2, h => exact h
  | 3, h => exact h
  | 4, h => exact h
  | 5, h => obtain ⟨B, rfl, h1⟩ := h; exact ⟨B, rfl, there_bel h1 (by omega) hb⟩
  | 6, h => obtain ⟨B, rfl, h1⟩ := h; exact ⟨B, rfl, At4.bel h1 hb⟩
set_option maxHeartbeats 4000000 in
theorem specSignedQuotient_any (x y : N4) (w : World) : Calls Try.prog 39 #[x.v, y.v] w (RetBel (N4.v (sqN x y)) w) := by
  have ABS := Lib.hid (fun (x : N4) (w : World) => specAbs_any x w)
  have QUO : Hid (∀ w, Calls Try.prog 33 #[(absN x).v, (absN y).v] w (RetBel (N4.v (ofN ((absN x).toNat / (absN y).toNat))) w)) := fun w => specQuotient_any _ _ w
  have NEG : Hid (∀ w, Calls Try.prog 69 #[N4.v (ofN ((absN x).toNat / (absN y).toNat))] w (RetBel (N4.v (ngN (ofN ((absN x).toNat / (absN y).toNat)))) w)) := fun w => specNeg_any _ w
  have key : ∀ r, sqN x y = r → Hid (sqN x y = r) := fun _ h => h
  go_enter Try.func39, Try.ntmps39
  go_wp2
  refine wp_region_all (by kernel_rfl) (GA [6, 7, 8, 9, 10, 5] [5] [] _ _ _) (FV (fun i => [6, 7, 8, 9, 10, 5, 5].getD i 0) (VFSignedQuotient x y)) (all_ord (by kernel_rfl)) (GA.start (by simp)) ?_ ?_
  · intro j o ho a' w' hG hpre
    have hj : j < 7 := getElem?_lt ho
    have hb := hG.bel
    have s0 := hG.frame.rest 2 (by decide)
    have hc0 := fun o => hb.cell (p := ⟨w.heap.size, o, none⟩) (by simp <;> omega)
    have s1 := hG.frame.rest 3 (by decide)
    have hc1 := fun o => hb.cell (p := ⟨w.heap.size + 1, o, none⟩) (by simp <;> omega)
    simp [go_sem] at s0 hc0 s1 hc1
    match j, hj with
    | 0, _ =>
      cases ho
      refine all_val rfl rfl rfl hG (by decide) (by decide) (by simp) rfl (by kernel_rfl) (VFSignedQuotient_mono _ _) ?_
      refine step_val (v := x.v) (w' := w') ?_ ⟨rfl, bel_refl _⟩
      simp [execOp, Act.eval, s0, hc0, go_sem]
    | 1, _ =>
      cases ho
      refine all_val rfl rfl rfl hG (by decide) (by decide) (by simp) rfl (by kernel_rfl) (VFSignedQuotient_mono _ _) ?_
      obtain ⟨v0, e0, rfl⟩ := FV.get (d := 6) (hpre ⟨0, .data⟩ (by simp) rfl) rfl
      refine step_call (f := 67) (args := #[x.v]) (w' := w') ?_ (ABS.out x w') ?_
      · simp [execOp, Act.eval, e0, go_sem]
      · rintro e w'' ⟨rfl, hb2⟩
        exact ⟨_, rfl, rfl, hb2⟩
    | 2, _ =>
      cases ho
      refine all_val rfl rfl rfl hG (by decide) (by decide) (by simp) rfl (by kernel_rfl) (VFSignedQuotient_mono _ _) ?_
      refine step_val (v := y.v) (w' := w') ?_ ⟨rfl, bel_refl _⟩
      simp [execOp, Act.eval, s1, hc1, go_sem]
    | 3, _ =>
      cases ho
      refine all_val rfl rfl rfl hG (by decide) (by decide) (by simp) rfl (by kernel_rfl) (VFSignedQuotient_mono _ _) ?_
      obtain ⟨v0, e0, rfl⟩ := FV.get (d := 8) (hpre ⟨2, .data⟩ (by simp) rfl) rfl
      refine step_call (f := 67) (args := #[y.v]) (w' := w') ?_ (ABS.out y w') ?_
      · simp [execOp, Act.eval, e0, go_sem]
      · rintro e w'' ⟨rfl, hb2⟩
        exact ⟨_, rfl, rfl, hb2⟩
    | 4, _ =>
      cases ho
      refine all_val rfl rfl rfl hG (by decide) (by decide) (by simp) rfl (by kernel_rfl) (VFSignedQuotient_mono _ _) ?_
      obtain ⟨v0, e0, rfl⟩ := FV.get (d := 7) (hpre ⟨1, .data⟩ (by simp) rfl) rfl
      obtain ⟨v1, e1, rfl⟩ := FV.get (d := 9) (hpre ⟨3, .data⟩ (by simp) rfl) rfl
      refine step_call (f := 33) (args := #[N4.v (absN x), N4.v (absN y)]) (w' := w') ?_ (QUO.out w') ?_
      · simp [execOp, Act.eval, e0, e1, go_sem]
      · rintro e w'' ⟨rfl, hb2⟩
        exact ⟨_, rfl, rfl, hb2⟩
    | 5, _ =>
      cases ho
      refine all_alloc (.cells #[.int .u64 0, .int .u64 0, .int .u64 0, .int .u64 0] 26) rfl rfl rfl hG (by decide) (by simp) rfl (by kernel_rfl) (VFSignedQuotient_mono _ _) ?_ ⟨_, rfl, there_new _ _ _ _ (by simp)⟩
      simp [execOp, Act.eval, go_sem]
    | 6, _ =>
      cases ho
      obtain ⟨vp, ep, B, rfl, hth⟩ := FV.get (d := 5) (hpre ⟨5, .data⟩ (by simp) rfl) rfl
      obtain ⟨vx, ex, rfl⟩ := FV.get (d := 10) (hpre ⟨4, .data⟩ (by simp) rfl) rfl
      refine all_store 26 _ _ rfl B 0 [V ((ofN ((absN x).toNat / (absN y).toNat))).a, V ((ofN ((absN x).toNat / (absN y).toNat))).b, V ((ofN ((absN x).toNat / (absN y).toNat))).c, V ((ofN ((absN x).toNat / (absN y).toNat))).d] rfl rfl rfl hG rfl ep (by simp [Act.eval, ep]) (by simp [Act.eval, ex]) hth (hG.apart.1 5 (by decide) B 0 ep).1 (by kernel_rfl) (by simp [Value.oneCell']) ⟨B, rfl, At4.setNew hth⟩ ?_
      intro i u hij hi hu hv
      match i, hi with
      | 0, _ => exact (show u = x.v from hv)
      | 1, _ => exact (show u = N4.v (absN x) from hv)
      | 2, _ => exact (show u = y.v from hv)
      | 3, _ => exact (show u = N4.v (absN y) from hv)
      | 4, _ => exact (show u = N4.v (ofN ((absN x).toNat / (absN y).toNat)) from hv)
      | 5, _ => obtain ⟨B2, rfl, h⟩ := hv; exact ⟨B2, rfl, World.there_setCells h _ _ _⟩
      | 6, _ => exact absurd rfl hij
      | i + 7, hi => exact absurd hi (by simp)
    | n + 7, hj => exact absurd hj (by simp)
  · intro a' w' hG hF
    obtain ⟨_, e5, B5, rfl, h5⟩ := FV.get (d := 5) (hF 6 (by decide)) rfl
    have l5 := h5.lt
    obtain ⟨h50, h51, h52, h53⟩ := h5
    simp only [Nat.zero_add] at h51 h52 h53
    have s2 := hG.frame.rest 2 (by decide)
    have c2 := fun o => hG.bel.cell (p := ⟨w.heap.size, o, none⟩) (by simp <;> omega)
    have s3 := hG.frame.rest 3 (by decide)
    have c3 := fun o => hG.bel.cell (p := ⟨w.heap.size + 1, o, none⟩) (by simp <;> omega)
    have s4 := hG.frame.rest 4 (by decide)
    have hsz := hG.frame.size
    have hdf := hG.frame.defers
    have hgs := hG.bel.size
    have hbel : Below w.heap.size w w' := bel_trans (bel_alloc (bel_alloc (bel_alloc (bel_refl w) _) _) _) hG.bel
    simp [go_sem] at c2 c3 hgs
    have z2 : w.heap.size < w'.heap.size := by omega
    have z3 : w.heap.size + 1 < w'.heap.size := by omega
    have hres : w'.there (w.heap.size + 2) 0 4 := there_bel (there_at _ _ _ _ _ (Nat.le_refl _) (by simp)) (by omega) hG.bel
    clear hF hG
    obtain ⟨tm, df⟩ := a'
    obtain ⟨x0, x1, x2, x3, x4, x5, x6, x7, x8, x9, x10, x11, x12, x13, x14, x15, x16, x17, x18, rfl⟩ := arrayN19s hsz
    simp [go_sem] at e5 s2 s3 s4 hdf
    subst e5 s2 s3 s4 hdf
    clear hsz
    obtain ⟨q, hq⟩ : ∃ q, q = ofN ((absN x).toNat / (absN y).toNat) := ⟨_, rfl⟩
    rw [← hq] at NEG h50 h51 h52 h53
    have HQ := Lib.hid hq
    clear hq
    cases hn : (x.neg == y.neg)
    · have K := key (ngN q) (by unfold sqN; rw [hn, ← HQ.out]; rfl)
      clear key
      go_wp2
      go_region_held3 (Keeps w'.heap.size w') (first | exact Keeps.start _ _ | exact Keeps.step (by assumption) (Nat.le_refl _) hb)
        (first | (go_at_call 68; (with_reducible refine (specBelow_any x _).mono ?_); rintro e w1 ⟨rfl, hb⟩) | (go_at_call 68; (with_reducible refine (specBelow_any y _).mono ?_); rintro e w2 ⟨rfl, hb⟩))
      all_goals
        have hk := ‹Keeps _ _ _›
        have belk := hk.bel hbel.size hbel
        have resk := there_bel hres (by omega) hk.2
        have k0 := (hk.1 _ 0 l5).trans h50
        have k1 := (hk.1 _ 1 l5).trans h51
        have k2 := (hk.1 _ 2 l5).trans h52
        have k3 := (hk.1 _ 3 l5).trans h53
        clear hk
        go_wp2_with fail
        refine (NEG.out _).mono ?_
        rintro e w8 ⟨rfl, hb8⟩
        have bel8 := bel_trans belk hb8
        have res8 := there_bel resk (by omega) hb8
        obtain ⟨r, hr⟩ : ∃ r, r = ngN q := ⟨_, rfl⟩
        rw [← hr] at K
        have HR := Lib.hid hr
        rw [← hr]
        clear hr
        go_wp2_with (refine wpList_store_mid rfl 26 _ _ rfl (w.heap.size + 2) 0 [V r.a, V r.b, V r.c, V r.d].toArray rfl rfl res8 (by kernel_rfl) (by simp [Value.oneCell']) ?_)
        rw [K.out]
        exact retBel_row rfl rfl (w.heap.size + 2) [V r.a, V r.b, V r.c, V r.d] _ rfl (World.rangeAt_setCells_same w8 _ 0 _ res8) Try.underlying26 rfl (by kernel_rfl) rfl (setCells_bel bel8 (by omega))
    · have K := key q (by unfold sqN; rw [hn, ← HQ.out]; rfl)
      clear key
      go_wp2
      go_region_held3 (Keeps w'.heap.size w') (first | exact Keeps.start _ _ | exact Keeps.step (by assumption) (Nat.le_refl _) hb)
        (first | (go_at_call 68; (with_reducible refine (specBelow_any x _).mono ?_); rintro e w1 ⟨rfl, hb⟩) | (go_at_call 68; (with_reducible refine (specBelow_any y _).mono ?_); rintro e w2 ⟨rfl, hb⟩))
      all_goals
        have hk := ‹Keeps _ _ _›
        have belk := hk.bel hbel.size hbel
        have resk := there_bel hres (by omega) hk.2
        have k0 := (hk.1 _ 0 l5).trans h50
        have k1 := (hk.1 _ 1 l5).trans h51
        have k2 := (hk.1 _ 2 l5).trans h52
        have k3 := (hk.1 _ 3 l5).trans h53
        clear hk
        go_wp2_with (refine wpList_store_mid rfl 26 _ _ rfl (w.heap.size + 2) 0 [V q.a, V q.b, V q.c, V q.d].toArray rfl rfl resk (by kernel_rfl) (by simp [Value.oneCell']) ?_)
        rw [K.out]
        exact retBel_row rfl rfl (w.heap.size + 2) [V q.a, V q.b, V q.c, V q.d] _ rfl (World.rangeAt_setCells_same _ _ 0 _ resk) Try.underlying26 rfl (by kernel_rfl) rfl (setCells_bel belk (by omega))
theorem arrayN16s {l : Array Value} (h : l.size = 16) : ∃ x0 x1 x2 x3 x4 x5 x6 x7 x8 x9 x10 x11 x12 x13 x14 x15, l = #[x0, x1, x2, x3, x4, x5, x6, x7, x8, x9, x10, x11, x12, x13, x14, x15] := by
  obtain ⟨l⟩ := l
  have h0 : l.length = 15 + 1 := h
  clear h
  obtain ⟨x0, l1, rfl, h1⟩ := cons_of h0
  obtain ⟨x1, l2, rfl, h2⟩ := cons_of h1
  obtain ⟨x2, l3, rfl, h3⟩ := cons_of h2
  obtain ⟨x3, l4, rfl, h4⟩ := cons_of h3
  obtain ⟨x4, l5, rfl, h5⟩ := cons_of h4
  obtain ⟨x5, l6, rfl, h6⟩ := cons_of h5
  obtain ⟨x6, l7, rfl, h7⟩ := cons_of h6
  obtain ⟨x7, l8, rfl, h8⟩ := cons_of h7
  obtain ⟨x8, l9, rfl, h9⟩ := cons_of h8
  obtain ⟨x9, l10, rfl, h10⟩ := cons_of h9
  obtain ⟨x10, l11, rfl, h11⟩ := cons_of h10
  obtain ⟨x11, l12, rfl, h12⟩ := cons_of h11
  obtain ⟨x12, l13, rfl, h13⟩ := cons_of h12
  obtain ⟨x13, l14, rfl, h14⟩ := cons_of h13
  obtain ⟨x14, l15, rfl, h15⟩ := cons_of h14
  obtain ⟨x15, l16, rfl, h16⟩ := cons_of h15
  cases l16 with
  | nil => exact ⟨x0, x1, x2, x3, x4, x5, x6, x7, x8, x9, x10, x11, x12, x13, x14, x15, rfl⟩
  | cons a t => simp at h16
def VFSignedRest (x : N4) (y : N4) : Nat → Value → World → Prop
  | 0, v, w => v = x.v
  | 1, v, w => v = N4.v (absN x)
  | 2, v, w => v = y.v
  | 3, v, w => v = N4.v (absN y)
  | 4, v, w => v = N4.v (remN (absN x) (absN y))
  | 5, v, w => ∃ B, v = .pointer (some ⟨B, 0, none⟩) ∧ w.there B 0 4
  | 6, v, w => ∃ B, v = .pointer (some ⟨B, 0, none⟩) ∧ At4 w B 0 ((remN (absN x) (absN y)))
  | _, _, _ => False
theorem VFSignedRest_mono (x : N4) (y : N4) : ∀ j v w w', Below w.heap.size w w' → VFSignedRest x y j v w → VFSignedRest x y j v w' := by
  intro j v w w' hb h
  match j, h with
  | 0, h => exact h
  | 1, h => exact h
  | 2, h => exact h
  | 3, h => exact h
  | 4, h => exact h
  | 5, h => obtain ⟨B, rfl, h1⟩ := h; exact ⟨B, rfl, there_bel h1 (by omega) hb⟩
  | 6, h => obtain ⟨B, rfl, h1⟩ := h; exact ⟨B, rfl, At4.bel h1 hb⟩
set_option maxHeartbeats 4000000 in
theorem specSignedRest_any (x y : N4) (w : World) : Calls Try.prog 41 #[x.v, y.v] w (RetBel (N4.v (srN x y)) w) := by
  have ABS := Lib.hid (fun (x : N4) (w : World) => specAbs_any x w)
  have QUO : Hid (∀ w, Calls Try.prog 35 #[(absN x).v, (absN y).v] w (RetBel (N4.v (remN (absN x) (absN y))) w)) := fun w => specRest_any _ _ w
  have NEG : Hid (∀ w, Calls Try.prog 69 #[N4.v (remN (absN x) (absN y))] w (RetBel (N4.v (ngN (remN (absN x) (absN y)))) w)) := fun w => specNeg_any _ w
  have key : ∀ r, srN x y = r → Hid (srN x y = r) := fun _ h => h
  go_enter Try.func41, Try.ntmps41
  go_wp2
  refine wp_region_all (by kernel_rfl) (GA [6, 7, 8, 9, 10, 5] [5] [] _ _ _) (FV (fun i => [6, 7, 8, 9, 10, 5, 5].getD i 0) (VFSignedRest x y)) (all_ord (by kernel_rfl)) (GA.start (by simp)) ?_ ?_
  · intro j o ho a' w' hG hpre
    have hj : j < 7 := getElem?_lt ho
    have hb := hG.bel
    have s0 := hG.frame.rest 2 (by decide)
    have hc0 := fun o => hb.cell (p := ⟨w.heap.size, o, none⟩) (by simp <;> omega)
    have s1 := hG.frame.rest 3 (by decide)
    have hc1 := fun o => hb.cell (p := ⟨w.heap.size + 1, o, none⟩) (by simp <;> omega)
    simp [go_sem] at s0 hc0 s1 hc1
    match j, hj with
    | 0, _ =>
      cases ho
      refine all_val rfl rfl rfl hG (by decide) (by decide) (by simp) rfl (by kernel_rfl) (VFSignedRest_mono _ _) ?_
      refine step_val (v := x.v) (w' := w') ?_ ⟨rfl, bel_refl _⟩
      simp [execOp, Act.eval, s0, hc0, go_sem]
    | 1, _ =>
      cases ho
      refine all_val rfl rfl rfl hG (by decide) (by decide) (by simp) rfl (by kernel_rfl) (VFSignedRest_mono _ _) ?_
      obtain ⟨v0, e0, rfl⟩ := FV.get (d := 6) (hpre ⟨0, .data⟩ (by simp) rfl) rfl
      refine step_call (f := 67) (args := #[x.v]) (w' := w') ?_ (ABS.out x w') ?_
      · simp [execOp, Act.eval, e0, go_sem]
      · rintro e w'' ⟨rfl, hb2⟩
        exact ⟨_, rfl, rfl, hb2⟩
    | 2, _ =>
      cases ho
      refine all_val rfl rfl rfl hG (by decide) (by decide) (by simp) rfl (by kernel_rfl) (VFSignedRest_mono _ _) ?_
      refine step_val (v := y.v) (w' := w') ?_ ⟨rfl, bel_refl _⟩
      simp [execOp, Act.eval, s1, hc1, go_sem]
    | 3, _ =>
      cases ho
      refine all_val rfl rfl rfl hG (by decide) (by decide) (by simp) rfl (by kernel_rfl) (VFSignedRest_mono _ _) ?_
      obtain ⟨v0, e0, rfl⟩ := FV.get (d := 8) (hpre ⟨2, .data⟩ (by simp) rfl) rfl
      refine step_call (f := 67) (args := #[y.v]) (w' := w') ?_ (ABS.out y w') ?_
      · simp [execOp, Act.eval, e0, go_sem]
      · rintro e w'' ⟨rfl, hb2⟩
        exact ⟨_, rfl, rfl, hb2⟩
    | 4, _ =>
      cases ho
      refine all_val rfl rfl rfl hG (by decide) (by decide) (by simp) rfl (by kernel_rfl) (VFSignedRest_mono _ _) ?_
      obtain ⟨v0, e0, rfl⟩ := FV.get (d := 7) (hpre ⟨1, .data⟩ (by simp) rfl) rfl
      obtain ⟨v1, e1, rfl⟩ := FV.get (d := 9) (hpre ⟨3, .data⟩ (by simp) rfl) rfl
      refine step_call (f := 35) (args := #[N4.v (absN x), N4.v (absN y)]) (w' := w') ?_ (QUO.out w') ?_
      · simp [execOp, Act.eval, e0, e1, go_sem]
      · rintro e w'' ⟨rfl, hb2⟩
        exact ⟨_, rfl, rfl, hb2⟩
    | 5, _ =>
      cases ho
      refine all_alloc (.cells #[.int .u64 0, .int .u64 0, .int .u64 0, .int .u64 0] 26) rfl rfl rfl hG (by decide) (by simp) rfl (by kernel_rfl) (VFSignedRest_mono _ _) ?_ ⟨_, rfl, there_new _ _ _ _ (by simp)⟩
      simp [execOp, Act.eval, go_sem]
    | 6, _ =>
      cases ho
      obtain ⟨vp, ep, B, rfl, hth⟩ := FV.get (d := 5) (hpre ⟨5, .data⟩ (by simp) rfl) rfl
      obtain ⟨vx, ex, rfl⟩ := FV.get (d := 10) (hpre ⟨4, .data⟩ (by simp) rfl) rfl
      refine all_store 26 _ _ rfl B 0 [V ((remN (absN x) (absN y))).a, V ((remN (absN x) (absN y))).b, V ((remN (absN x) (absN y))).c, V ((remN (absN x) (absN y))).d] rfl rfl rfl hG rfl ep (by simp [Act.eval, ep]) (by simp [Act.eval, ex]) hth (hG.apart.1 5 (by decide) B 0 ep).1 (by kernel_rfl) (by simp [Value.oneCell']) ⟨B, rfl, At4.setNew hth⟩ ?_
      intro i u hij hi hu hv
      match i, hi with
      | 0, _ => exact (show u = x.v from hv)
      | 1, _ => exact (show u = N4.v (absN x) from hv)
      | 2, _ => exact (show u = y.v from hv)
      | 3, _ => exact (show u = N4.v (absN y) from hv)
      | 4, _ => exact (show u = N4.v (remN (absN x) (absN y)) from hv)
      | 5, _ => obtain ⟨B2, rfl, h⟩ := hv; exact ⟨B2, rfl, World.there_setCells h _ _ _⟩
      | 6, _ => exact absurd rfl hij
      | i + 7, hi => exact absurd hi (by simp)
    | n + 7, hj => exact absurd hj (by simp)
  · intro a' w' hG hF
    obtain ⟨_, e5, B5, rfl, h5⟩ := FV.get (d := 5) (hF 6 (by decide)) rfl
    have l5 := h5.lt
    obtain ⟨h50, h51, h52, h53⟩ := h5
    simp only [Nat.zero_add] at h51 h52 h53
    have s2 := hG.frame.rest 2 (by decide)
    have c2 := fun o => hG.bel.cell (p := ⟨w.heap.size, o, none⟩) (by simp <;> omega)
    have s3 := hG.frame.rest 3 (by decide)
    have c3 := fun o => hG.bel.cell (p := ⟨w.heap.size + 1, o, none⟩) (by simp <;> omega)
    have s4 := hG.frame.rest 4 (by decide)
    have hsz := hG.frame.size
    have hdf := hG.frame.defers
    have hgs := hG.bel.size
    have hbel : Below w.heap.size w w' := bel_trans (bel_alloc (bel_alloc (bel_alloc (bel_refl w) _) _) _) hG.bel
    simp [go_sem] at c2 c3 hgs
    have z2 : w.heap.size < w'.heap.size := by omega
    have z3 : w.heap.size + 1 < w'.heap.size := by omega
    have hres : w'.there (w.heap.size + 2) 0 4 := there_bel (there_at _ _ _ _ _ (Nat.le_refl _) (by simp)) (by omega) hG.bel
    clear hF hG
    obtain ⟨tm, df⟩ := a'
    obtain ⟨x0, x1, x2, x3, x4, x5, x6, x7, x8, x9, x10, x11, x12, x13, x14, x15, rfl⟩ := arrayN16s hsz
    simp [go_sem] at e5 s2 s3 s4 hdf
    subst e5 s2 s3 s4 hdf
    clear hsz
    obtain ⟨q, hq⟩ : ∃ q, q = remN (absN x) (absN y) := ⟨_, rfl⟩
    rw [← hq] at NEG h50 h51 h52 h53
    have HQ := Lib.hid hq
    clear hq
    cases hn : x.neg
    · have K := key q (by unfold srN; rw [hn, ← HQ.out]; rfl)
      clear key
      go_wp2_with fail
      refine (specBelow_any x _).mono ?_
      rintro e w1 ⟨rfl, hb⟩
      have belk := bel_trans hbel hb
      have resk := there_bel hres (by omega) hb
      have k0 := bel_cell hb h50
      have k1 := bel_cell hb h51
      have k2 := bel_cell hb h52
      have k3 := bel_cell hb h53
      clear hb
      all_goals
        go_wp2_with (refine wpList_store_mid rfl 26 _ _ rfl (w.heap.size + 2) 0 [V q.a, V q.b, V q.c, V q.d].toArray rfl rfl resk (by kernel_rfl) (by simp [Value.oneCell']) ?_)
        rw [K.out]
        exact retBel_row rfl rfl (w.heap.size + 2) [V q.a, V q.b, V q.c, V q.d] _ rfl (World.rangeAt_setCells_same _ _ 0 _ resk) Try.underlying26 rfl (by kernel_rfl) rfl (setCells_bel belk (by omega))
    · have K := key (ngN q) (by unfold srN; rw [hn, ← HQ.out]; rfl)
      clear key
      go_wp2_with fail
      refine (specBelow_any x _).mono ?_
      rintro e w1 ⟨rfl, hb⟩
      have belk := bel_trans hbel hb
      have resk := there_bel hres (by omega) hb
      have k0 := bel_cell hb h50
      have k1 := bel_cell hb h51
      have k2 := bel_cell hb h52
      have k3 := bel_cell hb h53
      clear hb
      all_goals
        go_wp2_with fail
        refine (NEG.out _).mono ?_
        rintro e w8 ⟨rfl, hb8⟩
        have bel8 := bel_trans belk hb8
        have res8 := there_bel resk (by omega) hb8
        obtain ⟨r, hr⟩ : ∃ r, r = ngN q := ⟨_, rfl⟩
        rw [← hr] at K
        have HR := Lib.hid hr
        rw [← hr]
        clear hr
        go_wp2_with (refine wpList_store_mid rfl 26 _ _ rfl (w.heap.size + 2) 0 [V r.a, V r.b, V r.c, V r.d].toArray rfl rfl res8 (by kernel_rfl) (by simp [Value.oneCell']) ?_)
        rw [K.out]
        exact retBel_row rfl rfl (w.heap.size + 2) [V r.a, V r.b, V r.c, V r.d] _ rfl (World.rangeAt_setCells_same w8 _ 0 _ res8) Try.underlying26 rfl (by kernel_rfl) rfl (setCells_bel bel8 (by omega))
end Go.Proofs.Ytakneagklldciaa
