/-
  The reference's Sub, Neg, Below, Abs, by worth.
-/
import Derived.Test.YtakneagklldciaaDig5
namespace Go.Proofs.Ytakneagklldciaa
set_option maxRecDepth 20000
open Go.RowKit
set_option linter.unusedVariables false
theorem arrayN13 {l : Array Value} (h : l.size = 13) : ∃ x0 x1 x2 x3 x4 x5 x6 x7 x8 x9 x10 x11 x12, l = #[x0, x1, x2, x3, x4, x5, x6, x7, x8, x9, x10, x11, x12] := by
  obtain ⟨l⟩ := l
  have h0 : l.length = 12 + 1 := h
  clear h
  obtain ⟨x0, l1, rfl, h1⟩ := cons_of h0
  obtain ⟨x1, l2, rfl, h2⟩ := cons_of h1
  obtain ⟨x2, l3, rfl, h3⟩ := cons_of h2
  obtain ⟨x3, l4, rfl, h4⟩ := cons_of h3
  obtain ⟨x4, l5, rfl, h5⟩ := cons_of h4
  obtain ⟨x5, l6, rfl, h6⟩ := cons_of h5
  obtain ⟨x6, l7, rfl, h7⟩ := cons_of h6
  obtain ⟨x7, l8, rfl, h8⟩ := cons_of h7
  obtain ⟨x8, l9, rfl, h9⟩ := cons_of h8
  obtain ⟨x9, l10, rfl, h10⟩ := cons_of h9
  obtain ⟨x10, l11, rfl, h11⟩ := cons_of h10
  obtain ⟨x11, l12, rfl, h12⟩ := cons_of h11
  obtain ⟨x12, l13, rfl, h13⟩ := cons_of h12
  cases l13 with
  | nil => exact ⟨x0, x1, x2, x3, x4, x5, x6, x7, x8, x9, x10, x11, x12, rfl⟩
  | cons a t => simp at h13
def specSub_anyVF (x : N4) (y : N4) : Nat → Value → World → Prop
  | 0, v, w => v = x.v
  | 1, v, w => Dg w v (x.toNat) (16)
  | 2, v, w => Dg w v (2 ^ 256) (65)
  | 3, v, w => Dg w v (x.toNat + (2 ^ 256)) (max (16) (65) + 1)
  | 4, v, w => v = y.v
  | 5, v, w => Dg w v (y.toNat) (16)
  | 6, v, w => Dg w v (x.toNat + (2 ^ 256) - (y.toNat)) (max (max (16) (65) + 1) (16))
  | 7, v, w => v = N4.v (ofN (x.toNat + (2 ^ 256) - (y.toNat)))
  | _, _, _ => False
theorem specSub_anyVF_mono (x : N4) (y : N4) : ∀ j v w w', Below w.heap.size w w' → specSub_anyVF x y j v w → specSub_anyVF x y j v w' := by
  intro j v w w' hb h
  match j, h with
  | 0, h => exact h
  | 1, h => exact h.bel hb
  | 2, h => exact h.bel hb
  | 3, h => exact h.bel hb
  | 4, h => exact h
  | 5, h => exact h.bel hb
  | 6, h => exact h.bel hb
  | 7, h => exact h
set_option maxHeartbeats 1000000 in
theorem specSub_any (x : N4) (y : N4) (w : World) : Calls Try.prog 51 #[x.v, y.v] w (RetBel (N4.v (ofN (x.toNat + (2 ^ 256) - (y.toNat)))) w) := by
  go_enter Try.func51, Try.ntmps51
  go_wp2
  refine wp_region_grow (by kernel_rfl) [5, 6, 7, 8, 9, 10, 11, 12] (specSub_anyVF x y) rfl (by decide) (grow_dst rfl) (grow_ord (by kernel_rfl)) (grow_in 13 rfl (by decide)) (specSub_anyVF_mono _ _) ?_ (grow_all (by kernel_rfl)) ?_
  · intro j o hj ho a' w' hf hb hpre
    have s0 := hf.rest 2 (by decide)
    have hc0 := fun o => hb.cell (p := ⟨w.heap.size, o, none⟩) (by simp <;> omega)
    have s1 := hf.rest 3 (by decide)
    have hc1 := fun o => hb.cell (p := ⟨w.heap.size + 1, o, none⟩) (by simp <;> omega)
    simp [go_sem] at s0 hc0 s1 hc1
    match j, hj with
    | 0, _ =>
      cases ho
      refine step_val (v := x.v) (w' := w') ?_ ⟨rfl, bel_refl _⟩
      simp [execOp, Act.eval, s0, hc0, go_sem]
    | 1, _ =>
      cases ho
      obtain ⟨v0, e0, rfl⟩ := hpre ⟨0, .data⟩ (by simp) rfl 5 rfl
      refine step_call (f := 25) (args := #[x.v]) (w' := w') ?_ (whole_dg x w') ?_
      · simp [execOp, Act.eval, e0, go_sem]
      · rintro e w'' ⟨v, rfl, hd, hb2⟩
        exact ⟨_, rfl, hd, hb2⟩
    | 2, _ =>
      cases ho
      refine step_call (f := 53) (args := #[.int .i64 256]) (w' := w') ?_ (power_any 256 w' (by omega)) ?_
      · simp [execOp, Act.eval, go_sem]
      · rintro e w'' ⟨v, rfl, hd, hb2⟩
        exact ⟨_, rfl, hd, hb2⟩
    | 3, _ =>
      cases ho
      obtain ⟨v0, e0, h0⟩ := hpre ⟨1, .data⟩ (by simp) rfl 6 rfl
      obtain ⟨v1, e1, h1⟩ := hpre ⟨2, .data⟩ (by simp) rfl 7 rfl
      refine step_call (f := 60) (args := #[v0, v1]) (w' := w') ?_ (plus_dg _ _ _ _ _ _ w' h0 h1 (by omega) (by omega)) ?_
      · simp [execOp, Act.eval, e0, e1, go_sem]
      · rintro e w'' ⟨v, rfl, hd, hb2⟩
        exact ⟨_, rfl, hd, hb2⟩
    | 4, _ =>
      cases ho
      refine step_val (v := y.v) (w' := w') ?_ ⟨rfl, bel_refl _⟩
      simp [execOp, Act.eval, s1, hc1, go_sem]
    | 5, _ =>
      cases ho
      obtain ⟨v0, e0, rfl⟩ := hpre ⟨4, .data⟩ (by simp) rfl 9 rfl
      refine step_call (f := 25) (args := #[y.v]) (w' := w') ?_ (whole_dg y w') ?_
      · simp [execOp, Act.eval, e0, go_sem]
      · rintro e w'' ⟨v, rfl, hd, hb2⟩
        exact ⟨_, rfl, hd, hb2⟩
    | 6, _ =>
      cases ho
      obtain ⟨v0, e0, h0⟩ := hpre ⟨3, .data⟩ (by simp) rfl 8 rfl
      obtain ⟨v1, e1, h1⟩ := hpre ⟨5, .data⟩ (by simp) rfl 10 rfl
      refine step_call (f := 78) (args := #[v0, v1]) (w' := w') ?_ (minus_dg _ _ _ _ _ _ w' h0 h1 (by omega) (by omega) (by have := toNat_lt y; omega)) ?_
      · simp [execOp, Act.eval, e0, e1, go_sem]
      · rintro e w'' ⟨v, rfl, hd, hb2⟩
        exact ⟨_, rfl, hd, hb2⟩
    | 7, _ =>
      cases ho
      obtain ⟨v0, e0, h0⟩ := hpre ⟨6, .data⟩ (by simp) rfl 11 rfl
      refine step_call (f := 52) (args := #[v0]) (w' := w') ?_ (cut_dg _ _ _ w' h0 (by omega)) ?_
      · simp [execOp, Act.eval, e0, go_sem]
      · rintro e w'' ⟨rfl, hb2⟩
        exact ⟨_, rfl, rfl, hb2⟩
    | n + 8, hj => exact absurd hj (by simp)
  · intro o ho a' w' hf hb hv
    cases ho
    obtain ⟨vr, er, rfl⟩ := hv 7 12 rfl
    have sr := hf.rest 4 (by decide)
    have hsz := hf.size
    have hdf := hf.defers
    have hres : w'.there (w.heap.size + 2) 0 4 := there_bel (there_at _ _ _ _ _ (Nat.le_refl _) (by simp)) (by omega) hb
    have hbel : Below w.heap.size w w' := bel_trans (bel_alloc (bel_alloc (bel_alloc (bel_refl w) _) _) _) hb
    clear hv hf hb
    obtain ⟨tm, df⟩ := a'
    obtain ⟨x0, x1, x2, x3, x4, x5, x6, x7, x8, x9, x10, x11, x12, rfl⟩ := arrayN13 hsz
    simp [go_sem] at er sr hdf
    subst er sr hdf
    clear hsz
    refine wp_store_mid 26 _ _ rfl (w.heap.size + 2) 0 [V (ofN (x.toNat + (2 ^ 256) - (y.toNat))).a, V (ofN (x.toNat + (2 ^ 256) - (y.toNat))).b, V (ofN (x.toNat + (2 ^ 256) - (y.toNat))).c, V (ofN (x.toNat + (2 ^ 256) - (y.toNat))).d].toArray rfl rfl hres (by kernel_rfl) (by simp [Value.oneCell']) ?_
    go_wp2
    exact retBel_row rfl rfl (w.heap.size + 2) [V (ofN (x.toNat + (2 ^ 256) - (y.toNat))).a, V (ofN (x.toNat + (2 ^ 256) - (y.toNat))).b, V (ofN (x.toNat + (2 ^ 256) - (y.toNat))).c, V (ofN (x.toNat + (2 ^ 256) - (y.toNat))).d] _ rfl (World.rangeAt_setCells_same w' _ 0 _ hres) Try.underlying26 rfl (by kernel_rfl) rfl (setCells_bel hbel (by omega))
theorem nul_toNat : N4.toNat ⟨0#64, 0#64, 0#64, 0#64⟩ = 0 := rfl
set_option maxHeartbeats 400000 in
theorem specNeg_any (x : N4) (w : World) : Calls Try.prog 69 #[x.v] w (RetBel (N4.v (ofN (2 ^ 256 - x.toNat))) w) := by
  have e : ofN (N4.toNat ⟨0#64, 0#64, 0#64, 0#64⟩ + (2 ^ 256) - (x.toNat)) = ofN (2 ^ 256 - x.toNat) := by rw [nul_toNat, Nat.zero_add]
  have H : Hid (∀ w, Calls Try.prog 51 #[.agg #[.int .u64 0, .int .u64 0, .int .u64 0, .int .u64 0], x.v] w (RetBel (N4.v (ofN (2 ^ 256 - x.toNat))) w)) := fun w => by
    have := specSub_any ⟨0#64, 0#64, 0#64, 0#64⟩ x w
    rw [e] at this
    exact this
  clear e
  generalize ofN (2 ^ 256 - x.toNat) = r at *
  go_enter Try.func69, Try.ntmps69
  go_wp2_with fail
  refine (H.out _).mono ?_
  rintro e w1 ⟨rfl, hb⟩
  have hbel : Below w.heap.size w w1 := bel_trans (bel_alloc (bel_alloc (bel_refl w) _) _) hb
  have hres : w1.there (w.heap.size + 1) 0 4 := there_bel (there_at _ _ _ _ _ (Nat.le_refl _) (by simp)) (by omega) hb
  clear hb
  go_wp2_with (refine wpList_store_mid rfl 26 _ _ rfl (w.heap.size + 1) 0 [V r.a, V r.b, V r.c, V r.d].toArray rfl rfl hres (by kernel_rfl) (by simp [Value.oneCell']) ?_)
  exact retBel_row rfl rfl (w.heap.size + 1) [V r.a, V r.b, V r.c, V r.d] _ rfl (World.rangeAt_setCells_same w1 _ 0 _ hres) Try.underlying26 rfl (by kernel_rfl) rfl (setCells_bel hbel (by omega))
/-- Without the sign. -/
def absN (x : N4) : N4 := if x.neg then ofN (2 ^ 256 - x.toNat) else x
set_option maxHeartbeats 400000 in
theorem specAbs_any (x : N4) (w : World) : Calls Try.prog 67 #[x.v] w (RetBel (N4.v (absN x)) w) := by
  cases hn : x.neg
  · have e : Hid (absN x = x) := by show absN x = x; unfold absN; rw [hn]; rfl
    go_enter Try.func67, Try.ntmps67
    go_wp2_with fail
    refine (specBelow_any x _).mono ?_
    rintro e w1 ⟨rfl, hb⟩
    have hbel : Below w.heap.size w w1 := bel_trans (bel_alloc (bel_alloc (bel_refl w) _) _) hb
    have hres : w1.there (w.heap.size + 1) 0 4 := there_bel (there_at _ _ _ _ _ (Nat.le_refl _) (by simp)) (by omega) hb
    have hc := fun o => hb.cell (p := ⟨w.heap.size, o, none⟩) (by simp <;> omega)
    simp [go_sem] at hc
    clear hb
    go_wp2_with (refine wpList_store_mid rfl 26 _ _ rfl (w.heap.size + 1) 0 [V x.a, V x.b, V x.c, V x.d].toArray rfl rfl hres (by kernel_rfl) (by simp [Value.oneCell']) ?_)
    rw [e.out]
    exact retBel_row rfl rfl (w.heap.size + 1) [V x.a, V x.b, V x.c, V x.d] _ rfl (World.rangeAt_setCells_same w1 _ 0 _ hres) Try.underlying26 rfl (by kernel_rfl) rfl (setCells_bel hbel (by omega))
  · have E0 : Hid (absN x = ofN (2 ^ 256 - x.toNat)) := by show absN x = _; unfold absN; rw [hn]; rfl
    go_enter Try.func67, Try.ntmps67
    go_wp2_with fail
    refine (specBelow_any x _).mono ?_
    rintro e w1 ⟨rfl, hb⟩
    have hbel : Below w.heap.size w w1 := bel_trans (bel_alloc (bel_alloc (bel_refl w) _) _) hb
    have hres : w1.there (w.heap.size + 1) 0 4 := there_bel (there_at _ _ _ _ _ (Nat.le_refl _) (by simp)) (by omega) hb
    have hc := fun o => hb.cell (p := ⟨w.heap.size, o, none⟩) (by simp <;> omega)
    simp [go_sem] at hc
    clear hb
    have H := Lib.hid (specNeg_any x)
    generalize ofN (2 ^ 256 - x.toNat) = r at *
    go_wp2_with fail
    refine (H.out _).mono ?_
    rintro e w2 ⟨rfl, hb⟩
    have hbel2 := bel_trans hbel hb
    have hres2 := there_bel hres (by omega) hb
    clear hb hc hbel hres
    go_wp2_with (refine wpList_store_mid rfl 26 _ _ rfl (w.heap.size + 1) 0 [V r.a, V r.b, V r.c, V r.d].toArray rfl rfl hres2 (by kernel_rfl) (by simp [Value.oneCell']) ?_)
    rw [E0.out]
    exact retBel_row rfl rfl (w.heap.size + 1) [V r.a, V r.b, V r.c, V r.d] _ rfl (World.rangeAt_setCells_same w2 _ 0 _ hres2) Try.underlying26 rfl (by kernel_rfl) rfl (setCells_bel hbel2 (by omega))
end Go.Proofs.Ytakneagklldciaa
