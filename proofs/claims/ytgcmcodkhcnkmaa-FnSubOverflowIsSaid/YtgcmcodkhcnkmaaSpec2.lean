/-
  The reference's Add, by what its digits are worth.
-/
import Derived.Test.YtgcmcodkhcnkmaaDig4
namespace Go.Proofs.Ytgcmcodkhcnkmaa
open Go.RowKit
set_option linter.unusedVariables false
theorem array11 {l : Array Value} (h : l.size = 11) : ∃ x0 x1 x2 x3 x4 x5 x6 x7 x8 x9 x10, l = #[x0, x1, x2, x3, x4, x5, x6, x7, x8, x9, x10] := by
  obtain ⟨l⟩ := l
  have h0 : l.length = 10 + 1 := h
  clear h
  obtain ⟨x0, l1, rfl, h1⟩ := cons_of h0
  obtain ⟨x1, l2, rfl, h2⟩ := cons_of h1
  obtain ⟨x2, l3, rfl, h3⟩ := cons_of h2
  obtain ⟨x3, l4, rfl, h4⟩ := cons_of h3
  obtain ⟨x4, l5, rfl, h5⟩ := cons_of h4
  obtain ⟨x5, l6, rfl, h6⟩ := cons_of h5
  obtain ⟨x6, l7, rfl, h7⟩ := cons_of h6
  obtain ⟨x7, l8, rfl, h8⟩ := cons_of h7
  obtain ⟨x8, l9, rfl, h9⟩ := cons_of h8
  obtain ⟨x9, l10, rfl, h10⟩ := cons_of h9
  obtain ⟨x10, l11, rfl, h11⟩ := cons_of h10
  cases l11 with
  | nil => exact ⟨x0, x1, x2, x3, x4, x5, x6, x7, x8, x9, x10, rfl⟩
  | cons a t => simp at h11
def specAdd_anyVF (x y : N4) : Nat → Value → World → Prop
  | 0, v, w => v = x.v
  | 1, v, w => Sl w v x.digs
  | 2, v, w => v = y.v
  | 3, v, w => Sl w v y.digs
  | 4, v, w => ∃ l, Sl w v l ∧ Digits l ∧ val l = x.toNat + y.toNat ∧ l.length ≤ 17
  | 5, v, w => v = (ofN (x.toNat + y.toNat)).v
  | _, _, _ => False
theorem specAdd_anyVF_mono (x y : N4) : ∀ j v w w', Below w.heap.size w w' → specAdd_anyVF x y j v w → specAdd_anyVF x y j v w' := by
  intro j v w w' hb h
  match j, h with
  | 0, h => exact h
  | 1, h => exact h.bel hb
  | 2, h => exact h
  | 3, h => exact h.bel hb
  | 4, h => obtain ⟨l, h1, h2⟩ := h; exact ⟨l, h1.bel hb, h2⟩
  | 5, h => exact h
set_option maxHeartbeats 1000000 in
theorem specAdd_any (x y : N4) (w : World) : Calls Try.prog 30 #[x.v, y.v] w (RetBel (N4.v (ofN (x.toNat + y.toNat))) w) := by
  go_enter Try.func30, Try.ntmps30
  go_wp2
  refine wp_region_grow (by kernel_rfl) [5, 6, 7, 8, 9, 10] (specAdd_anyVF x y) rfl (by decide) (grow_dst rfl) (grow_ord (by kernel_rfl)) (grow_in 11 rfl (by decide)) (specAdd_anyVF_mono _ _) ?_ (grow_all (by kernel_rfl)) ?_
  · intro j o hj ho a' w' hf hb hpre
    have s0 := hf.rest 2 (by decide)
    have hc0 := fun o => hb.cell (p := ⟨w.heap.size, o, none⟩) (by simp <;> omega)
    have s1 := hf.rest 3 (by decide)
    have hc1 := fun o => hb.cell (p := ⟨w.heap.size + 1, o, none⟩) (by simp <;> omega)
    simp [go_sem] at s0 hc0 s1 hc1
    match j, hj with
    | 0, _ =>
      cases ho
      refine step_val (v := x.v) (w' := w') ?_ ⟨rfl, bel_refl _⟩
      simp [execOp, Act.eval, s0, hc0, go_sem]
    | 1, _ =>
      cases ho
      obtain ⟨v0, e0, rfl⟩ := hpre ⟨0, .data⟩ (by simp) rfl 5 rfl
      refine step_call (f := 16) (args := #[x.v]) (w' := w') ?_ (whole_any x w') ?_
      · simp [execOp, Act.eval, e0, go_sem]
      · rintro e w'' ⟨v, rfl, hs, hb2⟩
        exact ⟨_, rfl, hs, hb2⟩
    | 2, _ =>
      cases ho
      refine step_val (v := y.v) (w' := w') ?_ ⟨rfl, bel_refl _⟩
      simp [execOp, Act.eval, s1, hc1, go_sem]
    | 3, _ =>
      cases ho
      obtain ⟨v0, e0, rfl⟩ := hpre ⟨2, .data⟩ (by simp) rfl 7 rfl
      refine step_call (f := 16) (args := #[y.v]) (w' := w') ?_ (whole_any y w') ?_
      · simp [execOp, Act.eval, e0, go_sem]
      · rintro e w'' ⟨v, rfl, hs, hb2⟩
        exact ⟨_, rfl, hs, hb2⟩
    | 4, _ =>
      cases ho
      obtain ⟨v0, e0, h0⟩ := hpre ⟨1, .data⟩ (by simp) rfl 6 rfl
      obtain ⟨v1, e1, h1⟩ := hpre ⟨3, .data⟩ (by simp) rfl 8 rfl
      refine step_call (f := 33) (args := #[v0, v1]) (w' := w') ?_ (plus_any v0 v1 x.digs y.digs w' h0 h1 (digs_digits x) (digs_digits y) (by rw [digs_len]; omega) (by rw [digs_len]; omega)) ?_
      · simp [execOp, Act.eval, e0, e1, go_sem]
      · rintro e w'' ⟨v, l, rfl, hs, hd, hvl, hl, hb2⟩
        exact ⟨_, rfl, ⟨l, hs, hd, by rw [hvl, val_digs, val_digs], by rw [digs_len, digs_len] at hl; omega⟩, hb2⟩
    | 5, _ =>
      cases ho
      obtain ⟨v0, e0, ⟨l, h0, h1, h2, h3⟩⟩ := hpre ⟨4, .data⟩ (by simp) rfl 9 rfl
      refine step_call (f := 51) (args := #[v0]) (w' := w') ?_ (cut_any v0 l w' h0 h1 (by omega)) ?_
      · simp [execOp, Act.eval, e0, go_sem]
      · rintro e w'' ⟨rfl, hb2⟩
        exact ⟨_, rfl, congrArg (fun n => N4.v (ofN n)) h2, hb2⟩
    | n + 6, hj => exact absurd hj (by simp)
  · intro o ho a' w' hf hb hv
    cases ho
    obtain ⟨vr, er, rfl⟩ := hv 5 10 rfl
    have sr := hf.rest 4 (by decide)
    have hsz := hf.size
    have hdf := hf.defers
    have hres : w'.there (w.heap.size + 2) 0 4 := there_bel (there_at _ _ _ _ _ (Nat.le_refl _) (by simp)) (by omega) hb
    have hbel : Below w.heap.size w w' := bel_trans (bel_alloc (bel_alloc (bel_alloc (bel_refl w) _) _) _) hb
    clear hv hf hb
    obtain ⟨tm, df⟩ := a'
    obtain ⟨x0, x1, x2, x3, x4, x5, x6, x7, x8, x9, x10, rfl⟩ := array11 hsz
    simp [go_sem] at er sr hdf
    subst er sr hdf
    clear hsz
    refine wp_store_mid 24 _ _ rfl (w.heap.size + 2) 0 [V (ofN (x.toNat + y.toNat)).a, V (ofN (x.toNat + y.toNat)).b, V (ofN (x.toNat + y.toNat)).c, V (ofN (x.toNat + y.toNat)).d].toArray rfl rfl hres (by kernel_rfl) (by simp [Value.oneCell']) ?_
    go_wp2
    exact retBel_row rfl rfl (w.heap.size + 2) [V (ofN (x.toNat + y.toNat)).a, V (ofN (x.toNat + y.toNat)).b, V (ofN (x.toNat + y.toNat)).c, V (ofN (x.toNat + y.toNat)).d] _ rfl (World.rangeAt_setCells_same w' _ 0 _ hres) Try.underlying24 rfl (by kernel_rfl) rfl (setCells_bel hbel (by omega))
end Go.Proofs.Ytgcmcodkhcnkmaa
