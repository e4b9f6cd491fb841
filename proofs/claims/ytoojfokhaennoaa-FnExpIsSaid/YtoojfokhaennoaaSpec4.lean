/-
  The reference's Mul, Lsh, Rsh, SRsh, by worth.
-/
import Derived.Test.YtoojfokhaennoaaDig7
import Derived.Test.YtoojfokhaennoaaSpec3
namespace Go.Proofs.Ytoojfokhaennoaa
set_option maxRecDepth 20000
open Go.RowKit
set_option linter.unusedVariables false
set_option linter.unusedSimpArgs false
theorem arrayN11 {l : Array Value} (h : l.size = 11) : ∃ x0 x1 x2 x3 x4 x5 x6 x7 x8 x9 x10, l = #[x0, x1, x2, x3, x4, x5, x6, x7, x8, x9, x10] := by
  obtain ⟨l⟩ := l
  have h0 : l.length = 10 + 1 := h
  clear h
  obtain ⟨x0, l1, rfl, h1⟩ := cons_of h0
  obtain ⟨x1, l2, rfl, h2⟩ := cons_of h1
  obtain ⟨x2, l3, rfl, h3⟩ := cons_of h2
  obtain ⟨x3, l4, rfl, h4⟩ := cons_of h3
  obtain ⟨x4, l5, rfl, h5⟩ := cons_of h4
  obtain ⟨x5, l6, rfl, h6⟩ := cons_of h5
  obtain ⟨x6, l7, rfl, h7⟩ := cons_of h6
  obtain ⟨x7, l8, rfl, h8⟩ := cons_of h7
  obtain ⟨x8, l9, rfl, h9⟩ := cons_of h8
  obtain ⟨x9, l10, rfl, h10⟩ := cons_of h9
  obtain ⟨x10, l11, rfl, h11⟩ := cons_of h10
  cases l11 with
  | nil => exact ⟨x0, x1, x2, x3, x4, x5, x6, x7, x8, x9, x10, rfl⟩
  | cons a t => simp at h11
def specMul_anyVF (x : N4) (y : N4) : Nat → Value → World → Prop
  | 0, v, w => v = x.v
  | 1, v, w => Dg w v (x.toNat) (16)
  | 2, v, w => v = y.v
  | 3, v, w => Dg w v (y.toNat) (16)
  | 4, v, w => Dg w v (x.toNat * (y.toNat)) (16 + (16) + 1)
  | 5, v, w => v = N4.v (ofN (x.toNat * (y.toNat)))
  | _, _, _ => False
theorem specMul_anyVF_mono (x : N4) (y : N4) : ∀ j v w w', Below w.heap.size w w' → specMul_anyVF x y j v w → specMul_anyVF x y j v w' := by
  intro j v w w' hb h
  match j, h with
  | 0, h => exact h
  | 1, h => exact h.bel hb
  | 2, h => exact h
  | 3, h => exact h.bel hb
  | 4, h => exact h.bel hb
  | 5, h => exact h
set_option maxHeartbeats 1000000 in
theorem specMul_any (x : N4) (y : N4) (w : World) : Calls Try.prog 53 #[x.v, y.v] w (RetBel (N4.v (ofN (x.toNat * (y.toNat)))) w) := by
  go_enter Try.func53, Try.ntmps53
  go_wp2
  refine wp_region_grow (by kernel_rfl) [5, 6, 7, 8, 9, 10] (specMul_anyVF x y) rfl (by decide) (grow_dst rfl) (grow_ord (by kernel_rfl)) (grow_in 11 rfl (by decide)) (specMul_anyVF_mono _ _) ?_ (grow_all (by kernel_rfl)) ?_
  · intro j o hj ho a' w' hf hb hpre
    have s0 := hf.rest 2 (by decide)
    have hc0 := fun o => hb.cell (p := ⟨w.heap.size, o, none⟩) (by simp <;> omega)
    have s1 := hf.rest 3 (by decide)
    have hc1 := fun o => hb.cell (p := ⟨w.heap.size + 1, o, none⟩) (by simp <;> omega)
    simp [go_sem] at s0 hc0 s1 hc1
    match j, hj with
    | 0, _ =>
      cases ho
      refine step_val (v := x.v) (w' := w') ?_ ⟨rfl, bel_refl _⟩
      simp [execOp, Act.eval, s0, hc0, go_sem]
    | 1, _ =>
      cases ho
      obtain ⟨v0, e0, rfl⟩ := hpre ⟨0, .data⟩ (by simp) rfl 5 rfl
      refine step_call (f := 55) (args := #[x.v]) (w' := w') ?_ (whole_dg x w') ?_
      · simp [execOp, Act.eval, e0, go_sem]
      · rintro e w'' ⟨v, rfl, hd, hb2⟩
        exact ⟨_, rfl, hd, hb2⟩
    | 2, _ =>
      cases ho
      refine step_val (v := y.v) (w' := w') ?_ ⟨rfl, bel_refl _⟩
      simp [execOp, Act.eval, s1, hc1, go_sem]
    | 3, _ =>
      cases ho
      obtain ⟨v0, e0, rfl⟩ := hpre ⟨2, .data⟩ (by simp) rfl 7 rfl
      refine step_call (f := 55) (args := #[y.v]) (w' := w') ?_ (whole_dg y w') ?_
      · simp [execOp, Act.eval, e0, go_sem]
      · rintro e w'' ⟨v, rfl, hd, hb2⟩
        exact ⟨_, rfl, hd, hb2⟩
    | 4, _ =>
      cases ho
      obtain ⟨v0, e0, h0⟩ := hpre ⟨1, .data⟩ (by simp) rfl 6 rfl
      obtain ⟨v1, e1, h1⟩ := hpre ⟨3, .data⟩ (by simp) rfl 8 rfl
      refine step_call (f := 69) (args := #[v0, v1]) (w' := w') ?_ (times_dg _ _ _ _ _ _ w' h0 h1 (by omega) (by omega)) ?_
      · simp [execOp, Act.eval, e0, e1, go_sem]
      · rintro e w'' ⟨v, rfl, hd, hb2⟩
        exact ⟨_, rfl, hd, hb2⟩
    | 5, _ =>
      cases ho
      obtain ⟨v0, e0, h0⟩ := hpre ⟨4, .data⟩ (by simp) rfl 9 rfl
      refine step_call (f := 62) (args := #[v0]) (w' := w') ?_ (cut_dg _ _ _ w' h0 (by omega)) ?_
      · simp [execOp, Act.eval, e0, go_sem]
      · rintro e w'' ⟨rfl, hb2⟩
        exact ⟨_, rfl, rfl, hb2⟩
    | n + 6, hj => exact absurd hj (by simp)
  · intro o ho a' w' hf hb hv
    cases ho
    obtain ⟨vr, er, rfl⟩ := hv 5 10 rfl
    have sr := hf.rest 4 (by decide)
    have hsz := hf.size
    have hdf := hf.defers
    have hres : w'.there (w.heap.size + 2) 0 4 := there_bel (there_at _ _ _ _ _ (Nat.le_refl _) (by simp)) (by omega) hb
    have hbel : Below w.heap.size w w' := bel_trans (bel_alloc (bel_alloc (bel_alloc (bel_refl w) _) _) _) hb
    clear hv hf hb
    obtain ⟨tm, df⟩ := a'
    obtain ⟨x0, x1, x2, x3, x4, x5, x6, x7, x8, x9, x10, rfl⟩ := arrayN11 hsz
    simp [go_sem] at er sr hdf
    subst er sr hdf
    clear hsz
    refine wp_store_mid 26 _ _ rfl (w.heap.size + 2) 0 [V (ofN (x.toNat * (y.toNat))).a, V (ofN (x.toNat * (y.toNat))).b, V (ofN (x.toNat * (y.toNat))).c, V (ofN (x.toNat * (y.toNat))).d].toArray rfl rfl hres (by kernel_rfl) (by simp [Value.oneCell']) ?_
    go_wp2
    exact retBel_row rfl rfl (w.heap.size + 2) [V (ofN (x.toNat * (y.toNat))).a, V (ofN (x.toNat * (y.toNat))).b, V (ofN (x.toNat * (y.toNat))).c, V (ofN (x.toNat * (y.toNat))).d] _ rfl (World.rangeAt_setCells_same w' _ 0 _ hres) Try.underlying26 rfl (by kernel_rfl) rfl (setCells_bel hbel (by omega))
/-- A shift to the left, as the reference says it. -/
def lshN (x : N4) (n : Int) : N4 := if n < 0 ∨ 255 < n then ⟨0#64, 0#64, 0#64, 0#64⟩ else ofN (x.toNat * 2 ^ n.toNat)
def rshN (x : N4) (n : Int) : N4 := if n < 0 ∨ 255 < n then ⟨0#64, 0#64, 0#64, 0#64⟩ else ofN (x.toNat / 2 ^ n.toNat)
def srshN (x : N4) (n : Int) : N4 := if x.neg then (rshN x.not n).not else rshN x n
theorem Dg.mul_pow {w : World} {v : Value} {a b c L : Nat} (h : Dg w v (a * b) L) (e : b = c) : Dg w v (a * c) L := e ▸ h
end Go.Proofs.Ytoojfokhaennoaa
