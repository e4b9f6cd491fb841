/-
  Contracts of the laws' own helpers: fresh; add, sub, mul, exp (a call of the thin package with a receiver of its own).
-/
import Derived.Test.YtpjljjajnfoccaaDesk4
import Derived.Test.YtpjljjajnfoccaaSpec0
namespace Go.Proofs.Ytpjljjajnfoccaa
set_option maxRecDepth 20000
open Go.RowKit
set_option linter.unusedVariables false
theorem array12 {l : Array Value} (h : l.size = 12) : ∃ x0 x1 x2 x3 x4 x5 x6 x7 x8 x9 x10 x11, l = #[x0, x1, x2, x3, x4, x5, x6, x7, x8, x9, x10, x11] := by
  obtain ⟨l⟩ := l
  have h0 : l.length = 11 + 1 := h
  clear h
  obtain ⟨x0, l1, rfl, h1⟩ := cons_of h0
  obtain ⟨x1, l2, rfl, h2⟩ := cons_of h1
  obtain ⟨x2, l3, rfl, h3⟩ := cons_of h2
  obtain ⟨x3, l4, rfl, h4⟩ := cons_of h3
  obtain ⟨x4, l5, rfl, h5⟩ := cons_of h4
  obtain ⟨x5, l6, rfl, h6⟩ := cons_of h5
  obtain ⟨x6, l7, rfl, h7⟩ := cons_of h6
  obtain ⟨x7, l8, rfl, h8⟩ := cons_of h7
  obtain ⟨x8, l9, rfl, h9⟩ := cons_of h8
  obtain ⟨x9, l10, rfl, h10⟩ := cons_of h9
  obtain ⟨x10, l11, rfl, h11⟩ := cons_of h10
  obtain ⟨x11, l12, rfl, h12⟩ := cons_of h11
  cases l12 with
  | nil => exact ⟨x0, x1, x2, x3, x4, x5, x6, x7, x8, x9, x10, x11, rfl⟩
  | cons a t => simp at h12
def freshW : W4 := ⟨0, 1, 2, 3⟩
def nulN : N4 := ⟨0#64, 0#64, 0#64, 0#64⟩
theorem freshW_ok : freshW.ok := by unfold W4.ok freshW I64; decide
theorem fldAns (c : C4) (f : Bool) (w : World) : (Instr.field 31 (ansV c f) 0).run Try.prog w = .ok c.v w := by kernel_rfl
theorem fldFlag (c : C4) (f : Bool) (w : World) : (Instr.field 31 (ansV c f) 1).run Try.prog w = .ok (.bool f) w := by kernel_rfl
theorem fldA (c : C4) (w : World) : (Instr.field 28 c.v 0).run Try.prog w = .ok c.a.v w := by kernel_rfl
theorem fldD (c : C4) (w : World) : (Instr.field 28 c.v 3).run Try.prog w = .ok c.d.v w := by kernel_rfl
def xyC (x y : N4) : C4 := ⟨nulN, x, y, nulN⟩
theorem xyC_x (x y : N4) : (xyC x y).get (ix freshW.x) = x := rfl
theorem xyC_y (x y : N4) : (xyC x y).get (ix freshW.y) = y := rfl
set_option maxHeartbeats 400000 in
theorem fresh_any (w : World) : Calls Try.prog 13 #[] w (RetBel freshW.v w) := by
  go_enter Try.func13, Try.ntmps13
  go_wp2
  refine bodyPost_ret (v := freshW.v) (by simp [results, Try.results13, go_sem]; exact ⟨rfl, rfl, rfl, rfl⟩) rfl (retBel rfl ?_)
  exact bel_alloc (bel_refl _) _

def addVF (x y : N4) : Nat → Value → World → Prop
  | 0, v, _ => v = freshW.v
  | 1, v, _ => v = x.v
  | 2, v, _ => v = y.v
  | 3, v, _ => v = .agg #[.int .u64 0, .int .u64 0, .int .u64 0, .int .u64 0, V x.a, V x.b, V x.c, V x.d, V y.a, V y.b, V y.c, V y.d, .int .u64 0, .int .u64 0, .int .u64 0, .int .u64 0]
  | 4, v, _ => v = ansV ((xyC x y).put (ix freshW.z) (x.add y)) false
  | 5, v, _ => v = ((xyC x y).put (ix freshW.z) (x.add y)).v
  | 6, v, _ => v = N4.v (x.add y)
  | _, _, _ => False
theorem addVF_mono (x y : N4) : ∀ j v w w', Below w.heap.size w w' → addVF x y j v w → addVF x y j v w' := by
  intro j v w w' hb h
  match j, h with
  | 0, h | 1, h | 2, h | 3, h | 4, h | 5, h | 6, h => exact h
set_option maxHeartbeats 1000000 in
theorem add_law (x y : N4) (w : World) : Calls Try.prog 16 #[x.v, y.v] w (RetBel (N4.v (x.add y)) w) := by
  go_enter Try.func16, Try.ntmps16
  go_wp2
  refine wp_region_grow (by kernel_rfl) [5, 6, 7, 8, 9, 10, 11] (addVF x y) rfl (by decide) (grow_dst rfl) (grow_ord (by kernel_rfl)) (grow_in 12 rfl (by decide)) (addVF_mono _ _) ?_ (grow_all (by kernel_rfl)) ?_
  · intro j o hj ho a' w' hf hb hpre
    have s2 := hf.rest 2 (by decide)
    have s3 := hf.rest 3 (by decide)
    have hc := fun o => hb.cell (p := ⟨w.heap.size, o, none⟩) (by simp; omega)
    have hd := fun o => hb.cell (p := ⟨w.heap.size + 1, o, none⟩) (by simp)
    simp [go_sem] at s2 s3 hc hd
    match j, hj with
    | 0, _ =>
      cases ho
      refine step_call (f := 13) (args := #[]) (w' := w') ?_ (fresh_any w') ?_
      · simp [execOp, go_sem]
      · rintro e w'' ⟨rfl, hb'⟩
        exact ⟨_, rfl, rfl, hb'⟩
    | 1, _ =>
      cases ho
      refine step_val (v := x.v) (w' := w') ?_ ⟨rfl, bel_refl _⟩
      simp [execOp, Act.eval, s2, hc, go_sem]
    | 2, _ =>
      cases ho
      refine step_val (v := y.v) (w' := w') ?_ ⟨rfl, bel_refl _⟩
      simp [execOp, Act.eval, s3, hd, go_sem]
    | 3, _ =>
      cases ho
      obtain ⟨v, e1, rfl⟩ := hpre ⟨1, .data⟩ (by simp) rfl 6 rfl
      obtain ⟨v, e2, rfl⟩ := hpre ⟨2, .data⟩ (by simp) rfl 7 rfl
      refine step_val (v := .agg #[.int .u64 0, .int .u64 0, .int .u64 0, .int .u64 0, V x.a, V x.b, V x.c, V x.d, V y.a, V y.b, V y.c, V y.d, .int .u64 0, .int .u64 0, .int .u64 0, .int .u64 0]) (w' := w') ?_ ⟨rfl, bel_refl _⟩
      simp [execOp, Act.eval, e1, e2, go_sem]
    | 4, _ =>
      cases ho
      obtain ⟨v, e1, rfl⟩ := hpre ⟨0, .data⟩ (by simp) rfl 5 rfl
      obtain ⟨v, e2, rfl⟩ := hpre ⟨3, .data⟩ (by simp) rfl 8 rfl
      refine step_call (f := 30) (args := #[freshW.v, .agg #[.int .u64 0, .int .u64 0, .int .u64 0, .int .u64 0, V x.a, V x.b, V x.c, V x.d, V y.a, V y.b, V y.c, V y.d, .int .u64 0, .int .u64 0, .int .u64 0, .int .u64 0]]) (w' := w') ?_ (implAdd_any freshW (xyC x y) w' freshW_ok) ?_
      · simp [execOp, Act.eval, e1, e2, go_sem]
      · rintro e w'' ⟨rfl, hb'⟩
        exact ⟨_, rfl, rfl, hb'⟩
    | 5, _ =>
      cases ho
      obtain ⟨v, e1, rfl⟩ := hpre ⟨4, .data⟩ (by simp) rfl 9 rfl
      refine step_val (v := ((xyC x y).put (ix freshW.z) (x.add y)).v) (w' := w') ?_ ⟨rfl, bel_refl _⟩
      simp [execOp, Act.eval, e1, fldAns, go_sem]
    | 6, _ =>
      cases ho
      obtain ⟨v, e1, rfl⟩ := hpre ⟨5, .data⟩ (by simp) rfl 10 rfl
      refine step_val (v := N4.v (x.add y)) (w' := w') ?_ ⟨rfl, bel_refl _⟩
      simp [execOp, Act.eval, e1, fldA, go_sem] <;> first | rfl | exact ⟨rfl, rfl, rfl, rfl⟩
    | n + 7, hj => exact absurd hj (by simp)
  · intro o ho a' w' hf hb hv
    cases ho
    obtain ⟨v11, e11, rfl⟩ := hv 6 11 rfl
    have s4 := hf.rest 4 (by decide)
    have hsz := hf.size
    have hdf := hf.defers
    have hres : w'.there (w.heap.size + 2) 0 4 := there_bel (there_at _ _ _ _ _ (Nat.le_refl _) (by simp)) (by omega) hb
    have hbel : Below w.heap.size w w' := bel_trans (bel_alloc (bel_alloc (bel_alloc (bel_refl w) _) _) _) hb
    clear hv hf hb
    obtain ⟨tm, df⟩ := a'
    obtain ⟨x0, x1, x2, x3, x4, x5, x6, x7, x8, x9, x10, x11, rfl⟩ := array12 hsz
    simp [go_sem] at e11 s4 hdf
    subst e11 s4 hdf
    clear hsz
    refine wp_store_mid 26 _ _ rfl (w.heap.size + 2) 0 [V (x.add y).a, V (x.add y).b, V (x.add y).c, V (x.add y).d].toArray rfl rfl hres (by kernel_rfl) (by simp [Value.oneCell']) ?_
    go_wp2
    exact retBel_row rfl rfl (w.heap.size + 2) [V (x.add y).a, V (x.add y).b, V (x.add y).c, V (x.add y).d] _ rfl (World.rangeAt_setCells_same w' _ 0 _ hres) Try.underlying26 rfl (by kernel_rfl) rfl (setCells_bel hbel (by omega))

end Go.Proofs.Ytpjljjajnfoccaa
