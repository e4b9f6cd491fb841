/-
  The contract of the laws' own helper one (ways and cells of one operand).
-/
import Derived.Test.YtbmlbjpiodiihaaLawOps
import Derived.Test.YtbmlbjpiodiihaaRegion2
namespace Go.Proofs.Ytbmlbjpiodiihaa
set_option maxRecDepth 20000
open Go.RowKit
set_option linter.unusedVariables false
set_option linter.unusedSimpArgs false
def oneC (x : N4) : C4 := ⟨nulN, x, nulN, nulN⟩
theorem oneC_x (x : N4) : (oneC x).get (ix freshW.x) = x := rfl
theorem results_two_mid {P : Program} {fn : Func} {p q : Tmp} {ty tz : TypeId} (h : fn.results = #[.cell p ty, .cell q tz]) (tmps : Array Value) (w : World) (g k : Nat) (cs ds : List Value) (d e : TypeDesc)
    (hp : tmps.getD p undef = .pointer (some ⟨g, 0, none⟩)) (hc : w.rangeAt g 0 cs) (hu : P.underlying ty = some d) (hd : d.isRow = true) (hi : (P.info? ty).map (·.size) = some cs.length)
    (hq : tmps.getD q undef = .pointer (some ⟨k, 0, none⟩)) (hcq : w.rangeAt k 0 ds) (huq : P.underlying tz = some e) (hdq : e.isRow = true) (hiq : (P.info? tz).map (·.size) = some ds.length) :
    (results fn tmps).run P w = .ok (.tuple #[.agg cs.toArray, .agg ds.toArray]) w := by
  have hp' : tmps[p]?.getD undef = .pointer (some ⟨g, 0, none⟩) := by simpa using hp
  have hq' : tmps[q]?.getD undef = .pointer (some ⟨k, 0, none⟩) := by simpa using hq
  simp [results, h, hp', hq', asAddr, run_loadVar_mid w g 0 ty cs d hc hu hd hi, run_loadVar_mid w k 0 tz ds e hcq huq hdq hiq]
theorem arrayN7 {l : Array Value} (h : l.size = 7) : ∃ x0 x1 x2 x3 x4 x5 x6, l = #[x0, x1, x2, x3, x4, x5, x6] := by
  obtain ⟨l⟩ := l
  have h0 : l.length = 6 + 1 := h
  clear h
  obtain ⟨x0, l1, rfl, h1⟩ := cons_of h0
  obtain ⟨x1, l2, rfl, h2⟩ := cons_of h1
  obtain ⟨x2, l3, rfl, h3⟩ := cons_of h2
  obtain ⟨x3, l4, rfl, h4⟩ := cons_of h3
  obtain ⟨x4, l5, rfl, h5⟩ := cons_of h4
  obtain ⟨x5, l6, rfl, h6⟩ := cons_of h5
  obtain ⟨x6, l7, rfl, h7⟩ := cons_of h6
  cases l7 with
  | nil => exact ⟨x0, x1, x2, x3, x4, x5, x6, rfl⟩
  | cons a t => simp at h7
def wcs : List Value := [.int .i64 0, .int .i64 1, .int .i64 2, .int .i64 3]
def ocs (x : N4) : List Value := [.int .u64 0, .int .u64 0, .int .u64 0, .int .u64 0, V x.a, V x.b, V x.c, V x.d, .int .u64 0, .int .u64 0, .int .u64 0, .int .u64 0, .int .u64 0, .int .u64 0, .int .u64 0, .int .u64 0]
def oneVF (x : N4) (n : Nat) : Nat → Value → World → Prop
  | 0, v, w => v = freshW.v
  | 1, v, w => v = x.v
  | 2, v, w => v = .agg (ocs x).toArray
  | 3, v, w => v = .pointer (some ⟨n + 1, 0, none⟩) ∧ w.rangeAt (n + 1) 0 wcs
  | 4, v, w => v = .pointer (some ⟨n + 2, 0, none⟩) ∧ w.rangeAt (n + 2) 0 (ocs x)
  | _, _, _ => False
theorem oneVF_mono (x : N4) (n : Nat) : ∀ j v w w', Below w.heap.size w w' → oneVF x n j v w → oneVF x n j v w' := by
  intro j v w w' hb h
  match j, h with
  | 0, h | 1, h | 2, h => exact h
  | 3, h => exact ⟨h.1, rangeAt_bel h.2 hb⟩
  | 4, h => exact ⟨h.1, rangeAt_bel h.2 hb⟩
def oneV (x : N4) : Value := .tuple #[freshW.v, (oneC x).v]
set_option maxHeartbeats 1000000 in
theorem one_law (x : N4) (w : World) : Calls Try.prog 32 #[x.v] w (RetBel (oneV x) w) := by
  go_enter Try.func32, Try.ntmps32
  go_wp2
  refine wp_region_all (by kernel_rfl) (GA [4, 5, 6] [] [(w.heap.size + 1, 4), (w.heap.size + 2, 16)] (w.heap.size + 1) _ _) (FV (fun i => [4, 5, 6, 2, 3].getD i 0) (oneVF x w.heap.size)) (all_ord (by kernel_rfl)) (GA.start' (by simp) ?_) ?_ ?_
  · intro p hp
    simp only [List.mem_cons, List.not_mem_nil, or_false] at hp
    rcases hp with rfl | rfl
    · exact ⟨by simp, World.there_alloc (there_at _ _ _ 4 _ (by simp) (by simp)) _⟩
    · exact ⟨by simp, there_at _ _ _ 16 _ (by simp) (by simp)⟩
  · rintro j o ho a' w' hG hpre
    have hj : j < 5 := getElem?_lt ho
    have hb := hG.bel
    have s1 := hG.frame.rest 1 (by decide)
    have s2 := hG.frame.rest 2 (by decide)
    have s3 := hG.frame.rest 3 (by decide)
    have hc := fun o => hb.cell (p := ⟨w.heap.size, o, none⟩) (by simp <;> omega)
    simp [go_sem] at s1 s2 s3 hc
    match j, hj with
    | 0, _ =>
      cases ho
      refine all_val rfl rfl rfl hG (by decide) (by decide) (by simp) rfl (by kernel_rfl) (oneVF_mono _ _) ?_
      refine step_call (f := 18) (args := #[]) (w' := w') ?_ (fresh_any w') ?_
      · simp [execOp, go_sem]
      · rintro e w'' ⟨rfl, hb'⟩
        exact ⟨_, rfl, rfl, hb'⟩
    | 1, _ =>
      cases ho
      refine all_val rfl rfl rfl hG (by decide) (by decide) (by simp) rfl (by kernel_rfl) (oneVF_mono _ _) ?_
      refine step_val (v := x.v) (w' := w') ?_ ⟨rfl, bel_refl _⟩
      simp [execOp, Act.eval, s1, hc, go_sem]
    | 2, _ =>
      cases ho
      refine all_val rfl rfl rfl hG (by decide) (by decide) (by simp) rfl (by kernel_rfl) (oneVF_mono _ _) ?_
      obtain ⟨v0, e0, rfl⟩ := FV.get (d := 5) (hpre ⟨1, .data⟩ (by simp) rfl) rfl
      refine step_val (v := .agg (ocs x).toArray) (w' := w') ?_ ⟨rfl, bel_refl _⟩
      simp [execOp, Act.eval, e0, ocs, go_sem]
    | 3, _ =>
      cases ho
      obtain ⟨v0, e0, rfl⟩ := FV.get (d := 4) (hpre ⟨0, .data⟩ (by simp) rfl) rfl
      have t := (hG.rooms (w.heap.size + 1, 4) (by simp)).2
      refine all_store 23 _ _ rfl (w.heap.size + 1) 0 wcs rfl rfl rfl hG rfl s2 (by simp [Act.eval, s2]) (by simp [Act.eval, e0]; rfl) t (by omega) (by kernel_rfl) (by simp [wcs, Value.oneCell']) ⟨rfl, World.rangeAt_setCells_same w' _ 0 _ t⟩ ?_
      intro i u hij hi hu hv
      match i, hi with
      | 0, _ => exact (show u = freshW.v from hv)
      | 1, _ => exact (show u = x.v from hv)
      | 2, _ => exact (show u = .agg (ocs x).toArray from hv)
      | 3, _ => exact absurd rfl hij
      | 4, _ => exact And.intro hv.1 (rangeAt_far hv.2 (by omega))
      | i + 5, hi => exact absurd hi (by simp)
    | 4, _ =>
      cases ho
      obtain ⟨v0, e0, rfl⟩ := FV.get (d := 6) (hpre ⟨2, .data⟩ (by simp) rfl) rfl
      have t := (hG.rooms (w.heap.size + 2, 16) (by simp)).2
      refine all_store 28 _ _ rfl (w.heap.size + 2) 0 (ocs x) rfl rfl rfl hG rfl s3 (by simp [Act.eval, s3]) (by simp [Act.eval, e0]) t (by omega) (by kernel_rfl) (by simp [ocs, Value.oneCell']) ⟨rfl, World.rangeAt_setCells_same w' _ 0 _ t⟩ ?_
      intro i u hij hi hu hv
      match i, hi with
      | 0, _ => exact (show u = freshW.v from hv)
      | 1, _ => exact (show u = x.v from hv)
      | 2, _ => exact (show u = .agg (ocs x).toArray from hv)
      | 3, _ => exact And.intro hv.1 (rangeAt_far hv.2 (by omega))
      | 4, _ => exact absurd rfl hij
      | i + 5, hi => exact absurd hi (by simp)
    | n + 5, hj => exact absurd hj (by simp)
  · intro a' w' hG hF
    obtain ⟨_, e3, rfl, r3⟩ := FV.get (d := 2) (hF 3 (by decide)) rfl
    obtain ⟨_, e4, rfl, r4⟩ := FV.get (d := 3) (hF 4 (by decide)) rfl
    have hsz := hG.frame.size
    have hdf := hG.frame.defers
    have hbel : Below w.heap.size w w' := (bel_alloc (bel_alloc (bel_alloc (bel_refl w) _) _) _).trans (hG.bel.mono (by omega))
    clear hF hG
    obtain ⟨tm, df⟩ := a'
    obtain ⟨x0, x1, x2, x3, x4, x5, x6, rfl⟩ := arrayN7 hsz
    simp [go_sem] at e3 e4 hdf
    subst e3 e4 hdf
    go_wp2
    exact bodyPost_ret (v := oneV x) (results_two_mid rfl _ _ (w.heap.size + 1) (w.heap.size + 2) wcs (ocs x) _ _ rfl r3 Try.underlying23 rfl (by kernel_rfl) rfl r4 Try.underlying28 rfl (by kernel_rfl)) rfl (retBel rfl hbel)
end Go.Proofs.Ytbmlbjpiodiihaa
