/-
  The contract of the desk's answer: the sixteen words and the flag, by value.
-/
import Derived.Test.YtpjljjajnfoccaaDesk2
namespace Go.Proofs.Ytpjljjajnfoccaa
set_option maxRecDepth 20000
open Go.RowKit
/-- An answer by value. -/
abbrev ansV (k : C4) (f : Bool) : Value := .agg #[V k.a.a, V k.a.b, V k.a.c, V k.a.d, V k.b.a, V k.b.b, V k.b.c, V k.b.d, V k.c.a, V k.c.b, V k.c.c, V k.c.d, V k.d.a, V k.d.b, V k.d.c, V k.d.d, .bool f]
def zeroN : N4 := ⟨0#64, 0#64, 0#64, 0#64⟩
def zeroC : C4 := ⟨zeroN, zeroN, zeroN, zeroN⟩
abbrev C4.l (k : C4) : List Value := [V k.a.a, V k.a.b, V k.a.c, V k.a.d, V k.b.a, V k.b.b, V k.b.c, V k.b.d, V k.c.a, V k.c.b, V k.c.c, V k.c.d, V k.d.a, V k.d.b, V k.d.c, V k.d.d]
theorem there_bel {w w' : World} {b o n : Nat} (h : w.there b o n) (hn : 0 < n) (k : Below w.heap.size w w') : w'.there b o n := fun j hj => by
  have h0 := (h 0 hn).1
  obtain ⟨v0, hv0⟩ := Option.isSome_iff_exists.1 h0
  have hlt := World.block_lt_of_cell? w _ hv0
  rw [k.cell (p := ⟨b, o + j, none⟩) hlt, k.frozen (p := ⟨b, o + j, none⟩) hlt]
  exact h j hj
theorem there_new (w : World) (t : TypeId) (cs : Array Value) (n : Nat) (hn : n ≤ cs.size) : (w.alloc (.cells cs t)).there w.heap.size 0 n := fun j hj => by
  constructor
  · simp [go_sem]; omega
  · simp [go_sem]
theorem setCells_bel {a w : World} {B o : Nat} {vs : List Value} (h : Below a.heap.size a w) (hb : a.heap.size ≤ B) : Below a.heap.size a (w.setCells B o vs) := by
  induction vs generalizing o w with
  | nil => exact h
  | cons v vs ih => exact ih (h.setCell (p := ⟨B, o, none⟩) hb v)
theorem results_cell_mid {P : Program} {fn : Func} {p : Tmp} {ty : TypeId} (h : fn.results = #[.cell p ty]) (tmps : Array Value) (w : World) (g : Nat) (cs : List Value) (d : TypeDesc)
    (hp : tmps.getD p undef = .pointer (some ⟨g, 0, none⟩)) (hc : w.rangeAt g 0 cs) (hu : P.underlying ty = some d) (hd : d.isRow = true) (hi : (P.info? ty).map (·.size) = some cs.length) :
    (results fn tmps).run P w = .ok (.agg cs.toArray) w := by
  have hp' : tmps[p]?.getD undef = .pointer (some ⟨g, 0, none⟩) := by simpa using hp
  simp [results, h, hp', asAddr, run_loadVar_mid w g 0 ty cs d hc hu hd hi]
theorem array38 {l : Array Value} (h : l.size = 38) : ∃ x0 x1 x2 x3 x4 x5 x6 x7 x8 x9 x10 x11 x12 x13 x14 x15 x16 x17 x18 x19 x20 x21 x22 x23 x24 x25 x26 x27 x28 x29 x30 x31 x32 x33 x34 x35 x36 x37, l = #[x0, x1, x2, x3, x4, x5, x6, x7, x8, x9, x10, x11, x12, x13, x14, x15, x16, x17, x18, x19, x20, x21, x22, x23, x24, x25, x26, x27, x28, x29, x30, x31, x32, x33, x34, x35, x36, x37] := by
  obtain ⟨l⟩ := l
  have h0 : l.length = 37 + 1 := h
  clear h
  obtain ⟨x0, l1, rfl, h1⟩ := cons_of h0
  obtain ⟨x1, l2, rfl, h2⟩ := cons_of h1
  obtain ⟨x2, l3, rfl, h3⟩ := cons_of h2
  obtain ⟨x3, l4, rfl, h4⟩ := cons_of h3
  obtain ⟨x4, l5, rfl, h5⟩ := cons_of h4
  obtain ⟨x5, l6, rfl, h6⟩ := cons_of h5
  obtain ⟨x6, l7, rfl, h7⟩ := cons_of h6
  obtain ⟨x7, l8, rfl, h8⟩ := cons_of h7
  obtain ⟨x8, l9, rfl, h9⟩ := cons_of h8
  obtain ⟨x9, l10, rfl, h10⟩ := cons_of h9
  obtain ⟨x10, l11, rfl, h11⟩ := cons_of h10
  obtain ⟨x11, l12, rfl, h12⟩ := cons_of h11
  obtain ⟨x12, l13, rfl, h13⟩ := cons_of h12
  obtain ⟨x13, l14, rfl, h14⟩ := cons_of h13
  obtain ⟨x14, l15, rfl, h15⟩ := cons_of h14
  obtain ⟨x15, l16, rfl, h16⟩ := cons_of h15
  obtain ⟨x16, l17, rfl, h17⟩ := cons_of h16
  obtain ⟨x17, l18, rfl, h18⟩ := cons_of h17
  obtain ⟨x18, l19, rfl, h19⟩ := cons_of h18
  obtain ⟨x19, l20, rfl, h20⟩ := cons_of h19
  obtain ⟨x20, l21, rfl, h21⟩ := cons_of h20
  obtain ⟨x21, l22, rfl, h22⟩ := cons_of h21
  obtain ⟨x22, l23, rfl, h23⟩ := cons_of h22
  obtain ⟨x23, l24, rfl, h24⟩ := cons_of h23
  obtain ⟨x24, l25, rfl, h25⟩ := cons_of h24
  obtain ⟨x25, l26, rfl, h26⟩ := cons_of h25
  obtain ⟨x26, l27, rfl, h27⟩ := cons_of h26
  obtain ⟨x27, l28, rfl, h28⟩ := cons_of h27
  obtain ⟨x28, l29, rfl, h29⟩ := cons_of h28
  obtain ⟨x29, l30, rfl, h30⟩ := cons_of h29
  obtain ⟨x30, l31, rfl, h31⟩ := cons_of h30
  obtain ⟨x31, l32, rfl, h32⟩ := cons_of h31
  obtain ⟨x32, l33, rfl, h33⟩ := cons_of h32
  obtain ⟨x33, l34, rfl, h34⟩ := cons_of h33
  obtain ⟨x34, l35, rfl, h35⟩ := cons_of h34
  obtain ⟨x35, l36, rfl, h36⟩ := cons_of h35
  obtain ⟨x36, l37, rfl, h37⟩ := cons_of h36
  obtain ⟨x37, l38, rfl, h38⟩ := cons_of h37
  cases l38 with
  | nil => exact ⟨x0, x1, x2, x3, x4, x5, x6, x7, x8, x9, x10, x11, x12, x13, x14, x15, x16, x17, x18, x19, x20, x21, x22, x23, x24, x25, x26, x27, x28, x29, x30, x31, x32, x33, x34, x35, x36, x37, rfl⟩
  | cons a t => simp at h38
def ansVF (N d bc : Nat) (c : C4) : Nat → Value → World → Prop
  | 0, v, _ => v = .pointer (some ⟨d, 0, none⟩)
  | 1, v, _ => v = .pointer (some ⟨d, 0, none⟩)
  | 2, v, _ => v = .pointer (some ⟨d, 0, none⟩)
  | 3, v, _ => v = .pointer (some ⟨bc, 0, none⟩)
  | 4, v, _ => v = .pointer (some ⟨bc, 0, none⟩)
  | 5, v, _ => v = .pointer (some ⟨bc, 0, none⟩)
  | 6, v, _ => v = c.a.v
  | 7, v, _ => v = .pointer (some ⟨d, 0, none⟩)
  | 8, v, _ => v = .pointer (some ⟨d, 0, none⟩)
  | 9, v, _ => v = .pointer (some ⟨d, 0, none⟩)
  | 10, v, _ => v = .pointer (some ⟨bc, 0, none⟩)
  | 11, v, _ => v = .pointer (some ⟨bc, 0, none⟩)
  | 12, v, _ => v = .pointer (some ⟨bc, 4, none⟩)
  | 13, v, _ => v = c.b.v
  | 14, v, _ => v = .pointer (some ⟨d, 0, none⟩)
  | 15, v, _ => v = .pointer (some ⟨d, 0, none⟩)
  | 16, v, _ => v = .pointer (some ⟨d, 0, none⟩)
  | 17, v, _ => v = .pointer (some ⟨bc, 0, none⟩)
  | 18, v, _ => v = .pointer (some ⟨bc, 0, none⟩)
  | 19, v, _ => v = .pointer (some ⟨bc, 8, none⟩)
  | 20, v, _ => v = c.c.v
  | 21, v, _ => v = .pointer (some ⟨d, 0, none⟩)
  | 22, v, _ => v = .pointer (some ⟨d, 0, none⟩)
  | 23, v, _ => v = .pointer (some ⟨d, 0, none⟩)
  | 24, v, _ => v = .pointer (some ⟨bc, 0, none⟩)
  | 25, v, _ => v = .pointer (some ⟨bc, 0, none⟩)
  | 26, v, _ => v = .pointer (some ⟨bc, 12, none⟩)
  | 27, v, _ => v = c.d.v
  | 28, v, _ => v = c.v
  | 29, v, w => ∃ B, v = .pointer (some ⟨B, 0, none⟩) ∧ N ≤ B ∧ w.there B 0 16
  | _, _, _ => False
theorem ansVF_mono (N d bc : Nat) (c : C4) : ∀ j v w w', Below w.heap.size w w' → ansVF N d bc c j v w → ansVF N d bc c j v w' := by
  intro j v w w' hb h
  match j, h with
  | 0, h | 1, h | 2, h | 3, h | 4, h | 5, h | 6, h | 7, h | 8, h | 9, h | 10, h | 11, h | 12, h | 13, h | 14, h | 15, h | 16, h | 17, h | 18, h | 19, h | 20, h | 21, h | 22, h | 23, h | 24, h | 25, h | 26, h | 27, h | 28, h => exact h
  | 29, ⟨B, e, hN, h⟩ => exact ⟨B, e, hN, there_bel h (by omega) hb⟩
set_option maxHeartbeats 1000000 in
theorem answer_any (d bc : Nat) (k : W4) (c : C4) (f : Bool) (w : World) (hd : Desk w d bc k c) : Calls Try.prog 21 #[.pointer (some ⟨d, 0, none⟩), .bool f] w (RetBel (ansV c f) w) := by
  go_enter Try.func21, Try.ntmps21
  go_wp2
  refine wp_region_grow (by kernel_rfl) [6, 7, 8, 9, 10, 11, 12, 13, 14, 15, 16, 17, 18, 19, 20, 21, 22, 23, 24, 25, 26, 27, 28, 29, 30, 31, 32, 33, 34, 5] (ansVF (w.heap.size + 1) d bc c) rfl (by decide) (grow_dst rfl) (grow_ord (by kernel_rfl)) (grow_in 38 rfl (by decide)) (ansVF_mono _ _ _ _) ?_ (grow_all (by kernel_rfl)) ?_
  · intro j o hj ho a' w' hf hb hpre
    have s0 := hf.rest 0 (by decide)
    have hbel : Below w.heap.size w w' := bel_trans (bel_alloc (bel_refl w) _) hb
    have p0 := bel_cell hbel hd.ptrs.p0
    have hc := hd.cells.bel hbel
    simp at s0
    match j, hj with
    | 0, _ =>
      cases ho
      refine step_val (v := .pointer (some ⟨d, 0, none⟩)) (w' := w') ?_ ⟨rfl, bel_refl _⟩
      simp [execOp, Act.eval, s0, go_sem]
    | 1, _ =>
      cases ho
      obtain ⟨v, e1, rfl⟩ := hpre ⟨0, .data⟩ (by simp) rfl 6 rfl
      refine step_val (v := .pointer (some ⟨d, 0, none⟩)) (w' := w') ?_ ⟨rfl, bel_refl _⟩
      simp [execOp, Act.eval, e1, go_sem]
    | 2, _ =>
      cases ho
      obtain ⟨v, e1, rfl⟩ := hpre ⟨1, .data⟩ (by simp) rfl 7 rfl
      refine step_val (v := .pointer (some ⟨d, 0, none⟩)) (w' := w') ?_ ⟨rfl, bel_refl _⟩
      simp [execOp, Act.eval, e1, go_sem]
    | 3, _ =>
      cases ho
      obtain ⟨v, e1, rfl⟩ := hpre ⟨2, .data⟩ (by simp) rfl 8 rfl
      refine step_val (v := .pointer (some ⟨bc, 0, none⟩)) (w' := w') ?_ ⟨rfl, bel_refl _⟩
      simp [execOp, Act.eval, e1, p0, go_sem]
    | 4, _ =>
      cases ho
      obtain ⟨v, e1, rfl⟩ := hpre ⟨3, .data⟩ (by simp) rfl 9 rfl
      refine step_val (v := .pointer (some ⟨bc, 0, none⟩)) (w' := w') ?_ ⟨rfl, bel_refl _⟩
      simp [execOp, Act.eval, e1, go_sem]
    | 5, _ =>
      cases ho
      obtain ⟨v, e1, rfl⟩ := hpre ⟨4, .data⟩ (by simp) rfl 10 rfl
      refine step_val (v := .pointer (some ⟨bc, 0, none⟩)) (w' := w') ?_ ⟨rfl, bel_refl _⟩
      simp [execOp, Act.eval, e1, go_sem]
    | 6, _ =>
      cases ho
      obtain ⟨v, e1, rfl⟩ := hpre ⟨5, .data⟩ (by simp) rfl 11 rfl
      refine step_call (f := 46) (args := #[.pointer (some ⟨bc, 0, none⟩)]) (w' := w') ?_ (numOf_any bc 0 c.a w' hc.ca) ?_
      · simp [execOp, Act.eval, e1, go_sem]
      · rintro e w'' ⟨rfl, hb'⟩
        exact ⟨_, rfl, rfl, hb'⟩
    | 7, _ =>
      cases ho
      refine step_val (v := .pointer (some ⟨d, 0, none⟩)) (w' := w') ?_ ⟨rfl, bel_refl _⟩
      simp [execOp, Act.eval, s0, go_sem]
    | 8, _ =>
      cases ho
      obtain ⟨v, e1, rfl⟩ := hpre ⟨7, .data⟩ (by simp) rfl 13 rfl
      refine step_val (v := .pointer (some ⟨d, 0, none⟩)) (w' := w') ?_ ⟨rfl, bel_refl _⟩
      simp [execOp, Act.eval, e1, go_sem]
    | 9, _ =>
      cases ho
      obtain ⟨v, e1, rfl⟩ := hpre ⟨8, .data⟩ (by simp) rfl 14 rfl
      refine step_val (v := .pointer (some ⟨d, 0, none⟩)) (w' := w') ?_ ⟨rfl, bel_refl _⟩
      simp [execOp, Act.eval, e1, go_sem]
    | 10, _ =>
      cases ho
      obtain ⟨v, e1, rfl⟩ := hpre ⟨9, .data⟩ (by simp) rfl 15 rfl
      refine step_val (v := .pointer (some ⟨bc, 0, none⟩)) (w' := w') ?_ ⟨rfl, bel_refl _⟩
      simp [execOp, Act.eval, e1, p0, go_sem]
    | 11, _ =>
      cases ho
      obtain ⟨v, e1, rfl⟩ := hpre ⟨10, .data⟩ (by simp) rfl 16 rfl
      refine step_val (v := .pointer (some ⟨bc, 0, none⟩)) (w' := w') ?_ ⟨rfl, bel_refl _⟩
      simp [execOp, Act.eval, e1, go_sem]
    | 12, _ =>
      cases ho
      obtain ⟨v, e1, rfl⟩ := hpre ⟨11, .data⟩ (by simp) rfl 17 rfl
      refine step_val (v := .pointer (some ⟨bc, 4, none⟩)) (w' := w') ?_ ⟨rfl, bel_refl _⟩
      simp [execOp, Act.eval, e1, go_sem]
    | 13, _ =>
      cases ho
      obtain ⟨v, e1, rfl⟩ := hpre ⟨12, .data⟩ (by simp) rfl 18 rfl
      refine step_call (f := 46) (args := #[.pointer (some ⟨bc, 4, none⟩)]) (w' := w') ?_ (numOf_any bc 4 c.b w' hc.cb) ?_
      · simp [execOp, Act.eval, e1, go_sem]
      · rintro e w'' ⟨rfl, hb'⟩
        exact ⟨_, rfl, rfl, hb'⟩
    | 14, _ =>
      cases ho
      refine step_val (v := .pointer (some ⟨d, 0, none⟩)) (w' := w') ?_ ⟨rfl, bel_refl _⟩
      simp [execOp, Act.eval, s0, go_sem]
    | 15, _ =>
      cases ho
      obtain ⟨v, e1, rfl⟩ := hpre ⟨14, .data⟩ (by simp) rfl 20 rfl
      refine step_val (v := .pointer (some ⟨d, 0, none⟩)) (w' := w') ?_ ⟨rfl, bel_refl _⟩
      simp [execOp, Act.eval, e1, go_sem]
    | 16, _ =>
      cases ho
      obtain ⟨v, e1, rfl⟩ := hpre ⟨15, .data⟩ (by simp) rfl 21 rfl
      refine step_val (v := .pointer (some ⟨d, 0, none⟩)) (w' := w') ?_ ⟨rfl, bel_refl _⟩
      simp [execOp, Act.eval, e1, go_sem]
    | 17, _ =>
      cases ho
      obtain ⟨v, e1, rfl⟩ := hpre ⟨16, .data⟩ (by simp) rfl 22 rfl
      refine step_val (v := .pointer (some ⟨bc, 0, none⟩)) (w' := w') ?_ ⟨rfl, bel_refl _⟩
      simp [execOp, Act.eval, e1, p0, go_sem]
    | 18, _ =>
      cases ho
      obtain ⟨v, e1, rfl⟩ := hpre ⟨17, .data⟩ (by simp) rfl 23 rfl
      refine step_val (v := .pointer (some ⟨bc, 0, none⟩)) (w' := w') ?_ ⟨rfl, bel_refl _⟩
      simp [execOp, Act.eval, e1, go_sem]
    | 19, _ =>
      cases ho
      obtain ⟨v, e1, rfl⟩ := hpre ⟨18, .data⟩ (by simp) rfl 24 rfl
      refine step_val (v := .pointer (some ⟨bc, 8, none⟩)) (w' := w') ?_ ⟨rfl, bel_refl _⟩
      simp [execOp, Act.eval, e1, go_sem]
    | 20, _ =>
      cases ho
      obtain ⟨v, e1, rfl⟩ := hpre ⟨19, .data⟩ (by simp) rfl 25 rfl
      refine step_call (f := 46) (args := #[.pointer (some ⟨bc, 8, none⟩)]) (w' := w') ?_ (numOf_any bc 8 c.c w' hc.cc) ?_
      · simp [execOp, Act.eval, e1, go_sem]
      · rintro e w'' ⟨rfl, hb'⟩
        exact ⟨_, rfl, rfl, hb'⟩
    | 21, _ =>
      cases ho
      refine step_val (v := .pointer (some ⟨d, 0, none⟩)) (w' := w') ?_ ⟨rfl, bel_refl _⟩
      simp [execOp, Act.eval, s0, go_sem]
    | 22, _ =>
      cases ho
      obtain ⟨v, e1, rfl⟩ := hpre ⟨21, .data⟩ (by simp) rfl 27 rfl
      refine step_val (v := .pointer (some ⟨d, 0, none⟩)) (w' := w') ?_ ⟨rfl, bel_refl _⟩
      simp [execOp, Act.eval, e1, go_sem]
    | 23, _ =>
      cases ho
      obtain ⟨v, e1, rfl⟩ := hpre ⟨22, .data⟩ (by simp) rfl 28 rfl
      refine step_val (v := .pointer (some ⟨d, 0, none⟩)) (w' := w') ?_ ⟨rfl, bel_refl _⟩
      simp [execOp, Act.eval, e1, go_sem]
    | 24, _ =>
      cases ho
      obtain ⟨v, e1, rfl⟩ := hpre ⟨23, .data⟩ (by simp) rfl 29 rfl
      refine step_val (v := .pointer (some ⟨bc, 0, none⟩)) (w' := w') ?_ ⟨rfl, bel_refl _⟩
      simp [execOp, Act.eval, e1, p0, go_sem]
    | 25, _ =>
      cases ho
      obtain ⟨v, e1, rfl⟩ := hpre ⟨24, .data⟩ (by simp) rfl 30 rfl
      refine step_val (v := .pointer (some ⟨bc, 0, none⟩)) (w' := w') ?_ ⟨rfl, bel_refl _⟩
      simp [execOp, Act.eval, e1, go_sem]
    | 26, _ =>
      cases ho
      obtain ⟨v, e1, rfl⟩ := hpre ⟨25, .data⟩ (by simp) rfl 31 rfl
      refine step_val (v := .pointer (some ⟨bc, 12, none⟩)) (w' := w') ?_ ⟨rfl, bel_refl _⟩
      simp [execOp, Act.eval, e1, go_sem]
    | 27, _ =>
      cases ho
      obtain ⟨v, e1, rfl⟩ := hpre ⟨26, .data⟩ (by simp) rfl 32 rfl
      refine step_call (f := 46) (args := #[.pointer (some ⟨bc, 12, none⟩)]) (w' := w') ?_ (numOf_any bc 12 c.d w' hc.cd) ?_
      · simp [execOp, Act.eval, e1, go_sem]
      · rintro e w'' ⟨rfl, hb'⟩
        exact ⟨_, rfl, rfl, hb'⟩
    | 28, _ =>
      cases ho
      obtain ⟨v, e1, rfl⟩ := hpre ⟨6, .data⟩ (by simp) rfl 12 rfl
      obtain ⟨v, e2, rfl⟩ := hpre ⟨13, .data⟩ (by simp) rfl 19 rfl
      obtain ⟨v, e3, rfl⟩ := hpre ⟨20, .data⟩ (by simp) rfl 26 rfl
      obtain ⟨v, e4, rfl⟩ := hpre ⟨27, .data⟩ (by simp) rfl 33 rfl
      refine step_val (v := c.v) (w' := w') ?_ ⟨rfl, bel_refl _⟩
      simp [execOp, Act.eval, e1, e2, e3, e4, go_sem]
    | 29, _ =>
      cases ho
      refine step_val (v := .pointer (some ⟨w'.heap.size, 0, none⟩)) (w' := w'.alloc (.cells #[.int .u64 0, .int .u64 0, .int .u64 0, .int .u64 0, .int .u64 0, .int .u64 0, .int .u64 0, .int .u64 0, .int .u64 0, .int .u64 0, .int .u64 0, .int .u64 0, .int .u64 0, .int .u64 0, .int .u64 0, .int .u64 0] 28)) ?_ ⟨⟨_, rfl, ?_, ?_⟩, bel_alloc (bel_refl _) _⟩
      · simp [execOp, go_sem]
      · have := hb.size; simp at this; omega
      · exact there_new _ _ _ _ (Nat.le_refl _)
    | n + 30, hj => exact absurd hj (by simp)
  · intro o ho a' w' hf hb hv
    cases ho
    obtain ⟨v34, e34, rfl⟩ := hv 28 34 rfl
    obtain ⟨v5, e5, B, rfl, hB, hroom⟩ := hv 29 5 rfl
    have s1 := hf.rest 1 (by decide)
    have s4 := hf.rest 4 (by decide)
    have hsz := hf.size
    have hdf := hf.defers
    have hres : w'.there w.heap.size 0 17 := there_bel (there_new _ _ _ 17 (Nat.le_refl _)) (by omega) hb
    have hbel : Below w.heap.size w w' := bel_trans (bel_alloc (bel_refl w) _) hb
    clear hv hf hb
    obtain ⟨tm, df⟩ := a'
    obtain ⟨x0, x1, x2, x3, x4, x5, x6, x7, x8, x9, x10, x11, x12, x13, x14, x15, x16, x17, x18, x19, x20, x21, x22, x23, x24, x25, x26, x27, x28, x29, x30, x31, x32, x33, x34, x35, x36, x37, rfl⟩ := array38 hsz
    simp [go_sem] at e34 e5 s1 s4 hdf
    subst e34 e5 s1 s4 hdf
    clear hsz
    refine wp_store_mid 28 _ _ rfl B 0 c.l.toArray rfl rfl hroom (by kernel_rfl) (by simp [Value.oneCell']) ?_
    have k1 : (w'.setCells B 0 c.l.toArray.toList).rangeAt B 0 c.l := World.rangeAt_setCells_same w' B 0 c.l hroom
    have k2 : (w'.setCells B 0 c.l.toArray.toList).there w.heap.size 0 17 := World.there_setCells hres _ _ _
    have k3 : Below w.heap.size w (w'.setCells B 0 c.l.toArray.toList) := setCells_bel hbel (by omega)
    generalize w'.setCells B 0 c.l.toArray.toList = w2 at *
    go_wp2_with (first | (refine wpList_load_mid rfl 28 _ rfl B 0 rfl c.l _ k1 Try.underlying28 rfl (by kernel_rfl) ?_) | (refine wpList_store_mid rfl 31 _ _ rfl w.heap.size 0 (c.l ++ [Value.bool f]).toArray rfl rfl k2 (by kernel_rfl) (by simp [Value.oneCell']) ?_))
    refine bodyPost_ret (v := ansV c f) (results_cell_mid rfl _ _ w.heap.size (c.l ++ [Value.bool f]) _ rfl (World.rangeAt_setCells_same w2 w.heap.size 0 (c.l ++ [Value.bool f]) k2) Try.underlying31 rfl (by kernel_rfl)) rfl (retBel rfl ?_)
    exact setCells_bel k3 (Nat.le_refl _)
end Go.Proofs.Ytpjljjajnfoccaa
