/-
  The contract of the thin package's open: a desk of four cells and four pointers, all new.
-/
import Derived.Test.YtpjljjajnfoccaaRegion
namespace Go.Proofs.Ytpjljjajnfoccaa
set_option maxRecDepth 20000
open Go.RowKit
theorem step_val {P : Program} {o : Oper} {a : Act} {w w' : World} {Q : Exit → Act → World → Prop} {R : Value → World → Prop} {v : Value} (h : (execOp a.eval o).run P w = .ok (.value v) w') (hR : R v w') :
    o.wp P a w (fun a'' w'' => ∃ v, a'' = a.put o.dst v ∧ R v w'') Q := by
  unfold Oper.wp
  rw [h]
  exact ⟨v, rfl, hR⟩
theorem step_call {P : Program} {o : Oper} {a : Act} {w w' : World} {Q : Exit → Act → World → Prop} {R : Value → World → Prop} {f : FuncId} {args : Array Value} {R' : Ending → World → Prop} (h : (execOp a.eval o).run P w = .ok (.enter f args) w') (hc : Calls P f args w' R')
    (hR : ∀ e w'', R' e w'' → ∃ v, e = .returned v ∧ R v w'') : o.wp P a w (fun a'' w'' => ∃ v, a'' = a.put o.dst v ∧ R v w'') Q := by
  unfold Oper.wp
  rw [h]
  refine hc.mono fun e w'' he => ?_
  obtain ⟨v, rfl, hv⟩ := hR e w'' he
  exact ⟨v, rfl, hv⟩
theorem At4.setFar {w : World} {b o g : Nat} {x : N4} (h : At4 w b o x) (hne : g ≠ b) (p : Nat) (v : Value) : At4 (w.setCell ⟨g, p, none⟩ v) b o x := by
  have k : ∀ q, (w.setCell ⟨g, p, none⟩ v).cell? ⟨b, q, none⟩ = w.cell? ⟨b, q, none⟩ := fun q => World.cell?_setCell_other _ _ _ _ (fun e => by injection e with e; exact hne e)
  exact ⟨(k _).trans h.c0, (k _).trans h.c1, (k _).trans h.c2, (k _).trans h.c3⟩
theorem Free4.set {w : World} {b o : Nat} (h : Free4 w b o) (p : Addr) (v : Value) : Free4 (w.setCell p v) b o := by
  have k : ∀ q, (w.setCell p v).frozen? q = w.frozen? q := fun q => by simp [go_sem]
  exact ⟨(k _).trans h.f0, (k _).trans h.f1, (k _).trans h.f2, (k _).trans h.f3⟩
theorem Cells16.setFar {w : World} {bc g : Nat} {c : C4} (h : Cells16 w bc c) (hne : g ≠ bc) (p : Nat) (v : Value) : Cells16 (w.setCell ⟨g, p, none⟩ v) bc c :=
  ⟨h.ca.setFar hne p v, h.cb.setFar hne p v, h.cc.setFar hne p v, h.cd.setFar hne p v, h.fa.set _ _, h.fb.set _ _, h.fc.set _ _, h.fd.set _ _⟩
theorem cons_of {α : Type} {l : List α} {n : Nat} (h : l.length = n + 1) : ∃ x t, l = x :: t ∧ t.length = n := by
  cases l with
  | nil => simp at h
  | cons x t => exact ⟨x, t, rfl, by simpa using h⟩
theorem array49 {l : Array Value} (h : l.size = 49) : ∃ x0 x1 x2 x3 x4 x5 x6 x7 x8 x9 x10 x11 x12 x13 x14 x15 x16 x17 x18 x19 x20 x21 x22 x23 x24 x25 x26 x27 x28 x29 x30 x31 x32 x33 x34 x35 x36 x37 x38 x39 x40 x41 x42 x43 x44 x45 x46 x47 x48, l = #[x0, x1, x2, x3, x4, x5, x6, x7, x8, x9, x10, x11, x12, x13, x14, x15, x16, x17, x18, x19, x20, x21, x22, x23, x24, x25, x26, x27, x28, x29, x30, x31, x32, x33, x34, x35, x36, x37, x38, x39, x40, x41, x42, x43, x44, x45, x46, x47, x48] := by
  obtain ⟨l⟩ := l
  have h0 : l.length = 48 + 1 := h
  clear h
  obtain ⟨x0, l1, rfl, h1⟩ := cons_of h0
  obtain ⟨x1, l2, rfl, h2⟩ := cons_of h1
  obtain ⟨x2, l3, rfl, h3⟩ := cons_of h2
  obtain ⟨x3, l4, rfl, h4⟩ := cons_of h3
  obtain ⟨x4, l5, rfl, h5⟩ := cons_of h4
  obtain ⟨x5, l6, rfl, h6⟩ := cons_of h5
  obtain ⟨x6, l7, rfl, h7⟩ := cons_of h6
  obtain ⟨x7, l8, rfl, h8⟩ := cons_of h7
  obtain ⟨x8, l9, rfl, h9⟩ := cons_of h8
  obtain ⟨x9, l10, rfl, h10⟩ := cons_of h9
  obtain ⟨x10, l11, rfl, h11⟩ := cons_of h10
  obtain ⟨x11, l12, rfl, h12⟩ := cons_of h11
  obtain ⟨x12, l13, rfl, h13⟩ := cons_of h12
  obtain ⟨x13, l14, rfl, h14⟩ := cons_of h13
  obtain ⟨x14, l15, rfl, h15⟩ := cons_of h14
  obtain ⟨x15, l16, rfl, h16⟩ := cons_of h15
  obtain ⟨x16, l17, rfl, h17⟩ := cons_of h16
  obtain ⟨x17, l18, rfl, h18⟩ := cons_of h17
  obtain ⟨x18, l19, rfl, h19⟩ := cons_of h18
  obtain ⟨x19, l20, rfl, h20⟩ := cons_of h19
  obtain ⟨x20, l21, rfl, h21⟩ := cons_of h20
  obtain ⟨x21, l22, rfl, h22⟩ := cons_of h21
  obtain ⟨x22, l23, rfl, h23⟩ := cons_of h22
  obtain ⟨x23, l24, rfl, h24⟩ := cons_of h23
  obtain ⟨x24, l25, rfl, h25⟩ := cons_of h24
  obtain ⟨x25, l26, rfl, h26⟩ := cons_of h25
  obtain ⟨x26, l27, rfl, h27⟩ := cons_of h26
  obtain ⟨x27, l28, rfl, h28⟩ := cons_of h27
  obtain ⟨x28, l29, rfl, h29⟩ := cons_of h28
  obtain ⟨x29, l30, rfl, h30⟩ := cons_of h29
  obtain ⟨x30, l31, rfl, h31⟩ := cons_of h30
  obtain ⟨x31, l32, rfl, h32⟩ := cons_of h31
  obtain ⟨x32, l33, rfl, h33⟩ := cons_of h32
  obtain ⟨x33, l34, rfl, h34⟩ := cons_of h33
  obtain ⟨x34, l35, rfl, h35⟩ := cons_of h34
  obtain ⟨x35, l36, rfl, h36⟩ := cons_of h35
  obtain ⟨x36, l37, rfl, h37⟩ := cons_of h36
  obtain ⟨x37, l38, rfl, h38⟩ := cons_of h37
  obtain ⟨x38, l39, rfl, h39⟩ := cons_of h38
  obtain ⟨x39, l40, rfl, h40⟩ := cons_of h39
  obtain ⟨x40, l41, rfl, h41⟩ := cons_of h40
  obtain ⟨x41, l42, rfl, h42⟩ := cons_of h41
  obtain ⟨x42, l43, rfl, h43⟩ := cons_of h42
  obtain ⟨x43, l44, rfl, h44⟩ := cons_of h43
  obtain ⟨x44, l45, rfl, h45⟩ := cons_of h44
  obtain ⟨x45, l46, rfl, h46⟩ := cons_of h45
  obtain ⟨x46, l47, rfl, h47⟩ := cons_of h46
  obtain ⟨x47, l48, rfl, h48⟩ := cons_of h47
  obtain ⟨x48, l49, rfl, h49⟩ := cons_of h48
  cases l49 with
  | nil => exact ⟨x0, x1, x2, x3, x4, x5, x6, x7, x8, x9, x10, x11, x12, x13, x14, x15, x16, x17, x18, x19, x20, x21, x22, x23, x24, x25, x26, x27, x28, x29, x30, x31, x32, x33, x34, x35, x36, x37, x38, x39, x40, x41, x42, x43, x44, x45, x46, x47, x48, rfl⟩
  | cons a t => simp at h49
def openVF (N cb : Nat) (c : C4) : Nat → Value → World → Prop
  | 0, v, _ => v = .pointer (some ⟨cb, 0, none⟩)
  | 1, v, _ => v = c.a.v
  | 2, v, w => ∃ B, v = .pointer (some ⟨B, 0, none⟩) ∧ At4 w B 0 c.a
  | 3, v, w => ∃ B, v = .pointer (some ⟨B, 0, none⟩) ∧ At4 w B 0 c.a
  | 4, v, _ => v = c.a.v
  | 5, v, _ => v = .pointer (some ⟨cb, 4, none⟩)
  | 6, v, _ => v = c.b.v
  | 7, v, w => ∃ B, v = .pointer (some ⟨B, 0, none⟩) ∧ At4 w B 0 c.b
  | 8, v, w => ∃ B, v = .pointer (some ⟨B, 0, none⟩) ∧ At4 w B 0 c.b
  | 9, v, _ => v = c.b.v
  | 10, v, _ => v = .pointer (some ⟨cb, 8, none⟩)
  | 11, v, _ => v = c.c.v
  | 12, v, w => ∃ B, v = .pointer (some ⟨B, 0, none⟩) ∧ At4 w B 0 c.c
  | 13, v, w => ∃ B, v = .pointer (some ⟨B, 0, none⟩) ∧ At4 w B 0 c.c
  | 14, v, _ => v = c.c.v
  | 15, v, _ => v = .pointer (some ⟨cb, 12, none⟩)
  | 16, v, _ => v = c.d.v
  | 17, v, w => ∃ B, v = .pointer (some ⟨B, 0, none⟩) ∧ At4 w B 0 c.d
  | 18, v, w => ∃ B, v = .pointer (some ⟨B, 0, none⟩) ∧ At4 w B 0 c.d
  | 19, v, _ => v = c.d.v
  | 20, v, _ => v = c.v
  | 21, v, w => ∃ B, v = .pointer (some ⟨B, 0, none⟩) ∧ N ≤ B ∧ Cells16 w B c
  | 22, v, w => ∃ B, v = .pointer (some ⟨B, 0, none⟩) ∧ N ≤ B ∧ w.cell? ⟨B, 0, none⟩ = some (.pointer none) ∧ w.frozen? ⟨B, 0, none⟩ = false
  | _, _, _ => False
theorem openVF_mono (N cb : Nat) (c : C4) : ∀ j v w w', Below w.heap.size w w' → openVF N cb c j v w → openVF N cb c j v w' := by
  intro j v w w' hb h
  match j, h with
  | 0, h | 1, h | 4, h | 5, h | 6, h | 9, h | 10, h | 11, h | 14, h | 15, h | 16, h | 19, h | 20, h => exact h
  | 2, ⟨B, e, h⟩ | 3, ⟨B, e, h⟩ | 7, ⟨B, e, h⟩ | 8, ⟨B, e, h⟩ | 12, ⟨B, e, h⟩ | 13, ⟨B, e, h⟩ | 17, ⟨B, e, h⟩ | 18, ⟨B, e, h⟩ => exact ⟨B, e, h.bel hb⟩
  | 21, ⟨B, e, hN, h⟩ => exact ⟨B, e, hN, h.bel hb⟩
  | 22, ⟨B, e, hN, h, k⟩ => exact ⟨B, e, hN, bel_cell hb h, (hb.frozen (p := ⟨B, 0, none⟩) (World.block_lt_of_cell? w _ h)).trans k⟩
set_option maxHeartbeats 1000000 in
theorem open_any (k : W4) (c : C4) (w : World) (hk : k.ok) : Calls Try.prog 19 #[k.v, c.v] w (RetDesk k c w) := by
  go_enter Try.func19, Try.ntmps19
  go_wp2
  refine wp_region_grow (by kernel_rfl) [7, 8, 9, 10, 11, 12, 13, 14, 15, 16, 17, 18, 19, 20, 21, 22, 23, 24, 25, 26, 27, 28, 5] (openVF (w.heap.size + 2) (w.heap.size + 1) c) rfl (by decide) (grow_dst rfl) (grow_ord (by kernel_rfl)) (grow_in 49 rfl (by decide)) (openVF_mono _ _ _) ?_ (grow_all (by kernel_rfl)) ?_
  · intro j o hj ho a' w' hf hb hpre
    have s3 := hf.rest 3 (by decide)
    have hc := fun o => hb.cell (p := ⟨w.heap.size + 1, o, none⟩) (by simp)
    simp [go_sem] at s3 hc
    match j, hj with
    | 0, _ =>
      cases ho
      refine step_val (v := .pointer (some ⟨w.heap.size + 1, 0, none⟩)) (w' := w') ?_ ⟨rfl, bel_refl _⟩
      simp [execOp, Act.eval, s3, go_sem]
    | 1, _ =>
      cases ho
      obtain ⟨v, e1, rfl⟩ := hpre ⟨0, .data⟩ (by simp) rfl 7 rfl
      refine step_val (v := c.a.v) (w' := w') ?_ ⟨rfl, bel_refl _⟩
      simp [execOp, Act.eval, e1, hc, go_sem]
    | 2, _ =>
      cases ho
      obtain ⟨v, e1, rfl⟩ := hpre ⟨1, .data⟩ (by simp) rfl 8 rfl
      refine step_call (f := 35) (args := #[c.a.v]) (w' := w') ?_ (intOf_any c.a w') ?_
      · simp [execOp, Act.eval, e1, go_sem]
      · rintro e w'' ⟨B, rfl, m⟩
        exact ⟨_, rfl, ⟨B, rfl, m.at4⟩, m.bel⟩
    | 3, _ =>
      cases ho
      obtain ⟨v, e1, B, rfl, h⟩ := hpre ⟨2, .data⟩ (by simp) rfl 9 rfl
      refine step_val (v := .pointer (some ⟨B, 0, none⟩)) (w' := w') ?_ ⟨⟨B, rfl, h⟩, bel_refl _⟩
      simp [execOp, Act.eval, e1, go_sem]
    | 4, _ =>
      cases ho
      obtain ⟨v, e1, B, rfl, ⟨h0, h1, h2, h3⟩⟩ := hpre ⟨3, .data⟩ (by simp) rfl 10 rfl
      simp only [Nat.zero_add] at h1 h2 h3
      refine step_val (v := c.a.v) (w' := w') ?_ ⟨rfl, bel_refl _⟩
      simp [execOp, Act.eval, e1, h0, h1, h2, h3, go_sem]
    | 5, _ =>
      cases ho
      refine step_val (v := .pointer (some ⟨w.heap.size + 1, 4, none⟩)) (w' := w') ?_ ⟨rfl, bel_refl _⟩
      simp [execOp, Act.eval, s3, go_sem]
    | 6, _ =>
      cases ho
      obtain ⟨v, e1, rfl⟩ := hpre ⟨5, .data⟩ (by simp) rfl 12 rfl
      refine step_val (v := c.b.v) (w' := w') ?_ ⟨rfl, bel_refl _⟩
      simp [execOp, Act.eval, e1, hc, go_sem]
    | 7, _ =>
      cases ho
      obtain ⟨v, e1, rfl⟩ := hpre ⟨6, .data⟩ (by simp) rfl 13 rfl
      refine step_call (f := 35) (args := #[c.b.v]) (w' := w') ?_ (intOf_any c.b w') ?_
      · simp [execOp, Act.eval, e1, go_sem]
      · rintro e w'' ⟨B, rfl, m⟩
        exact ⟨_, rfl, ⟨B, rfl, m.at4⟩, m.bel⟩
    | 8, _ =>
      cases ho
      obtain ⟨v, e1, B, rfl, h⟩ := hpre ⟨7, .data⟩ (by simp) rfl 14 rfl
      refine step_val (v := .pointer (some ⟨B, 0, none⟩)) (w' := w') ?_ ⟨⟨B, rfl, h⟩, bel_refl _⟩
      simp [execOp, Act.eval, e1, go_sem]
    | 9, _ =>
      cases ho
      obtain ⟨v, e1, B, rfl, ⟨h0, h1, h2, h3⟩⟩ := hpre ⟨8, .data⟩ (by simp) rfl 15 rfl
      simp only [Nat.zero_add] at h1 h2 h3
      refine step_val (v := c.b.v) (w' := w') ?_ ⟨rfl, bel_refl _⟩
      simp [execOp, Act.eval, e1, h0, h1, h2, h3, go_sem]
    | 10, _ =>
      cases ho
      refine step_val (v := .pointer (some ⟨w.heap.size + 1, 8, none⟩)) (w' := w') ?_ ⟨rfl, bel_refl _⟩
      simp [execOp, Act.eval, s3, go_sem]
    | 11, _ =>
      cases ho
      obtain ⟨v, e1, rfl⟩ := hpre ⟨10, .data⟩ (by simp) rfl 17 rfl
      refine step_val (v := c.c.v) (w' := w') ?_ ⟨rfl, bel_refl _⟩
      simp [execOp, Act.eval, e1, hc, go_sem]
    | 12, _ =>
      cases ho
      obtain ⟨v, e1, rfl⟩ := hpre ⟨11, .data⟩ (by simp) rfl 18 rfl
      refine step_call (f := 35) (args := #[c.c.v]) (w' := w') ?_ (intOf_any c.c w') ?_
      · simp [execOp, Act.eval, e1, go_sem]
      · rintro e w'' ⟨B, rfl, m⟩
        exact ⟨_, rfl, ⟨B, rfl, m.at4⟩, m.bel⟩
    | 13, _ =>
      cases ho
      obtain ⟨v, e1, B, rfl, h⟩ := hpre ⟨12, .data⟩ (by simp) rfl 19 rfl
      refine step_val (v := .pointer (some ⟨B, 0, none⟩)) (w' := w') ?_ ⟨⟨B, rfl, h⟩, bel_refl _⟩
      simp [execOp, Act.eval, e1, go_sem]
    | 14, _ =>
      cases ho
      obtain ⟨v, e1, B, rfl, ⟨h0, h1, h2, h3⟩⟩ := hpre ⟨13, .data⟩ (by simp) rfl 20 rfl
      simp only [Nat.zero_add] at h1 h2 h3
      refine step_val (v := c.c.v) (w' := w') ?_ ⟨rfl, bel_refl _⟩
      simp [execOp, Act.eval, e1, h0, h1, h2, h3, go_sem]
    | 15, _ =>
      cases ho
      refine step_val (v := .pointer (some ⟨w.heap.size + 1, 12, none⟩)) (w' := w') ?_ ⟨rfl, bel_refl _⟩
      simp [execOp, Act.eval, s3, go_sem]
    | 16, _ =>
      cases ho
      obtain ⟨v, e1, rfl⟩ := hpre ⟨15, .data⟩ (by simp) rfl 22 rfl
      refine step_val (v := c.d.v) (w' := w') ?_ ⟨rfl, bel_refl _⟩
      simp [execOp, Act.eval, e1, hc, go_sem]
    | 17, _ =>
      cases ho
      obtain ⟨v, e1, rfl⟩ := hpre ⟨16, .data⟩ (by simp) rfl 23 rfl
      refine step_call (f := 35) (args := #[c.d.v]) (w' := w') ?_ (intOf_any c.d w') ?_
      · simp [execOp, Act.eval, e1, go_sem]
      · rintro e w'' ⟨B, rfl, m⟩
        exact ⟨_, rfl, ⟨B, rfl, m.at4⟩, m.bel⟩
    | 18, _ =>
      cases ho
      obtain ⟨v, e1, B, rfl, h⟩ := hpre ⟨17, .data⟩ (by simp) rfl 24 rfl
      refine step_val (v := .pointer (some ⟨B, 0, none⟩)) (w' := w') ?_ ⟨⟨B, rfl, h⟩, bel_refl _⟩
      simp [execOp, Act.eval, e1, go_sem]
    | 19, _ =>
      cases ho
      obtain ⟨v, e1, B, rfl, ⟨h0, h1, h2, h3⟩⟩ := hpre ⟨18, .data⟩ (by simp) rfl 25 rfl
      simp only [Nat.zero_add] at h1 h2 h3
      refine step_val (v := c.d.v) (w' := w') ?_ ⟨rfl, bel_refl _⟩
      simp [execOp, Act.eval, e1, h0, h1, h2, h3, go_sem]
    | 20, _ =>
      cases ho
      obtain ⟨v, e1, rfl⟩ := hpre ⟨4, .data⟩ (by simp) rfl 11 rfl
      obtain ⟨v, e2, rfl⟩ := hpre ⟨9, .data⟩ (by simp) rfl 16 rfl
      obtain ⟨v, e3, rfl⟩ := hpre ⟨14, .data⟩ (by simp) rfl 21 rfl
      obtain ⟨v, e4, rfl⟩ := hpre ⟨19, .data⟩ (by simp) rfl 26 rfl
      refine step_val (v := c.v) (w' := w') ?_ ⟨rfl, bel_refl _⟩
      simp [execOp, Act.eval, e1, e2, e3, e4, go_sem]
    | 21, _ =>
      cases ho
      obtain ⟨v, e1, rfl⟩ := hpre ⟨20, .data⟩ (by simp) rfl 27 rfl
      refine step_val (v := .pointer (some ⟨w'.heap.size, 0, none⟩)) (w' := w'.alloc (.cells c.v.cells 73)) ?_ ⟨⟨_, rfl, ?_, ?_⟩, bel_alloc (bel_refl _) _⟩
      · simp [execOp, Act.eval, e1, go_sem]
      · have := hb.size; simp at this; omega
      · constructor <;> constructor <;> simp [Value.cells, go_sem]
    | 22, _ =>
      cases ho
      refine step_val (v := .pointer (some ⟨w'.heap.size, 0, none⟩)) (w' := w'.alloc (.cells #[.pointer none] 49)) ?_ ⟨⟨_, rfl, ?_, ?_, ?_⟩, bel_alloc (bel_refl _) _⟩
      · simp [execOp, go_sem]
      · have := hb.size; simp at this; omega
      · simp [go_sem]
      · simp [go_sem]
    | n + 23, hj => exact absurd hj (by simp)
  · intro o ho a' w' hf hb hv
    cases ho
    obtain ⟨v28, e28, bc, rfl, hbc, hcells⟩ := hv 21 28 rfl
    obtain ⟨v5, e5, g, rfl, hg, hgc, hgf⟩ := hv 22 5 rfl
    have s2 := hf.rest 2 (by decide)
    have s4 := hf.rest 4 (by decide)
    have hways := fun o => hb.cell (p := ⟨w.heap.size, o, none⟩) (by simp; omega)
    have hsz := hf.size
    have hdf := hf.defers
    have hgb : g ≠ bc := fun e => by subst e; have := hcells.ca.c0; rw [hgc] at this; cases this
    have hbel : Below w.heap.size w w' := bel_trans (bel_alloc (bel_alloc (bel_refl w) _) _) hb
    clear hv hf hb
    obtain ⟨tm, df⟩ := a'
    obtain ⟨x0, x1, x2, x3, x4, x5, x6, x7, x8, x9, x10, x11, x12, x13, x14, x15, x16, x17, x18, x19, x20, x21, x22, x23, x24, x25, x26, x27, x28, x29, x30, x31, x32, x33, x34, x35, x36, x37, x38, x39, x40, x41, x42, x43, x44, x45, x46, x47, x48, rfl⟩ := array49 hsz
    simp [go_sem] at e28 e5 s2 s4 hways hdf
    subst e28 e5 s2 s4 hdf
    clear hsz
    unfold Oper.wp
    simp [execOp, Act.eval, hgc, hgf, go_sem]
    have k0 : (w'.setCell ⟨g, 0, none⟩ (.pointer (some ⟨bc, 0, none⟩))).cell? ⟨g, 0, none⟩ = some (.pointer (some ⟨bc, 0, none⟩)) := World.cell?_setCell_same _ _ _ hgc
    have k1 : ∀ o, (w'.setCell ⟨g, 0, none⟩ (.pointer (some ⟨bc, 0, none⟩))).cell? ⟨w.heap.size, o, none⟩ = w'.cell? ⟨w.heap.size, o, none⟩ := fun o => World.cell?_setCell_other _ _ _ _ (fun e => by injection e with e; omega)
    have k2 : Cells16 (w'.setCell ⟨g, 0, none⟩ (.pointer (some ⟨bc, 0, none⟩))) bc c := hcells.setFar hgb _ _
    have k3 : Below w.heap.size w (w'.setCell ⟨g, 0, none⟩ (.pointer (some ⟨bc, 0, none⟩))) := bel_set hbel _ (by simp; omega) _
    have hgl : g < (w'.setCell ⟨g, 0, none⟩ (.pointer (some ⟨bc, 0, none⟩))).heap.size := World.block_lt_of_cell? _ _ k0
    have y0 := (k1 0).trans (hways 0)
    have y1 := (k1 1).trans (hways 1)
    have y2 := (k1 2).trans (hways 2)
    have y3 := (k1 3).trans (hways 3)
    simp at y0 y1 y2 y3
    clear k1 hways hgc hgf hcells hbel
    generalize (w'.setCell ⟨g, 0, none⟩ (.pointer (some ⟨bc, 0, none⟩))) = w2 at *
    obtain ⟨hk0, hk1, hk2, hk3⟩ := hk
    go_wp2
    have hs : w.heap.size < w2.heap.size := by omega
    go_region_held3 (Keeps w2.heap.size w2) (first | exact Keeps.start _ _ | exact Keeps.step (by assumption) (Nat.le_refl _) (bel_alloc (bel_refl _) _) | assumption)
      (first | (go_at_call 37; refine (openAt_any _ g bc _ (by first | exact hk0 | exact hk1 | exact hk2 | exact hk3) (by simp [*])).mono ?_; rintro e w1 ⟨rfl, rfl⟩))
    go_wp2
    go_ret
    have hlt := k2.ca.lt
    have kb : Below w2.heap.size w2 (w2.alloc (Obj.cells #[Value.pointer (some ⟨bc, 0, none⟩), Value.pointer (some ⟨bc, off4 k.z, none⟩), Value.pointer (some ⟨bc, off4 k.x, none⟩), Value.pointer (some ⟨bc, off4 k.y, none⟩), Value.pointer (some ⟨bc, off4 k.m, none⟩)] 51)).drew := bel_drew (bel_alloc (bel_refl w2) _)
    refine ⟨w2.heap.size, bc, rfl, Nat.le_of_lt hs, by omega, ⟨by omega, ?_, k2.bel kb⟩, bel_trans k3 kb⟩
    constructor <;> simp [go_sem]
end Go.Proofs.Ytpjljjajnfoccaa
