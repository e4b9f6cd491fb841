/-
  The contract of the thin package's open: a desk of four cells and four pointers, all new.
-/
import Derived.Test.YtfaocjcpnjmfiaaGreatDoorRegion
namespace Go.Proofs.YtfaocjcpnjmfiaaGreatDoor
open Go.RowKit
theorem step_val {P : Program} {o : Oper} {a : Act} {w w' : World} {Q : Exit → Act → World → Prop} {R : Value → World → Prop} {v : Value} (h : (execOp a.eval o).run P w = .ok (.value v) w') (hR : R v w') :
    o.wp P a w (fun a'' w'' => ∃ v, a'' = a.put o.dst v ∧ R v w'') Q := by
  unfold Oper.wp
  rw [h]
  exact ⟨v, rfl, hR⟩
theorem step_call {P : Program} {o : Oper} {a : Act} {w w' : World} {Q : Exit → Act → World → Prop} {R : Value → World → Prop} {f : FuncId} {args : Array Value} {R' : Ending → World → Prop} (h : (execOp a.eval o).run P w = .ok (.enter f args) w') (hc : Calls P f args w' R')
    (hR : ∀ e w'', R' e w'' → ∃ v, e = .returned v ∧ R v w'') : o.wp P a w (fun a'' w'' => ∃ v, a'' = a.put o.dst v ∧ R v w'') Q := by
  unfold Oper.wp
  rw [h]
  refine hc.mono fun e w'' he => ?_
  obtain ⟨v, rfl, hv⟩ := hR e w'' he
  exact ⟨v, rfl, hv⟩
theorem At4.setFar {w : World} {b o g : Nat} {x : N4} (h : At4 w b o x) (hne : g ≠ b) (p : Nat) (v : Value) : At4 (w.setCell ⟨g, p, none⟩ v) b o x := by
  have k : ∀ q, (w.setCell ⟨g, p, none⟩ v).cell? ⟨b, q, none⟩ = w.cell? ⟨b, q, none⟩ := fun q => World.cell?_setCell_other _ _ _ _ (fun e => by injection e with e; exact hne e)
  exact ⟨(k _).trans h.c0, (k _).trans h.c1, (k _).trans h.c2, (k _).trans h.c3⟩
theorem Free4.set {w : World} {b o : Nat} (h : Free4 w b o) (p : Addr) (v : Value) : Free4 (w.setCell p v) b o := by
  have k : ∀ q, (w.setCell p v).frozen? q = w.frozen? q := fun q => by simp [go_sem]
  exact ⟨(k _).trans h.f0, (k _).trans h.f1, (k _).trans h.f2, (k _).trans h.f3⟩
theorem Cells16.setFar {w : World} {bc g : Nat} {c : C4} (h : Cells16 w bc c) (hne : g ≠ bc) (p : Nat) (v : Value) : Cells16 (w.setCell ⟨g, p, none⟩ v) bc c :=
  ⟨h.ca.setFar hne p v, h.cb.setFar hne p v, h.cc.setFar hne p v, h.cd.setFar hne p v, h.fa.set _ _, h.fb.set _ _, h.fc.set _ _, h.fd.set _ _⟩
theorem cons_of {α : Type} {l : List α} {n : Nat} (h : l.length = n + 1) : ∃ x t, l = x :: t ∧ t.length = n := by
  cases l with
  | nil => simp at h
  | cons x t => exact ⟨x, t, rfl, by simpa using h⟩
theorem array49 {l : Array Value} (h : l.size = 49) : ∃ x0 x1 x2 x3 x4 x5 x6 x7 x8 x9 x10 x11 x12 x13 x14 x15 x16 x17 x18 x19 x20 x21 x22 x23 x24 x25 x26 x27 x28 x29 x30 x31 x32 x33 x34 x35 x36 x37 x38 x39 x40 x41 x42 x43 x44 x45 x46 x47 x48, l = #[x0, x1, x2, x3, x4, x5, x6, x7, x8, x9, x10, x11, x12, x13, x14, x15, x16, x17, x18, x19, x20, x21, x22, x23, x24, x25, x26, x27, x28, x29, x30, x31, x32, x33, x34, x35, x36, x37, x38, x39, x40, x41, x42, x43, x44, x45, x46, x47, x48] := by
  obtain ⟨l⟩ := l
  have h0 : l.length = 48 + 1 := h
  clear h
  obtain ⟨x0, l1, rfl, h1⟩ := cons_of h0
  obtain ⟨x1, l2, rfl, h2⟩ := cons_of h1
  obtain ⟨x2, l3, rfl, h3⟩ := cons_of h2
  obtain ⟨x3, l4, rfl, h4⟩ := cons_of h3
  obtain ⟨x4, l5, rfl, h5⟩ := cons_of h4
  obtain ⟨x5, l6, rfl, h6⟩ := cons_of h5
  obtain ⟨x6, l7, rfl, h7⟩ := cons_of h6
  obtain ⟨x7, l8, rfl, h8⟩ := cons_of h7
  obtain ⟨x8, l9, rfl, h9⟩ := cons_of h8
  obtain ⟨x9, l10, rfl, h10⟩ := cons_of h9
  obtain ⟨x10, l11, rfl, h11⟩ := cons_of h10
  obtain ⟨x11, l12, rfl, h12⟩ := cons_of h11
  obtain ⟨x12, l13, rfl, h13⟩ := cons_of h12
  obtain ⟨x13, l14, rfl, h14⟩ := cons_of h13
  obtain ⟨x14, l15, rfl, h15⟩ := cons_of h14
  obtain ⟨x15, l16, rfl, h16⟩ := cons_of h15
  obtain ⟨x16, l17, rfl, h17⟩ := cons_of h16
  obtain ⟨x17, l18, rfl, h18⟩ := cons_of h17
  obtain ⟨x18, l19, rfl, h19⟩ := cons_of h18
  obtain ⟨x19, l20, rfl, h20⟩ := cons_of h19
  obtain ⟨x20, l21, rfl, h21⟩ := cons_of h20
  obtain ⟨x21, l22, rfl, h22⟩ := cons_of h21
  obtain ⟨x22, l23, rfl, h23⟩ := cons_of h22
  obtain ⟨x23, l24, rfl, h24⟩ := cons_of h23
  obtain ⟨x24, l25, rfl, h25⟩ := cons_of h24
  obtain ⟨x25, l26, rfl, h26⟩ := cons_of h25
  obtain ⟨x26, l27, rfl, h27⟩ := cons_of h26
  obtain ⟨x27, l28, rfl, h28⟩ := cons_of h27
  obtain ⟨x28, l29, rfl, h29⟩ := cons_of h28
  obtain ⟨x29, l30, rfl, h30⟩ := cons_of h29
  obtain ⟨x30, l31, rfl, h31⟩ := cons_of h30
  obtain ⟨x31, l32, rfl, h32⟩ := cons_of h31
  obtain ⟨x32, l33, rfl, h33⟩ := cons_of h32
  obtain ⟨x33, l34, rfl, h34⟩ := cons_of h33
  obtain ⟨x34, l35, rfl, h35⟩ := cons_of h34
  obtain ⟨x35, l36, rfl, h36⟩ := cons_of h35
  obtain ⟨x36, l37, rfl, h37⟩ := cons_of h36
  obtain ⟨x37, l38, rfl, h38⟩ := cons_of h37
  obtain ⟨x38, l39, rfl, h39⟩ := cons_of h38
  obtain ⟨x39, l40, rfl, h40⟩ := cons_of h39
  obtain ⟨x40, l41, rfl, h41⟩ := cons_of h40
  obtain ⟨x41, l42, rfl, h42⟩ := cons_of h41
  obtain ⟨x42, l43, rfl, h43⟩ := cons_of h42
  obtain ⟨x43, l44, rfl, h44⟩ := cons_of h43
  obtain ⟨x44, l45, rfl, h45⟩ := cons_of h44
  obtain ⟨x45, l46, rfl, h46⟩ := cons_of h45
  obtain ⟨x46, l47, rfl, h47⟩ := cons_of h46
  obtain ⟨x47, l48, rfl, h48⟩ := cons_of h47
  obtain ⟨x48, l49, rfl, h49⟩ := cons_of h48
  cases l49 with
  | nil => exact ⟨x0, x1, x2, x3, x4, x5, x6, x7, x8, x9, x10, x11, x12, x13, x14, x15, x16, x17, x18, x19, x20, x21, x22, x23, x24, x25, x26, x27, x28, x29, x30, x31, x32, x33, x34, x35, x36, x37, x38, x39, x40, x41, x42, x43, x44, x45, x46, x47, x48, rfl⟩
  | cons a t => simp at h49
def openVF (N cb : Nat) (c : C4) : Nat → Value → World → Prop
  | 0, v, _ => v = .pointer (some ⟨cb, 0, none⟩)
  | 1, v, _ => v = c.a.v
  | 2, v, w => ∃ B, v = .pointer (some ⟨B, 0, none⟩) ∧ At4 w B 0 c.a
  | 3, v, w => ∃ B, v = .pointer (some ⟨B, 0, none⟩) ∧ At4 w B 0 c.a
  | 4, v, _ => v = c.a.v
  | 5, v, _ => v = .pointer (some ⟨cb, 4, none⟩)
  | 6, v, _ => v = c.b.v
  | 7, v, w => ∃ B, v = .pointer (some ⟨B, 0, none⟩) ∧ At4 w B 0 c.b
  | 8, v, w => ∃ B, v = .pointer (some ⟨B, 0, none⟩) ∧ At4 w B 0 c.b
  | 9, v, _ => v = c.b.v
  | 10, v, _ => v = .pointer (some ⟨cb, 8, none⟩)
  | 11, v, _ => v = c.c.v
  | 12, v, w => ∃ B, v = .pointer (some ⟨B, 0, none⟩) ∧ At4 w B 0 c.c
  | 13, v, w => ∃ B, v = .pointer (some ⟨B, 0, none⟩) ∧ At4 w B 0 c.c
  | 14, v, _ => v = c.c.v
  | 15, v, _ => v = .pointer (some ⟨cb, 12, none⟩)
  | 16, v, _ => v = c.d.v
  | 17, v, w => ∃ B, v = .pointer (some ⟨B, 0, none⟩) ∧ At4 w B 0 c.d
  | 18, v, w => ∃ B, v = .pointer (some ⟨B, 0, none⟩) ∧ At4 w B 0 c.d
  | 19, v, _ => v = c.d.v
  | 20, v, _ => v = c.v
  | 21, v, w => ∃ B, v = .pointer (some ⟨B, 0, none⟩) ∧ N ≤ B ∧ Cells16 w B c
  | 22, v, w => ∃ B, v = .pointer (some ⟨B, 0, none⟩) ∧ N ≤ B ∧ w.cell? ⟨B, 0, none⟩ = some (.pointer none) ∧ w.frozen? ⟨B, 0, none⟩ = false
  | _, _, _ => False
theorem openVF_mono (N cb : Nat) (c : C4) : ∀ j v w w', Below w.heap.size w w' → openVF N cb c j v w → openVF N cb c j v w' := by
  intro j v w w' hb h
  match j, h with
  | 0, h | 1, h | 4, h | 5, h | 6, h | 9, h | 10, h | 11, h | 14, h | 15, h | 16, h | 19, h | 20, h => exact h
  | 2, ⟨B, e, h⟩ | 3, ⟨B, e, h⟩ | 7, ⟨B, e, h⟩ | 8, ⟨B, e, h⟩ | 12, ⟨B, e, h⟩ | 13, ⟨B, e, h⟩ | 17, ⟨B, e, h⟩ | 18, ⟨B, e, h⟩ => exact ⟨B, e, h.bel hb⟩
  | 21, ⟨B, e, hN, h⟩ => exact ⟨B, e, hN, h.bel hb⟩
  | 22, ⟨B, e, hN, h, k⟩ => exact ⟨B, e, hN, bel_cell hb h, (hb.frozen (p := ⟨B, 0, none⟩) (World.block_lt_of_cell? w _ h)).trans k⟩
end Go.Proofs.YtfaocjcpnjmfiaaGreatDoor
