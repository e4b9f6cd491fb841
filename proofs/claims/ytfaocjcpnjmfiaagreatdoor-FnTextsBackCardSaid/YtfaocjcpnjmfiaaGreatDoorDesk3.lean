/-
  The contract of the desk's answer: the sixteen words and the flag, by value.
-/
import Derived.Test.YtfaocjcpnjmfiaaGreatDoorDesk2
namespace Go.Proofs.YtfaocjcpnjmfiaaGreatDoor
open Go.RowKit
/-- An answer by value. -/
abbrev ansV (k : C4) (f : Bool) : Value := .agg #[V k.a.a, V k.a.b, V k.a.c, V k.a.d, V k.b.a, V k.b.b, V k.b.c, V k.b.d, V k.c.a, V k.c.b, V k.c.c, V k.c.d, V k.d.a, V k.d.b, V k.d.c, V k.d.d, .bool f]
def zeroN : N4 := ⟨0#64, 0#64, 0#64, 0#64⟩
def zeroC : C4 := ⟨zeroN, zeroN, zeroN, zeroN⟩
abbrev C4.l (k : C4) : List Value := [V k.a.a, V k.a.b, V k.a.c, V k.a.d, V k.b.a, V k.b.b, V k.b.c, V k.b.d, V k.c.a, V k.c.b, V k.c.c, V k.c.d, V k.d.a, V k.d.b, V k.d.c, V k.d.d]
theorem there_bel {w w' : World} {b o n : Nat} (h : w.there b o n) (hn : 0 < n) (k : Below w.heap.size w w') : w'.there b o n := fun j hj => by
  have h0 := (h 0 hn).1
  obtain ⟨v0, hv0⟩ := Option.isSome_iff_exists.1 h0
  have hlt := World.block_lt_of_cell? w _ hv0
  rw [k.cell (p := ⟨b, o + j, none⟩) hlt, k.frozen (p := ⟨b, o + j, none⟩) hlt]
  exact h j hj
theorem there_new (w : World) (t : TypeId) (cs : Array Value) (n : Nat) (hn : n ≤ cs.size) : (w.alloc (.cells cs t)).there w.heap.size 0 n := fun j hj => by
  constructor
  · simp [go_sem]; omega
  · simp [go_sem]
theorem setCells_bel {a w : World} {B o : Nat} {vs : List Value} (h : Below a.heap.size a w) (hb : a.heap.size ≤ B) : Below a.heap.size a (w.setCells B o vs) := by
  induction vs generalizing o w with
  | nil => exact h
  | cons v vs ih => exact ih (h.setCell (p := ⟨B, o, none⟩) hb v)
theorem results_cell_mid {P : Program} {fn : Func} {p : Tmp} {ty : TypeId} (h : fn.results = #[.cell p ty]) (tmps : Array Value) (w : World) (g : Nat) (cs : List Value) (d : TypeDesc)
    (hp : tmps.getD p undef = .pointer (some ⟨g, 0, none⟩)) (hc : w.rangeAt g 0 cs) (hu : P.underlying ty = some d) (hd : d.isRow = true) (hi : (P.info? ty).map (·.size) = some cs.length) :
    (results fn tmps).run P w = .ok (.agg cs.toArray) w := by
  have hp' : tmps[p]?.getD undef = .pointer (some ⟨g, 0, none⟩) := by simpa using hp
  simp [results, h, hp', asAddr, run_loadVar_mid w g 0 ty cs d hc hu hd hi]
theorem array38 {l : Array Value} (h : l.size = 38) : ∃ x0 x1 x2 x3 x4 x5 x6 x7 x8 x9 x10 x11 x12 x13 x14 x15 x16 x17 x18 x19 x20 x21 x22 x23 x24 x25 x26 x27 x28 x29 x30 x31 x32 x33 x34 x35 x36 x37, l = #[x0, x1, x2, x3, x4, x5, x6, x7, x8, x9, x10, x11, x12, x13, x14, x15, x16, x17, x18, x19, x20, x21, x22, x23, x24, x25, x26, x27, x28, x29, x30, x31, x32, x33, x34, x35, x36, x37] := by
  obtain ⟨l⟩ := l
  have h0 : l.length = 37 + 1 := h
  clear h
  obtain ⟨x0, l1, rfl, h1⟩ := cons_of h0
  obtain ⟨x1, l2, rfl, h2⟩ := cons_of h1
  obtain ⟨x2, l3, rfl, h3⟩ := cons_of h2
  obtain ⟨x3, l4, rfl, h4⟩ := cons_of h3
  obtain ⟨x4, l5, rfl, h5⟩ := cons_of h4
  obtain ⟨x5, l6, rfl, h6⟩ := cons_of h5
  obtain ⟨x6, l7, rfl, h7⟩ := cons_of h6
  obtain ⟨x7, l8, rfl, h8⟩ := cons_of h7
  obtain ⟨x8, l9, rfl, h9⟩ := cons_of h8
  obtain ⟨x9, l10, rfl, h10⟩ := cons_of h9
  obtain ⟨x10, l11, rfl, h11⟩ := cons_of h10
  obtain ⟨x11, l12, rfl, h12⟩ := cons_of h11
  obtain ⟨x12, l13, rfl, h13⟩ := cons_of h12
  obtain ⟨x13, l14, rfl, h14⟩ := cons_of h13
  obtain ⟨x14, l15, rfl, h15⟩ := cons_of h14
  obtain ⟨x15, l16, rfl, h16⟩ := cons_of h15
  obtain ⟨x16, l17, rfl, h17⟩ := cons_of h16
  obtain ⟨x17, l18, rfl, h18⟩ := cons_of h17
  obtain ⟨x18, l19, rfl, h19⟩ := cons_of h18
  obtain ⟨x19, l20, rfl, h20⟩ := cons_of h19
  obtain ⟨x20, l21, rfl, h21⟩ := cons_of h20
  obtain ⟨x21, l22, rfl, h22⟩ := cons_of h21
  obtain ⟨x22, l23, rfl, h23⟩ := cons_of h22
  obtain ⟨x23, l24, rfl, h24⟩ := cons_of h23
  obtain ⟨x24, l25, rfl, h25⟩ := cons_of h24
  obtain ⟨x25, l26, rfl, h26⟩ := cons_of h25
  obtain ⟨x26, l27, rfl, h27⟩ := cons_of h26
  obtain ⟨x27, l28, rfl, h28⟩ := cons_of h27
  obtain ⟨x28, l29, rfl, h29⟩ := cons_of h28
  obtain ⟨x29, l30, rfl, h30⟩ := cons_of h29
  obtain ⟨x30, l31, rfl, h31⟩ := cons_of h30
  obtain ⟨x31, l32, rfl, h32⟩ := cons_of h31
  obtain ⟨x32, l33, rfl, h33⟩ := cons_of h32
  obtain ⟨x33, l34, rfl, h34⟩ := cons_of h33
  obtain ⟨x34, l35, rfl, h35⟩ := cons_of h34
  obtain ⟨x35, l36, rfl, h36⟩ := cons_of h35
  obtain ⟨x36, l37, rfl, h37⟩ := cons_of h36
  obtain ⟨x37, l38, rfl, h38⟩ := cons_of h37
  cases l38 with
  | nil => exact ⟨x0, x1, x2, x3, x4, x5, x6, x7, x8, x9, x10, x11, x12, x13, x14, x15, x16, x17, x18, x19, x20, x21, x22, x23, x24, x25, x26, x27, x28, x29, x30, x31, x32, x33, x34, x35, x36, x37, rfl⟩
  | cons a t => simp at h38
def ansVF (N d bc : Nat) (c : C4) : Nat → Value → World → Prop
  | 0, v, _ => v = .pointer (some ⟨d, 0, none⟩)
  | 1, v, _ => v = .pointer (some ⟨d, 0, none⟩)
  | 2, v, _ => v = .pointer (some ⟨d, 0, none⟩)
  | 3, v, _ => v = .pointer (some ⟨bc, 0, none⟩)
  | 4, v, _ => v = .pointer (some ⟨bc, 0, none⟩)
  | 5, v, _ => v = .pointer (some ⟨bc, 0, none⟩)
  | 6, v, _ => v = c.a.v
  | 7, v, _ => v = .pointer (some ⟨d, 0, none⟩)
  | 8, v, _ => v = .pointer (some ⟨d, 0, none⟩)
  | 9, v, _ => v = .pointer (some ⟨d, 0, none⟩)
  | 10, v, _ => v = .pointer (some ⟨bc, 0, none⟩)
  | 11, v, _ => v = .pointer (some ⟨bc, 0, none⟩)
  | 12, v, _ => v = .pointer (some ⟨bc, 4, none⟩)
  | 13, v, _ => v = c.b.v
  | 14, v, _ => v = .pointer (some ⟨d, 0, none⟩)
  | 15, v, _ => v = .pointer (some ⟨d, 0, none⟩)
  | 16, v, _ => v = .pointer (some ⟨d, 0, none⟩)
  | 17, v, _ => v = .pointer (some ⟨bc, 0, none⟩)
  | 18, v, _ => v = .pointer (some ⟨bc, 0, none⟩)
  | 19, v, _ => v = .pointer (some ⟨bc, 8, none⟩)
  | 20, v, _ => v = c.c.v
  | 21, v, _ => v = .pointer (some ⟨d, 0, none⟩)
  | 22, v, _ => v = .pointer (some ⟨d, 0, none⟩)
  | 23, v, _ => v = .pointer (some ⟨d, 0, none⟩)
  | 24, v, _ => v = .pointer (some ⟨bc, 0, none⟩)
  | 25, v, _ => v = .pointer (some ⟨bc, 0, none⟩)
  | 26, v, _ => v = .pointer (some ⟨bc, 12, none⟩)
  | 27, v, _ => v = c.d.v
  | 28, v, _ => v = c.v
  | 29, v, w => ∃ B, v = .pointer (some ⟨B, 0, none⟩) ∧ N ≤ B ∧ w.there B 0 16
  | _, _, _ => False
theorem ansVF_mono (N d bc : Nat) (c : C4) : ∀ j v w w', Below w.heap.size w w' → ansVF N d bc c j v w → ansVF N d bc c j v w' := by
  intro j v w w' hb h
  match j, h with
  | 0, h | 1, h | 2, h | 3, h | 4, h | 5, h | 6, h | 7, h | 8, h | 9, h | 10, h | 11, h | 12, h | 13, h | 14, h | 15, h | 16, h | 17, h | 18, h | 19, h | 20, h | 21, h | 22, h | 23, h | 24, h | 25, h | 26, h | 27, h | 28, h => exact h
  | 29, ⟨B, e, hN, h⟩ => exact ⟨B, e, hN, there_bel h (by omega) hb⟩
end Go.Proofs.YtfaocjcpnjmfiaaGreatDoor
