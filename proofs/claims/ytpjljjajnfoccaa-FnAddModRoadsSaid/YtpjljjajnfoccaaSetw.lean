/-
  One word of a number in memory is stored: what becomes of numbers, their marks and the world.
-/
import Derived.Test.YtpjljjajnfoccaaDiv9
namespace Go.Proofs.Ytpjljjajnfoccaa
open Go.RowKit
set_option linter.unusedVariables false
set_option linter.unusedSimpArgs false
def setw (t : N4) : Nat → W64 → N4
  | 0, v => ⟨v, t.b, t.c, t.d⟩
  | 1, v => ⟨t.a, v, t.c, t.d⟩
  | 2, v => ⟨t.a, t.b, v, t.d⟩
  | _, v => ⟨t.a, t.b, t.c, v⟩
theorem at4_set {W : World} {b : Nat} {t : N4} (h : At4 W b 0 t) (i : Nat) (hi : i < 4) (v : W64) : At4 ((W.setCell ⟨b, i, none⟩ (V v)).drew) b 0 (setw t i v) := by
  obtain ⟨h0, h1, h2, h3⟩ := h
  simp only [Nat.zero_add] at h1 h2 h3
  match i, hi with
  | 0, _ | 1, _ | 2, _ | 3, _ => constructor <;> simp [go_sem, setw, h0, h1, h2, h3]
theorem at4_keep {W : World} {c p : Nat} {x : N4} (h : At4 W c p x) (b i : Nat) (v : W64) (hne : c ≠ b) : At4 ((W.setCell ⟨b, i, none⟩ (V v)).drew) c p x := by
  have k : ∀ j, (⟨b, i, none⟩ : Addr) ≠ ⟨c, p + j, none⟩ := fun j e => by injection e with e1 _; exact hne e1.symm
  exact ⟨(World.cell?_setCell_other W _ _ _ (k 0)).trans h.c0, (World.cell?_setCell_other W _ _ _ (k 1)).trans h.c1, (World.cell?_setCell_other W _ _ _ (k 2)).trans h.c2, (World.cell?_setCell_other W _ _ _ (k 3)).trans h.c3⟩
theorem free4_set {W : World} {c p : Nat} (h : Free4 W c p) (b i : Nat) (v : W64) : Free4 ((W.setCell ⟨b, i, none⟩ (V v)).drew) c p := by
  obtain ⟨h0, h1, h2, h3⟩ := h
  constructor <;> simp [go_sem, h0, h1, h2, h3]
theorem bel_set' {a W : World} (h : Below a.heap.size a W) (b i : Nat) (v : W64) (hb : a.heap.size ≤ b) : Below a.heap.size a ((W.setCell ⟨b, i, none⟩ (V v)).drew) := bel_drew (h.setCell (p := ⟨b, i, none⟩) hb _)
theorem put4_bel' {n : Nat} {a W : World} {b o : Nat} {z : N4} (h : Below n a W) (hb : n ≤ b) : Below n a (put4 W b o z) :=
  (((h.setCell (p := ⟨b, o, none⟩) hb _).setCell (p := ⟨b, o + 1, none⟩) hb _).setCell (p := ⟨b, o + 2, none⟩) hb _).setCell (p := ⟨b, o + 3, none⟩) hb _
end Go.Proofs.Ytpjljjajnfoccaa
