/-
  How a number's four words are stored one by one; what SetBytes1 to SetBytes32 leave.
-/
import Derived.Test.YtpmhkmcikjbncaaFmtRd
import Derived.Test.YtpmhkmcikjbncaaFmtDig5
namespace Go.Proofs.YtpmhkmcikjbncaaFmt
open Go.RowKit
set_option linter.unusedVariables false
set_option linter.unusedSimpArgs false
set_option maxRecDepth 100000
theorem put4_one (w : World) (b o : Nat) (z : N4) (j : Nat) (hj : j < 4) (v : W64) : (put4 w b o z).setCell ⟨b, o + j, none⟩ (V v) = put4 w b o (z.setW j v) := by
  rcases (by omega : j = 0 ∨ j = 1 ∨ j = 2 ∨ j = 3) with rfl | rfl | rfl | rfl
  · unfold put4 N4.setW
    simp only [if_true, Nat.add_zero]
    rw [setCell_comm _ ⟨b, o + 3, none⟩ ⟨b, o, none⟩ _ _ (by simp), setCell_comm _ ⟨b, o + 2, none⟩ ⟨b, o, none⟩ _ _ (by simp), setCell_comm _ ⟨b, o + 1, none⟩ ⟨b, o, none⟩ _ _ (by simp), setCell_again]
  · unfold put4 N4.setW
    simp only [if_true, if_false, Nat.one_ne_zero, reduceIte]
    rw [setCell_comm _ ⟨b, o + 3, none⟩ ⟨b, o + 1, none⟩ _ _ (by simp), setCell_comm _ ⟨b, o + 2, none⟩ ⟨b, o + 1, none⟩ _ _ (by simp), setCell_again]
  · unfold put4 N4.setW
    simp only [if_true, if_false, reduceIte, show ¬ (2 : Nat) = 0 by omega, show ¬ (2 : Nat) = 1 by omega]
    rw [setCell_comm _ ⟨b, o + 3, none⟩ ⟨b, o + 2, none⟩ _ _ (by simp), setCell_again]
  · unfold put4 N4.setW
    simp only [if_true, if_false, reduceIte, show ¬ (3 : Nat) = 0 by omega, show ¬ (3 : Nat) = 1 by omega, show ¬ (3 : Nat) = 2 by omega]
    rw [setCell_again]
theorem Left.one {W0 W : World} {b o : Nat} {z : N4} (h : Left W0 b o z W) (j : Nat) (hj : j < 4) (v : W64) : Left W0 b o (z.setW j v) (W.setCell ⟨b, o + j, none⟩ (V v)) := by
  refine ⟨⟨h.bel.os, h.bel.tape, h.bel.output, ?_, fun k hk => ?_⟩⟩
  · have := h.bel.size
    rw [put4_size] at this ⊢
    simpa [World.setCell] using this
  · have e := h.bel.block k hk
    rw [← put4_one _ _ _ _ j hj]
    unfold World.setCell
    simp only [Array.getElem?_modify, e]
theorem Left.grow {W0 W w1 : World} {b o : Nat} {z : N4} (h : Left W0 b o z W) (k : Below W.heap.size W w1) : Left W0 b o z w1 := by
  have := h.bel.size
  rw [put4_size] at this
  exact ⟨h.bel.trans (k.mono this)⟩
theorem Left.drew {W0 W : World} {b o : Nat} {z : N4} (h : Left W0 b o z W) : Left W0 b o z W.drew := ⟨h.bel.drew⟩
theorem setCell_same (w : World) (b o : Nat) (v : Value) (h : w.cell? ⟨b, o, none⟩ = some v) : w.setCell ⟨b, o, none⟩ v = w := by
  have e : (w.setCell ⟨b, o, none⟩ v).heap = w.heap := by
    unfold World.setCell
    apply Array.ext_getElem?
    intro i
    simp only [Array.getElem?_modify]
    by_cases hb : b = i
    · subst hb
      simp only [if_true]
      unfold World.cell? at h
      cases hh : w.heap[b]? with
      | none => rfl
      | some ob =>
        rw [hh] at h
        cases ob with
        | cells c e f =>
          simp at h
          simp only [Option.map_some, Option.some.injEq]
          simp
          apply Array.ext_getElem?
          intro j
          rw [Array.getElem?_setIfInBounds]
          split
          · rename_i hj
            subst hj
            split
            · exact h.symm
            · rename_i hlt; rw [Array.getElem?_eq_none (by omega)]
          · rfl
        | _ => simp at h
    · simp only [hb, if_false]
  have e2 : w.setCell ⟨b, o, none⟩ v = { w with heap := (w.setCell ⟨b, o, none⟩ v).heap } := rfl
  rw [e2, e]
theorem put4_same {w : World} {b o : Nat} {z : N4} (h : At4 w b o z) : put4 w b o z = w := by
  unfold put4
  rw [setCell_same w _ _ _ h.c0, setCell_same w _ _ _ h.c1, setCell_same w _ _ _ h.c2, setCell_same w _ _ _ h.c3]
theorem Left.atz {W w' : World} {b o : Nat} {z y : N4} (h : Left W b o z w') (hz : At4 W b o y) : At4 w' b o z := by
  have k := put4_at W b o z y hz
  have hb := hz.lt
  exact ⟨(h.bel.cell (p := ⟨b, o, none⟩) hb).trans k.c0, (h.bel.cell (p := ⟨b, o + 1, none⟩) hb).trans k.c1, (h.bel.cell (p := ⟨b, o + 2, none⟩) hb).trans k.c2, (h.bel.cell (p := ⟨b, o + 3, none⟩) hb).trans k.c3⟩
theorem Left.frz {W w' : World} {b o : Nat} {z : N4} (h : Left W b o z w') (hf : Free4 W b o) (hb : b < W.heap.size) : Free4 w' b o := by
  have k := hf.put (b := b) (o := o) z
  exact ⟨(h.bel.frozen (p := ⟨b, o, none⟩) hb).trans k.f0, (h.bel.frozen (p := ⟨b, o + 1, none⟩) hb).trans k.f1, (h.bel.frozen (p := ⟨b, o + 2, none⟩) hb).trans k.f2, (h.bel.frozen (p := ⟨b, o + 3, none⟩) hb).trans k.f3⟩
theorem Left.bytes {W w' : World} {b o g q : Nat} {z : N4} {l : List UInt8} (h : Left W b o z w') (hB : BytesAt W g q l) (hne : g ≠ b) : BytesAt w' g q l := fun i u hu => by
  have h1 := hB i u hu
  rw [h.bel.cell (p := ⟨g, q + i, none⟩) (World.block_lt_of_cell? _ _ h1), put4_cell _ _ _ _ _ _ (fun e => absurd e hne)]
  exact h1
theorem Left.start {W0 : World} {b o : Nat} {z : N4} (h : At4 W0 b o z) : Left W0 b o z W0 := by
  have e : put4 W0 b o z = W0 := put4_same h
  exact ⟨by rw [e]; exact Below.refl _ _⟩
/-- A part of a list of bytes. -/
def seg (l : List UInt8) (a m : Nat) : List UInt8 := (l.drop a).take m
theorem seg_len (l : List UInt8) (a m : Nat) : (seg l a m).length = min m (l.length - a) := by unfold seg; rw [List.length_take, List.length_drop]
theorem seg_zero (l : List UInt8) (m : Nat) : seg l 0 m = l.take m := rfl
theorem beNat_take1 {l : List UInt8} {u : UInt8} (h : l[0]? = some u) : Lib.beNat (seg l 0 1) = u.toNat := by
  cases l with
  | nil => simp at h
  | cons b l => simp at h; subst h; simp [seg, Lib.beNat, Lib.beFrom]
theorem take_split (l : List UInt8) (a n : Nat) : l.take (a + n) = l.take a ++ seg l a n := List.take_add
end Go.Proofs.YtpmhkmcikjbncaaFmt
