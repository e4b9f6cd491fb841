/-
  Rows of words: their worth, how they lie in memory, and what a call that writes into some blocks leaves.
-/
import Derived.Test.YtfaocjcpnjmfiaaGreatDoorMul
import Derived.Test.YtfaocjcpnjmfiaaGreatDoorOrd
import Derived.Test.YtfaocjcpnjmfiaaGreatDoorRegion2
namespace Go.Proofs.YtfaocjcpnjmfiaaGreatDoor
open Go.RowKit
set_option linter.unusedVariables false
/-! ### worth -/
def wd (l : List W64) (i : Nat) : W64 := l.getD i 0#64
/-- The worth of k words from j on. -/
def wseg (l : List W64) (j : Nat) : Nat → Nat
  | 0 => 0
  | k + 1 => wseg l j k + 18446744073709551616 ^ k * (wd l (j + k)).toNat
theorem wseg_lt (l : List W64) (j k : Nat) : wseg l j k < 18446744073709551616 ^ k := by
  induction k with
  | zero => simp [wseg]
  | succ k ih =>
    have h := (wd l (j + k)).isLt
    rw [wseg, Nat.pow_succ]
    have : 18446744073709551616 ^ k * (wd l (j + k)).toNat ≤ 18446744073709551616 ^ k * 18446744073709551615 := Nat.mul_le_mul_left _ (by omega)
    omega
theorem wseg_congr {l m : List W64} {j i k : Nat} (h : ∀ t, t < k → wd l (j + t) = wd m (i + t)) : wseg l j k = wseg m i k := by
  induction k with
  | zero => rfl
  | succ k ih => rw [wseg, wseg, ih (fun t ht => h t (by omega)), h k (by omega)]
theorem wseg_head (l : List W64) (j k : Nat) : wseg l j (k + 1) = (wd l j).toNat + 18446744073709551616 * wseg l (j + 1) k := by
  induction k with
  | zero => simp [wseg]
  | succ k ih =>
    rw [wseg, ih, wseg, Nat.mul_add, Nat.pow_succ, show j + 1 + k = j + (k + 1) by omega]
    generalize (wd l (j + (k + 1))).toNat = z
    generalize wseg l (j + 1) k = y
    generalize 18446744073709551616 ^ k = p
    have : p * 18446744073709551616 * z = 18446744073709551616 * (p * z) := by rw [Nat.mul_comm p, Nat.mul_assoc]
    omega
theorem wseg_split (l : List W64) (j a b : Nat) : wseg l j (a + b) = wseg l j a + 18446744073709551616 ^ a * wseg l (j + a) b := by
  induction b with
  | zero => simp [wseg]
  | succ b ih =>
    rw [← Nat.add_assoc, wseg, ih, wseg, Nat.mul_add, Nat.pow_add, Nat.mul_assoc, show j + (a + b) = j + a + b by omega, Nat.add_assoc]
theorem wseg_zero {l : List W64} {j k : Nat} (h : ∀ t, t < k → wd l (j + t) = 0#64) : wseg l j k = 0 := by
  induction k with
  | zero => rfl
  | succ k ih => rw [wseg, ih (fun t ht => h t (by omega)), h k (by omega)]; rfl
theorem wseg_is_zero {l : List W64} {j k : Nat} (h : wseg l j k = 0) : ∀ t, t < k → wd l (j + t) = 0#64 := by
  induction k with
  | zero => intro t ht; omega
  | succ k ih =>
    rw [wseg] at h
    have h1 : wseg l j k = 0 := by omega
    have h2 : 18446744073709551616 ^ k * (wd l (j + k)).toNat = 0 := by omega
    intro t ht
    by_cases e : t = k
    · subst e
      rcases Nat.mul_eq_zero.1 h2 with h3 | h3
      · exact absurd h3 (Nat.ne_of_gt (Nat.pow_pos (by decide)))
      · exact BitVec.eq_of_toNat_eq (by simpa using h3)
    · exact ih h1 t (by omega)
theorem wd_set (l : List W64) (i j : Nat) (v : W64) (h : i < l.length) : wd (l.set i v) j = if j = i then v else wd l j := by
  unfold wd
  rw [List.getD_eq_getElem?_getD, List.getD_eq_getElem?_getD, List.getElem?_set]
  by_cases e : i = j
  · subst e; simp [h]
  · rw [if_neg e, if_neg (fun k => e k.symm)]
theorem wd_get {l : List W64} {i : Nat} {x : W64} (h : l[i]? = some x) : wd l i = x := by unfold wd; rw [List.getD_eq_getElem?_getD, h]; rfl
theorem wd_lt {l : List W64} {i : Nat} (h : i < l.length) : l[i]? = some (wd l i) := by unfold wd; rw [List.getD_eq_getElem?_getD, List.getElem?_eq_getElem h]; rfl
theorem wd_ge {l : List W64} {i : Nat} (h : l.length ≤ i) : wd l i = 0#64 := by unfold wd; rw [List.getD_eq_getElem?_getD, List.getElem?_eq_none h]; rfl
theorem wd_replicate (n i : Nat) : wd (List.replicate n 0#64) i = 0#64 := by
  unfold wd; rw [List.getD_eq_getElem?_getD, List.getElem?_replicate]; split <;> rfl
theorem wd_take (l : List W64) (n i : Nat) (h : i < n) : wd (l.take n) i = wd l i := by
  unfold wd; rw [List.getD_eq_getElem?_getD, List.getD_eq_getElem?_getD, List.getElem?_take, if_pos h]
def N4.l4 (x : N4) : List W64 := [x.a, x.b, x.c, x.d]
theorem N4.wseg4 (x : N4) : wseg x.l4 0 4 = x.toNat := by
  unfold N4.l4 N4.toNat
  simp [wseg, wd]
/-- A number of four words out of a row. -/
def n4 (l : List W64) : N4 := ⟨wd l 0, wd l 1, wd l 2, wd l 3⟩
theorem n4_toNat (l : List W64) : (n4 l).toNat = wseg l 0 4 := by
  unfold n4 N4.toNat
  simp [wseg]
/-! ### in memory -/
structure RowW (w : World) (b o : Nat) (l : List W64) : Prop where
  cell : ∀ i, i < l.length → w.cell? ⟨b, o + i, none⟩ = some (V (wd l i))
  free : ∀ i, i < l.length → w.frozen? ⟨b, o + i, none⟩ = false
theorem RowW.lt {w : World} {b o : Nat} {l : List W64} (h : RowW w b o l) (hl : 0 < l.length) : b < w.heap.size := World.block_lt_of_cell? w _ (h.cell 0 hl)
theorem RowW.drewN {w : World} {b o : Nat} {l : List W64} (h : RowW w b o l) (n : Nat) : RowW (w.drewN n) b o l := ⟨h.cell, h.free⟩
theorem RowW.drew {w : World} {b o : Nat} {l : List W64} (h : RowW w b o l) : RowW w.drew b o l := ⟨h.cell, h.free⟩
theorem RowW.set {w : World} {b o : Nat} {l : List W64} (h : RowW w b o l) (i : Nat) (v : W64) (hi : i < l.length) : RowW (w.setCell ⟨b, o + i, none⟩ (V v)) b o (l.set i v) := by
  constructor
  · intro j hj
    rw [List.length_set] at hj
    rw [wd_set _ _ _ _ hi]
    by_cases e : j = i
    · subst e
      rw [if_pos rfl]
      have hc := h.cell j hj
      simp [go_sem, hc]
    · rw [if_neg e, World.cell?_setCell_other _ _ _ _ (fun k => by injection k with _ k2; omega)]
      exact h.cell j hj
  · intro j hj
    rw [List.length_set] at hj
    have := h.free j hj
    simp [go_sem, this]
theorem RowW.far {w : World} {b o : Nat} {l : List W64} (h : RowW w b o l) {c p : Nat} (v : Value) (hne : b ≠ c) : RowW (w.setCell ⟨c, p, none⟩ v) b o l := by
  constructor
  · intro j hj
    rw [World.cell?_setCell_other _ _ _ _ (fun k => by injection k with k1 _; exact hne k1.symm)]
    exact h.cell j hj
  · intro j hj
    have := h.free j hj
    simp [go_sem, this]
theorem RowW.alloc {w : World} {b o : Nat} {l : List W64} (h : RowW w b o l) (ob : Obj) : RowW (w.alloc ob) b o l := by
  constructor
  · intro j hj
    exact bel_cell (bel_alloc (bel_refl w) ob) (h.cell j hj)
  · intro j hj
    have hlt : b < w.heap.size := World.block_lt_of_cell? w _ (h.cell j hj)
    exact ((bel_alloc (bel_refl w) ob).frozen (p := ⟨b, o + j, none⟩) hlt).trans (h.free j hj)
theorem RowW.at4 {w : World} {b o : Nat} {l : List W64} (h : RowW w b o l) (hl : 4 ≤ l.length) : At4 w b o (n4 l) :=
  ⟨h.cell 0 (by omega), h.cell 1 (by omega), h.cell 2 (by omega), h.cell 3 (by omega)⟩
theorem RowW.free4 {w : World} {b o : Nat} {l : List W64} (h : RowW w b o l) (hl : 4 ≤ l.length) : Free4 w b o :=
  ⟨h.free 0 (by omega), h.free 1 (by omega), h.free 2 (by omega), h.free 3 (by omega)⟩
theorem At4.cellAt {w : World} {b o : Nat} {x : N4} (h : At4 w b o x) : ∀ i, i < 4 → w.cell? ⟨b, o + i, none⟩ = some (V (wd x.l4 i)) := by
  intro i hi
  match i, hi with
  | 0, _ => exact h.c0
  | 1, _ => exact h.c1
  | 2, _ => exact h.c2
  | 3, _ => exact h.c3
theorem RowW.of4 {w : World} {b o : Nat} {x : N4} (h : At4 w b o x) (f : Free4 w b o) : RowW w b o x.l4 := by
  refine ⟨h.cellAt, fun i hi => ?_⟩
  match i, hi with
  | 0, _ => exact f.f0
  | 1, _ => exact f.f1
  | 2, _ => exact f.f2
  | 3, _ => exact f.f3
/-! ### what a call leaves -/
/-- Of the blocks that were there none has turned, but for those of S. -/
structure But (S : List Nat) (w w' : World) : Prop where
  os : w'.os = w.os
  tape : w'.tape = w.tape
  output : w'.output = w.output
  size : w.heap.size ≤ w'.heap.size
  block : ∀ k, k < w.heap.size → k ∉ S → w'.heap[k]? = w.heap[k]?
theorem But.refl (S : List Nat) (w : World) : But S w w := ⟨rfl, rfl, rfl, Nat.le_refl _, fun _ _ _ => rfl⟩
theorem But.trans {S : List Nat} {a b c : World} (h : But S a b) (k : But S b c) : But S a c :=
  ⟨k.os.trans h.os, k.tape.trans h.tape, k.output.trans h.output, Nat.le_trans h.size k.size, fun i hi hs => (k.block i (Nat.lt_of_lt_of_le hi h.size) hs).trans (h.block i hi hs)⟩
theorem But.mono {S T : List Nat} {w w' : World} (h : But S w w') (hs : ∀ k, k < w.heap.size → k ∈ S → k ∈ T) : But T w w' := ⟨h.os, h.tape, h.output, h.size, fun k hk hT => h.block k hk (fun e => hT (hs k hk e))⟩
theorem But.drewN {S : List Nat} {w w' : World} (h : But S w w') (n : Nat) : But S w (w'.drewN n) := ⟨h.os, h.tape, h.output, h.size, h.block⟩
theorem But.drew {S : List Nat} {w w' : World} (h : But S w w') : But S w w'.drew := ⟨h.os, h.tape, h.output, h.size, h.block⟩
theorem But.of_bel {S : List Nat} {w w' : World} (h : Below w.heap.size w w') : But S w w' := ⟨h.os, h.tape, h.output, h.size, fun k hk _ => h.block k hk⟩
theorem But.set {S : List Nat} {w w' : World} (h : But S w w') {b : Nat} (hb : b ∈ S ∨ w.heap.size ≤ b) (o : Nat) (v : Value) : But S w (w'.setCell ⟨b, o, none⟩ v) :=
  ⟨h.os, h.tape, h.output, by have := h.size; simpa [World.setCell] using this, fun k hk hs => by
    rw [Below.heap_setCell _ _ _ _ (fun e => by
      simp only at e
      rcases hb with hb | hb
      · exact hs (e ▸ hb)
      · omega)]
    exact h.block k hk hs⟩
theorem But.alloc {S : List Nat} {w w' : World} (h : But S w w') (ob : Obj) : But S w (w'.alloc ob) := h.trans (But.of_bel (bel_alloc (bel_refl _) _))
/-- Where all of S is new, memory has only grown. -/
theorem But.bel {S : List Nat} {w0 w w' : World} (h : But S w w') (k : Below w0.heap.size w0 w) (hs : ∀ b ∈ S, w0.heap.size ≤ b) : Below w0.heap.size w0 w' :=
  ⟨h.os.trans k.os, h.tape.trans k.tape, h.output.trans k.output, Nat.le_trans k.size h.size, fun i hi => (h.block i (Nat.lt_of_lt_of_le hi k.size) (fun e => by have := hs i e; omega)).trans (k.block i hi)⟩
theorem But.cell {S : List Nat} {w w' : World} (h : But S w w') {b o : Nat} {v : Value} (hb : b ∉ S) (hc : w.cell? ⟨b, o, none⟩ = some v) : w'.cell? ⟨b, o, none⟩ = some v :=
  (World.cell?_of_block (w := w) (a := ⟨b, o, none⟩) (h.block b (World.block_lt_of_cell? w _ hc) hb)).trans hc
theorem But.froz {S : List Nat} {w w' : World} (h : But S w w') {b o : Nat} (hb : b ∉ S) (hl : b < w.heap.size) : w'.frozen? ⟨b, o, none⟩ = w.frozen? ⟨b, o, none⟩ :=
  World.frozen?_of_block (w := w) (a := ⟨b, o, none⟩) (h.block b hl hb)
theorem At4.but {S : List Nat} {w w' : World} {b o : Nat} {x : N4} (h : At4 w b o x) (k : But S w w') (hb : b ∉ S) : At4 w' b o x :=
  ⟨k.cell hb h.c0, k.cell hb h.c1, k.cell hb h.c2, k.cell hb h.c3⟩
theorem Free4.but {S : List Nat} {w w' : World} {b o : Nat} (h : Free4 w b o) (hl : b < w.heap.size) (k : But S w w') (hb : b ∉ S) : Free4 w' b o :=
  ⟨(k.froz hb hl).trans h.f0, (k.froz hb hl).trans h.f1, (k.froz hb hl).trans h.f2, (k.froz hb hl).trans h.f3⟩
theorem RowW.but {S : List Nat} {w w' : World} {b o : Nat} {l : List W64} (h : RowW w b o l) (k : But S w w') (hb : b ∉ S) : RowW w' b o l :=
  ⟨fun i hi => k.cell hb (h.cell i hi), fun i hi => (k.froz hb (World.block_lt_of_cell? w _ (h.cell i hi))).trans (h.free i hi)⟩
theorem RowW.bel {w w' : World} {b o : Nat} {l : List W64} (h : RowW w b o l) (k : Below w.heap.size w w') : RowW w' b o l := h.but (But.of_bel k) (S := []) (by simp)
/-! ### a step of the long product's subtraction -/
theorem submul_word (x y m br : W64) :
    x.toNat + (mulH y m + bw (subC x br false) + bw (subC (subD x br false) (mulL y m) false)).toNat * 18446744073709551616 = (subD (subD x br false) (mulL y m) false).toNat + y.toNat * m.toNat + br.toNat := by
  have hm := mul_spec y m
  have hp := word_prod_le y m
  have h1 := sub_spec x br false
  have h2 := sub_spec (subD x br false) (mulL y m) false
  have e : ∀ c : Bool, (bw c).toNat = c.toNat := fun c => by cases c <;> rfl
  rw [BitVec.toNat_add, BitVec.toNat_add, e, e]
  have a1 := x.isLt; have a2 := br.isLt; have a3 := (mulL y m).isLt; have a4 := (mulH y m).isLt
  have a5 := (subD x br false).isLt; have a6 := (subD (subD x br false) (mulL y m) false).isLt
  have c1 : (subC x br false).toNat ≤ 1 := by cases subC x br false <;> decide
  have c2 : (subC (subD x br false) (mulL y m) false).toNat ≤ 1 := by cases subC (subD x br false) (mulL y m) false <;> decide
  simp only [Bool.toNat_false] at h1 h2
  generalize y.toNat * m.toNat = p at *
  omega
end Go.Proofs.YtfaocjcpnjmfiaaGreatDoor
