/-
  Contracts of uint256's SDiv, SMod and DivMod, whatever places receivers and operands are.
-/
import Derived.Test.YtbmlbjpiodiihaaDiv7
namespace Go.Proofs.Ytbmlbjpiodiihaa
open Go.RowKit
set_option linter.unusedVariables false
set_option linter.unusedSimpArgs false
set_option maxRecDepth 20000
/-! ### what two writes leave -/
theorem put4_block {A B : World} {b o k : Nat} {z : N4} (h : B.heap[k]? = A.heap[k]?) : (put4 B b o z).heap[k]? = (put4 A b o z).heap[k]? := by
  unfold put4 World.setCell
  simp only [Array.getElem?_modify, h]
theorem put4_other {A : World} {b o k : Nat} {z : N4} (h : k ≠ b) : (put4 A b o z).heap[k]? = A.heap[k]? := by
  unfold put4
  rw [Below.heap_setCell _ _ _ _ h, Below.heap_setCell _ _ _ _ h, Below.heap_setCell _ _ _ _ h, Below.heap_setCell _ _ _ _ h]
theorem Left.size {W w' : World} {b o : Nat} {z : N4} (h : Left W b o z w') : W.heap.size ≤ w'.heap.size := by have := h.bel.size; rw [put4_size] at this; exact this
theorem Left.at4 {W w' : World} {b o : Nat} {z y : N4} (h : Left W b o z w') (hz : At4 W b o y) : At4 w' b o z :=
  (put4_at W b o z y hz).bel (by rw [put4_size]; exact h.bel)
theorem Left.free {W w' : World} {b o c p : Nat} {z : N4} (h : Left W b o z w') (hf : Free4 W c p) (hc : c < W.heap.size) : Free4 w' c p :=
  (hf.put (b := b) (o := o) z).bel (by rw [put4_size]; exact hc) (by rw [put4_size]; exact h.bel)
theorem Left.far {W w' : World} {b o c p : Nat} {z x : N4} (h : Left W b o z w') (hx : At4 W c p x) (hne : c ≠ b) : At4 w' c p x :=
  (put4_far (z := z) hx (fun e => absurd e hne)).bel (by rw [put4_size]; exact h.bel)
/-- A second write into the same place. -/
theorem Left.again {W W1 w' : World} {b o : Nat} {z y : N4} (h : Left W b o z W1) (k : Left W1 b o y w') : Left W b o y w' := by
  refine ⟨⟨k.bel.os.trans h.bel.os, k.bel.tape.trans h.bel.tape, k.bel.output.trans h.bel.output, ?_, fun i hi => ?_⟩⟩
  · rw [put4_size]; exact Nat.le_trans h.size k.size
  · rw [k.bel.block i (Nat.lt_of_lt_of_le hi h.size), put4_block (h.bel.block i hi), put4_put4]
/-- A write behind new blocks. -/
theorem Left.behind {W W1 w' : World} {b o : Nat} {z : N4} (h : Below W.heap.size W W1) (k : Left W1 b o z w') : Left W b o z w' := by
  refine ⟨⟨k.bel.os.trans h.os, k.bel.tape.trans h.tape, k.bel.output.trans h.output, ?_, fun i hi => ?_⟩⟩
  · rw [put4_size]; exact Nat.le_trans h.size k.size
  · rw [k.bel.block i (Nat.lt_of_lt_of_le hi h.size), put4_block (h.block i hi)]
/-- A write into a new block: memory has only grown. -/
theorem Left.grown {W W1 w' : World} {b o : Nat} {z : N4} (h : Below W.heap.size W W1) (k : Left W1 b o z w') (hb : W.heap.size ≤ b) : Below W.heap.size W w' := by
  refine ⟨k.bel.os.trans h.os, k.bel.tape.trans h.tape, k.bel.output.trans h.output, Nat.le_trans h.size k.size, fun i hi => ?_⟩
  rw [k.bel.block i (Nat.lt_of_lt_of_le hi h.size), put4_other (by omega), h.block i hi]
theorem Left.drewN {W w' : World} {b o : Nat} {z : N4} (h : Left W b o z w') (n : Nat) : Left W b o z (w'.drewN n) := ⟨⟨h.bel.os, h.bel.tape, h.bel.output, h.bel.size, h.bel.block⟩⟩
theorem new0_at (w : World) (t : TypeId) : At4 (w.alloc (.cells #[.int .u64 0, .int .u64 0, .int .u64 0, .int .u64 0] t)) w.heap.size 0 ⟨0#64, 0#64, 0#64, 0#64⟩ := by
  constructor <;> simp [go_sem] <;> rfl
theorem new0_free (w : World) (t : TypeId) : Free4 (w.alloc (.cells #[.int .u64 0, .int .u64 0, .int .u64 0, .int .u64 0] t)) w.heap.size 0 := by
  constructor <;> simp [go_sem]
/-- The negated number. -/
def N4.neg0 (x : N4) : N4 := N4.dif ⟨0#64, 0#64, 0#64, 0#64⟩ x
theorem pos_iff (x : N4) : (0 < x.sign) ↔ (x.isZ = false ∧ x.neg = false) := by
  rw [sign_eq]
  cases x.isZ <;> cases x.neg <;> simp
theorem sign_m1 (x : N4) : (x.sign == -1) = (!x.isZ && x.neg) := by
  rw [sign_eq]
  cases x.isZ <;> cases x.neg <;> simp
/-- A new number that is another one negated. -/
theorem neg_new {w : World} {c p : Nat} {x : N4} (hx : At4 w c p x) (ht : 87 = 87) : Calls Try.prog 94 #[.pointer (some ⟨w.heap.size, 0, none⟩), .pointer (some ⟨c, p, none⟩)] (w.alloc (Obj.cells #[.int .u64 0, .int .u64 0, .int .u64 0, .int .u64 0] 87)) fun e w' => e = .returned (.pointer (some ⟨w.heap.size, 0, none⟩)) ∧ At4 w' w.heap.size 0 x.neg0 ∧ Free4 w' w.heap.size 0 ∧ Below w.heap.size w w' := by
  have hlt := hx.lt
  refine (neg_any w.heap.size 0 c p ⟨0#64, 0#64, 0#64, 0#64⟩ x _ (new0_at w _) (new0_free w _) (hx.alloc _) (Sep.blocks (by omega))).mono ?_
  rintro e w' ⟨h1, h2⟩
  exact ⟨h1, h2.at4 (new0_at w _), h2.free (new0_free w _) (by simp), Left.grown (bel_alloc (bel_refl w) _) h2 (Nat.le_refl _)⟩
/-- What SDiv gives. -/
def N4.sdiv (x y : N4) : N4 :=
  if 0 < x.sign then (if 0 < y.sign then ofN (x.toNat / y.toNat) else (ofN (x.toNat / y.neg0.toNat)).neg0)
  else (if y.sign < 0 then ofN (x.neg0.toNat / y.neg0.toNat) else (ofN (x.neg0.toNat / y.toNat)).neg0)
set_option maxHeartbeats 2000000 in
theorem sdivInt_any (b o c p d q : Nat) (z x y : N4) (w : World) (hz : At4 w b o z) (fz : Free4 w b o) (hx : At4 w c p x) (fx : Free4 w c p) (hy : At4 w d q y) :
    Calls Try.prog 56 #[.pointer (some ⟨b, o, none⟩), .pointer (some ⟨c, p, none⟩), .pointer (some ⟨d, q, none⟩)] w (RetLeft b o (x.sdiv y) w) := by
  have hb := hz.lt
  have hc := hx.lt
  have hd := hy.lt
  have Hz := Lib.hid hz
  have Hf := Lib.hid fz
  have Hx := Lib.hid hx
  have Hfx := Lib.hid fx
  have Hy := Lib.hid hy
  have key : ∀ r, x.sdiv y = r → Hid (x.sdiv y = r) := fun _ h => h
  clear hz fz hx fx hy
  by_cases h1 : 0 < x.sign
  · by_cases h2 : 0 < y.sign
    · have K := key _ (by unfold N4.sdiv; rw [if_pos h1, if_pos h2])
      clear key
      go_enter Try.func56, Try.ntmps56
      go_wp2_with fail
      refine (sign_any c p x _ Hx.out).mono ?_
      rintro e w' ⟨rfl, n1, rfl⟩
      go_wp2_with fail
      refine (sign_any d q y _ (Hy.out.drewN n1)).mono ?_
      rintro e w' ⟨rfl, n2, rfl⟩
      go_wp2_with fail
      refine (divInt_any b o c p d q z x y _ (Hz.out.drewN (n1 + n2)) (Hf.out.drewN (n1 + n2)) (Hx.out.drewN (n1 + n2)) (Hfx.out.drewN (n1 + n2)) (Hy.out.drewN (n1 + n2))).mono ?_
      rintro e w' ⟨rfl, hL⟩
      go_wp2
      go_ret
      rw [K.out]
      exact ⟨rfl, Left.behind (bel_drewN (bel_refl w) _) hL⟩
    · have K := key _ (by unfold N4.sdiv; rw [if_pos h1, if_neg h2])
      clear key
      go_enter Try.func56, Try.ntmps56
      go_wp2_with fail
      refine (sign_any c p x _ Hx.out).mono ?_
      rintro e w' ⟨rfl, n1, rfl⟩
      go_wp2_with fail
      refine (sign_any d q y _ (Hy.out.drewN n1)).mono ?_
      rintro e w' ⟨rfl, n2, rfl⟩
      go_wp2_with fail
      have NW := Lib.hid (neg_new (Hy.out.drewN (n1 + n2)) rfl)
      refine NW.out.mono ?_
      rintro e w3 ⟨rfl, ha3, hf3, hb3⟩
      have hb3' := bel_trans (bel_drewN (bel_refl w) (n1 + n2)) hb3
      have HB3 := Lib.hid hb3'
      have HA3 := Lib.hid ha3
      have Hz3 := Lib.hid (Hz.out.bel hb3')
      have Hf3 := Lib.hid (Hf.out.bel hb hb3')
      have Hx3 := Lib.hid (Hx.out.bel hb3')
      have Hfx3 := Lib.hid (Hfx.out.bel hc hb3')
      clear ha3 hf3 hb3 hb3'
      go_wp2_with fail
      refine (divInt_any b o c p _ 0 z x y.neg0 _ Hz3.out Hf3.out Hx3.out Hfx3.out HA3.out).mono ?_
      rintro e w4 ⟨rfl, hL⟩
      have HL := Lib.hid hL
      clear hL
      go_wp2_with fail
      refine (neg_any b o b o _ _ _ (HL.out.at4 Hz3.out) (HL.out.free Hf3.out Hz3.out.lt) (HL.out.at4 Hz3.out) (Sep.rfl' _ _)).mono ?_
      rintro e w5 ⟨rfl, hL2⟩
      go_wp2
      go_ret
      rw [K.out]
      exact ⟨rfl, Left.behind HB3.out (HL.out.again hL2)⟩
  · by_cases h2 : y.sign < 0
    · have K := key _ (by unfold N4.sdiv; rw [if_neg h1, if_pos h2])
      clear key
      go_enter Try.func56, Try.ntmps56
      go_wp2_with fail
      refine (sign_any c p x _ Hx.out).mono ?_
      rintro e w' ⟨rfl, n1, rfl⟩
      go_wp2_with fail
      refine (sign_any d q y _ (Hy.out.drewN n1)).mono ?_
      rintro e w' ⟨rfl, n2, rfl⟩
      go_wp2_with fail
      have NW := Lib.hid (neg_new (Hx.out.drewN (n1 + n2)) rfl)
      refine NW.out.mono ?_
      rintro e w3 ⟨rfl, ha3, hf3, hb3⟩
      have hb3' := bel_trans (bel_drewN (bel_refl w) (n1 + n2)) hb3
      have HB3 := Lib.hid hb3'
      have HA3 := Lib.hid ha3
      have HF3 := Lib.hid hf3
      have Hy3 := Lib.hid (Hy.out.bel hb3')
      clear ha3 hf3 hb3 hb3'
      go_wp2_with fail
      have NW2 := Lib.hid (neg_new Hy3.out rfl)
      refine NW2.out.mono ?_
      rintro e w4 ⟨rfl, ha4, hf4, hb4⟩
      have HB4 := Lib.hid (bel_trans HB3.out hb4)
      have HA4 := Lib.hid ha4
      have HX4 := Lib.hid (HA3.out.bel hb4)
      have HFX4 := Lib.hid (HF3.out.bel HA3.out.lt hb4)
      clear ha4 hf4 hb4
      go_wp2_with fail
      refine (divInt_any b o _ 0 _ 0 z x.neg0 y.neg0 _ (Hz.out.bel HB4.out) (Hf.out.bel hb HB4.out) HX4.out HFX4.out HA4.out).mono ?_
      rintro e w5 ⟨rfl, hL⟩
      go_wp2
      go_ret
      rw [K.out]
      exact ⟨rfl, Left.behind HB4.out hL⟩
    · have K := key _ (by unfold N4.sdiv; rw [if_neg h1, if_neg h2])
      clear key
      go_enter Try.func56, Try.ntmps56
      go_wp2_with fail
      refine (sign_any c p x _ Hx.out).mono ?_
      rintro e w' ⟨rfl, n1, rfl⟩
      go_wp2_with fail
      refine (sign_any d q y _ (Hy.out.drewN n1)).mono ?_
      rintro e w' ⟨rfl, n2, rfl⟩
      go_wp2_with fail
      have NW := Lib.hid (neg_new (Hx.out.drewN (n1 + n2)) rfl)
      refine NW.out.mono ?_
      rintro e w3 ⟨rfl, ha3, hf3, hb3⟩
      have hb3' := bel_trans (bel_drewN (bel_refl w) (n1 + n2)) hb3
      have HB3 := Lib.hid hb3'
      have HA3 := Lib.hid ha3
      have HF3 := Lib.hid hf3
      have Hz3 := Lib.hid (Hz.out.bel hb3')
      have Hf3 := Lib.hid (Hf.out.bel hb hb3')
      have Hy3 := Lib.hid (Hy.out.bel hb3')
      clear ha3 hf3 hb3 hb3'
      go_wp2_with fail
      refine (divInt_any b o _ 0 d q z x.neg0 y _ Hz3.out Hf3.out HA3.out HF3.out Hy3.out).mono ?_
      rintro e w4 ⟨rfl, hL⟩
      have HL := Lib.hid hL
      clear hL
      go_wp2_with fail
      refine (neg_any b o b o _ _ _ (HL.out.at4 Hz3.out) (HL.out.free Hf3.out Hz3.out.lt) (HL.out.at4 Hz3.out) (Sep.rfl' _ _)).mono ?_
      rintro e w5 ⟨rfl, hL2⟩
      go_wp2
      go_ret
      rw [K.out]
      exact ⟨rfl, Left.behind HB3.out (HL.out.again hL2)⟩
/-- What SMod gives. -/
def N4.smod (x y : N4) : N4 :=
  if (x.sign == -1) = true then (if (y.sign == -1) = true then (remN x.neg0 y.neg0).neg0 else (remN x.neg0 y).neg0)
  else (if (y.sign == -1) = true then remN x y.neg0 else remN x y)
set_option maxHeartbeats 2000000 in
theorem smodInt_any (b o c p d q : Nat) (z x y : N4) (w : World) (hz : At4 w b o z) (fz : Free4 w b o) (hx : At4 w c p x) (fx : Free4 w c p) (hy : At4 w d q y) (sx : Sep b o c p) :
    Calls Try.prog 57 #[.pointer (some ⟨b, o, none⟩), .pointer (some ⟨c, p, none⟩), .pointer (some ⟨d, q, none⟩)] w (RetLeft b o (x.smod y) w) := by
  have hb := hz.lt
  have hc := hx.lt
  have hd := hy.lt
  have Hz := Lib.hid hz
  have Hf := Lib.hid fz
  have Hx := Lib.hid hx
  have Hfx := Lib.hid fx
  have Hy := Lib.hid hy
  have key : ∀ r, x.smod y = r → Hid (x.smod y = r) := fun _ h => h
  clear hz fz hx fx hy
  cases h1 : (x.sign == -1) <;> cases h2 : (y.sign == -1)
  · have K := key _ (by unfold N4.smod; rw [if_neg (by rw [h1]; decide), if_neg (by rw [h2]; decide)])
    clear key
    go_enter Try.func57, Try.ntmps57
    go_wp2_with fail
    refine (sign_any d q y _ Hy.out).mono ?_
    rintro e w' ⟨rfl, n1, rfl⟩
    go_wp2_with fail
    refine (sign_any c p x _ (Hx.out.drewN n1)).mono ?_
    rintro e w' ⟨rfl, n2, rfl⟩
    go_wp2_with fail
    have HB0 := Lib.hid (bel_drewN (bel_refl w) (n1 + n2))
    have HB1 := HB0
    clear HB0
    have HB2 := HB1
    clear HB1
    refine (modInt_any b o c p d q z x y _ (Hz.out.bel HB2.out) (Hf.out.bel hb HB2.out) (Hx.out.bel HB2.out) (Hfx.out.bel hc HB2.out) (Hy.out.bel HB2.out) sx).mono ?_
    rintro e w5 ⟨rfl, hL⟩
    go_wp2
    go_ret
    rw [K.out]
    exact ⟨rfl, Left.behind HB2.out hL⟩
  · have K := key _ (by unfold N4.smod; rw [if_neg (by rw [h1]; decide), if_pos h2])
    clear key
    go_enter Try.func57, Try.ntmps57
    go_wp2_with fail
    refine (sign_any d q y _ Hy.out).mono ?_
    rintro e w' ⟨rfl, n1, rfl⟩
    go_wp2_with fail
    refine (sign_any c p x _ (Hx.out.drewN n1)).mono ?_
    rintro e w' ⟨rfl, n2, rfl⟩
    go_wp2_with fail
    have HB0 := Lib.hid (bel_drewN (bel_refl w) (n1 + n2))
    have HB1 := HB0
    clear HB0
    have NY := Lib.hid (neg_new (Hy.out.bel HB1.out) rfl)
    refine NY.out.mono ?_
    rintro e w4 ⟨rfl, ha4, hf4, hb4⟩
    have HB2 := Lib.hid (bel_trans HB1.out hb4)
    have HA4 := Lib.hid ha4
    clear ha4 hf4 hb4
    go_wp2_with fail
    refine (modInt_any b o c p _ 0 z x y.neg0 _ (Hz.out.bel HB2.out) (Hf.out.bel hb HB2.out) (Hx.out.bel HB2.out) (Hfx.out.bel hc HB2.out) HA4.out sx).mono ?_
    rintro e w5 ⟨rfl, hL⟩
    go_wp2
    go_ret
    rw [K.out]
    exact ⟨rfl, Left.behind HB2.out hL⟩
  · have K := key _ (by unfold N4.smod; rw [if_pos h1, if_neg (by rw [h2]; decide)])
    clear key
    go_enter Try.func57, Try.ntmps57
    go_wp2_with fail
    refine (sign_any d q y _ Hy.out).mono ?_
    rintro e w' ⟨rfl, n1, rfl⟩
    go_wp2_with fail
    refine (sign_any c p x _ (Hx.out.drewN n1)).mono ?_
    rintro e w' ⟨rfl, n2, rfl⟩
    go_wp2_with fail
    have HB0 := Lib.hid (bel_drewN (bel_refl w) (n1 + n2))
    have NX := Lib.hid (neg_new (Hx.out.bel HB0.out) rfl)
    refine NX.out.mono ?_
    rintro e w3 ⟨rfl, ha3, hf3, hb3⟩
    have HB1 := Lib.hid (bel_trans HB0.out hb3)
    have HA3 := Lib.hid ha3
    have HF3 := Lib.hid hf3
    clear ha3 hf3 hb3
    go_wp2_with fail
    have HB2 := HB1
    clear HB1
    have HX4 := HA3
    have HFX4 := HF3
    refine (modInt_any b o _ 0 d q z x.neg0 y _ (Hz.out.bel HB2.out) (Hf.out.bel hb HB2.out) HX4.out HFX4.out (Hy.out.bel HB2.out) (Sep.blocks (by have h := HB0.out.size; simp; omega))).mono ?_
    rintro e w5 ⟨rfl, hL⟩
    have HL := Lib.hid hL
    clear hL
    go_wp2_with fail
    refine (neg_any b o b o _ _ _ (HL.out.at4 (Hz.out.bel HB2.out)) (HL.out.free (Hf.out.bel hb HB2.out) (Hz.out.bel HB2.out).lt) (HL.out.at4 (Hz.out.bel HB2.out)) (Sep.rfl' _ _)).mono ?_
    rintro e w6 ⟨rfl, hL2⟩
    go_wp2
    go_ret
    rw [K.out]
    exact ⟨rfl, Left.behind HB2.out (HL.out.again hL2)⟩
  · have K := key _ (by unfold N4.smod; rw [if_pos h1, if_pos h2])
    clear key
    go_enter Try.func57, Try.ntmps57
    go_wp2_with fail
    refine (sign_any d q y _ Hy.out).mono ?_
    rintro e w' ⟨rfl, n1, rfl⟩
    go_wp2_with fail
    refine (sign_any c p x _ (Hx.out.drewN n1)).mono ?_
    rintro e w' ⟨rfl, n2, rfl⟩
    go_wp2_with fail
    have HB0 := Lib.hid (bel_drewN (bel_refl w) (n1 + n2))
    have NX := Lib.hid (neg_new (Hx.out.bel HB0.out) rfl)
    refine NX.out.mono ?_
    rintro e w3 ⟨rfl, ha3, hf3, hb3⟩
    have HB1 := Lib.hid (bel_trans HB0.out hb3)
    have HA3 := Lib.hid ha3
    have HF3 := Lib.hid hf3
    clear ha3 hf3 hb3
    go_wp2_with fail
    have NY := Lib.hid (neg_new (Hy.out.bel HB1.out) rfl)
    refine NY.out.mono ?_
    rintro e w4 ⟨rfl, ha4, hf4, hb4⟩
    have HB2 := Lib.hid (bel_trans HB1.out hb4)
    have HA4 := Lib.hid ha4
    have HX4 := Lib.hid (HA3.out.bel hb4)
    have HFX4 := Lib.hid (HF3.out.bel HA3.out.lt hb4)
    clear ha4 hf4 hb4
    go_wp2_with fail
    refine (modInt_any b o _ 0 _ 0 z x.neg0 y.neg0 _ (Hz.out.bel HB2.out) (Hf.out.bel hb HB2.out) HX4.out HFX4.out HA4.out (Sep.blocks (by have h := HB0.out.size; simp; omega))).mono ?_
    rintro e w5 ⟨rfl, hL⟩
    have HL := Lib.hid hL
    clear hL
    go_wp2_with fail
    refine (neg_any b o b o _ _ _ (HL.out.at4 (Hz.out.bel HB2.out)) (HL.out.free (Hf.out.bel hb HB2.out) (Hz.out.bel HB2.out).lt) (HL.out.at4 (Hz.out.bel HB2.out)) (Sep.rfl' _ _)).mono ?_
    rintro e w6 ⟨rfl, hL2⟩
    go_wp2
    go_ret
    rw [K.out]
    exact ⟨rfl, Left.behind HB2.out (HL.out.again hL2)⟩
end Go.Proofs.Ytbmlbjpiodiihaa
