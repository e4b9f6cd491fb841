/-
  The contract of uint256's MulDivOverflow, whatever places receiver and operands are.
-/
import Derived.Test.YtbmlbjpiodiihaaMulOv
namespace Go.Proofs.Ytbmlbjpiodiihaa
open Go.RowKit
set_option linter.unusedVariables false
set_option linter.unusedSimpArgs false
set_option maxRecDepth 20000
theorem low4g (P : List W64) (N : Nat) (hP : wseg P 0 8 = N) : (⟨wd P 0, wd P 1, wd P 2, wd P 3⟩ : N4) = ofN N := by
  apply eq_ofN
  rw [← hP, wseg_split P 0 4 4]
  have e : (⟨wd P 0, wd P 1, wd P 2, wd P 3⟩ : N4).toNat = wseg P 0 4 := by
    rw [← N4.wseg4]
    exact wseg_congr (fun t ht => by match t, ht with | 0, _ | 1, _ | 2, _ | 3, _ => rfl)
  have h1 := wseg_lt P 0 4
  rw [e]
  generalize wseg P 0 4 = s at *
  generalize wseg P (0 + 4) 4 = t at *
  omega
theorem high4g (P : List W64) (N : Nat) (hP : wseg P 0 8 = N) : (((wd P 4 ||| wd P 5) ||| wd P 6) ||| wd P 7 != 0#64) = decide (2 ^ 256 ≤ N) := by
  rw [← hP, wseg_split P 0 4 4]
  have h1 := wseg_lt P 0 4
  have hz : wseg P (0 + 4) 4 = 0 ↔ (wd P 4 = 0#64 ∧ wd P 5 = 0#64 ∧ wd P 6 = 0#64 ∧ wd P 7 = 0#64) := by
    constructor
    · intro h
      have k := wseg_is_zero h
      exact ⟨k 0 (by omega), k 1 (by omega), k 2 (by omega), k 3 (by omega)⟩
    · rintro ⟨k0, k1, k2, k3⟩
      exact wseg_zero (fun t ht => by match t, ht with | 0, _ => exact k0 | 1, _ => exact k1 | 2, _ => exact k2 | 3, _ => exact k3)
  have ho : ∀ a b c d : W64, (((a ||| b) ||| c) ||| d = 0#64) ↔ (a = 0#64 ∧ b = 0#64 ∧ c = 0#64 ∧ d = 0#64) := fun a b c d => by
    simp only [BitVec.or_eq_zero_iff, and_assoc]
  rw [Bool.eq_iff_iff, bne_iff_ne, ne_eq, ho, ← hz, decide_eq_true_eq]
  generalize wseg P 0 4 = s at *
  generalize wseg P (0 + 4) 4 = t at *
  omega
theorem sliceAll8 (b o : Nat) (w : World) : (Instr.sliceAt 102 (.pointer (some ⟨b, o, none⟩)) none none none).run Try.prog w = .ok (.slice (some ⟨b, o, none⟩) 8 8) w := by
  have hl : Try.prog.arrayLen 102 = 8 := by kernel_rfl
  rw [run_sliceAt_array_all w _ ⟨b, o, none⟩ (by kernel_rfl), hl]
  have hs : (sizeOf (Try.prog.elem 102)).run Try.prog w = .ok 1 w := by kernel_rfl
  rw [hs]
  simp [Result.andThen, slicedAt, Addr.add]
theorem isZ_pos {x : N4} (h : x.isZ = false) : 0 < x.toNat := by
  rcases Nat.eq_zero_or_pos x.toNat with k | k
  · rw [(isZ_iff x).2 k] at h; cases h
  · exact k
def mulDivT (x y m : N4) : Nat := x.toNat * y.toNat / m.toNat
set_option maxHeartbeats 4000000 in
theorem mulDiv_go (b o c p d q f r : Nat) (z x y m : N4) (w : World) (hz : At4 w b o z) (fz : Free4 w b o) (hx : At4 w c p x) (hy : At4 w d q y) (hm : At4 w f r m) (zx : x.isZ = false) (zy : y.isZ = false) (zm : m.isZ = false) :
    Calls Try.prog 52 #[.pointer (some ⟨b, o, none⟩), .pointer (some ⟨c, p, none⟩), .pointer (some ⟨d, q, none⟩), .pointer (some ⟨f, r, none⟩)] w fun e w' => e = .returned (.tuple #[.pointer (some ⟨b, o, none⟩), .bool (decide (2 ^ 256 ≤ mulDivT x y m))]) ∧ Left w b o (ofN (mulDivT x y m)) w' := by
  have hb := hz.lt
  have hc := hx.lt
  have hd := hy.lt
  have hf := hm.lt
  have Hz := Lib.hid hz
  have Hf := Lib.hid fz
  have Hx := Lib.hid hx
  have Hy := Lib.hid hy
  have Hm := Lib.hid hm
  have PX := Lib.hid (isZ_pos zx)
  have PY := Lib.hid (isZ_pos zy)
  have PM := Lib.hid (isZ_pos zm)
  clear hz fz hx hy hm
  go_enter Try.func52, Try.ntmps52
  go_wp2_with fail
  refine (isZero_any c p x _ Hx.out).mono ?_
  rintro e w' ⟨rfl, n1, rfl⟩
  go_wp2_with fail
  refine (isZero_any d q y _ (Hy.out.drewN _)).mono ?_
  rintro e w' ⟨rfl, n2, rfl⟩
  go_wp2_with fail
  refine (isZero_any f r m _ (Hm.out.drewN _)).mono ?_
  rintro e w' ⟨rfl, n3, rfl⟩
  go_wp2_with fail
  refine (umul_any c p d q w.heap.size x y (List.replicate 8 0#64) _ ((Hx.out.drewN _).alloc _) ((Hy.out.drewN _).alloc _) (RowW.new8 (w.drewN _) _) (by simp) (by omega) (by omega)).mono ?_
  rintro e w2 ⟨P, rfl, h8, hP, hR, hB⟩
  have hB2 : Hid (But [w.heap.size] w w2) := (((But.refl [w.heap.size] w).drewN _).alloc _).trans hB
  have HR := Lib.hid hR
  have HP := Lib.hid hP
  have HL8 := Lib.hid h8
  clear hB hR hP h8
  have hg2 : w.heap.size < w2.heap.size := HR.out.lt (by rw [HL8.out]; omega)
  have hsl := fun b o w => sliceAll8 b o w
  have hm2 := Lib.hid (Hm.out.but hB2.out (by simp; omega))
  have UD : Hid (∀ j, Calls Try.prog 80 #[.slice (some ⟨w2.heap.size, 0, none⟩) 8 8, .slice (some ⟨w.heap.size, 0, none⟩) 8 8, .pointer (some ⟨f, r, none⟩), .pointer none] ((w2.alloc (Obj.cells #[.int .u64 0, .int .u64 0, .int .u64 0, .int .u64 0, .int .u64 0, .int .u64 0, .int .u64 0, .int .u64 0] 102)).drewN j) fun e w' => e = .returned (.tuple #[]) ∧ ∃ Q : List W64, Q.length = 8 ∧ wseg Q 0 8 = mulDivT x y m ∧ RowW w' w2.heap.size 0 Q ∧ But [] w2 w') := fun j => by
    refine (udivrem_any w2.heap.size 0 8 8 w.heap.size 0 8 8 f r none P m _ ((RowW.new8 w2 _).drewN j) ((HR.out.alloc _).drewN j) ((hm2.out.alloc _).drewN j) HL8.out.symm (by omega) (by omega) (by omega) (by omega) (by omega) (by omega) (by omega) (fun b o e => by cases e) PM.out (by rw [HP.out]; exact Nat.mul_pos PX.out PY.out)).mono ?_
    rintro e w' ⟨Q, he, h1, h2, h3, _, h5⟩
    refine ⟨he, Q, h1, by rw [h2, HP.out]; rfl, h3, ?_⟩
    exact (((But.refl [] w2).alloc _).drewN j).step h5 (by intro t ht; simp at ht; subst ht; exact .inr (Nat.le_refl _))
  go_wp2_with fail
  go_region_held3 (fun w' => True) (trivial) ((go_at_call 80; refine (UD.out 1).mono ?_; rintro e w5 ⟨rfl, Q, hQ8, hQv, hQr, hQB⟩))
  have hB5 : Hid (But [w.heap.size] w w5) := hB2.out.step hQB (by simp)
  have HL5 : Hid (Below w.heap.size w w5) := hB5.out.bel (bel_refl w) (by simp)
  obtain ⟨z0, z1, z2, z3⟩ := Hz.out.but hB5.out (by simp; omega)
  obtain ⟨f0, f1, f2, f3⟩ := Hf.out.but hb hB5.out (by simp; omega)
  have q0 := hQr.cell 0 (by omega)
  have q1 := hQr.cell 1 (by omega)
  have q2 := hQr.cell 2 (by omega)
  have q3 := hQr.cell 3 (by omega)
  have q4 := hQr.cell 4 (by omega)
  have q5 := hQr.cell 5 (by omega)
  have q6 := hQr.cell 6 (by omega)
  have q7 := hQr.cell 7 (by omega)
  simp only [Nat.zero_add] at q0 q1 q2 q3 q4 q5 q6 q7
  have HE1 := Lib.hid (low4g Q _ hQv)
  have HE2 := Lib.hid (high4g Q _ hQv)
  have hne : ¬ b = w2.heap.size := by omega
  clear hQr hQB hQv hQ8 UD hsl hm2 HP HR hB2 hB5
  go_wp2_with fail
  go_region
  go_wp2
  go_quiet (fail)
  go_wp2
  go_ret2
  refine ⟨?_, ?_⟩
  · rw [← HE2.out]; rfl
  · rw [← HE1.out]
    exact Left.of_alloc (w1 := w5.drew) (bel_drew HL5.out) hb
set_option maxHeartbeats 4000000 in
theorem mulDivInt_any (b o c p d q f r : Nat) (z x y m : N4) (w : World) (hz : At4 w b o z) (fz : Free4 w b o) (hx : At4 w c p x) (hy : At4 w d q y) (hm : At4 w f r m) :
    Calls Try.prog 52 #[.pointer (some ⟨b, o, none⟩), .pointer (some ⟨c, p, none⟩), .pointer (some ⟨d, q, none⟩), .pointer (some ⟨f, r, none⟩)] w fun e w' => e = .returned (.tuple #[.pointer (some ⟨b, o, none⟩), .bool (decide (2 ^ 256 ≤ mulDivT x y m))]) ∧ Left w b o (ofN (mulDivT x y m)) w' := by
  cases zx : x.isZ
  · cases zy : y.isZ
    · cases zm : m.isZ
      · exact mulDiv_go b o c p d q f r z x y m w hz fz hx hy hm zx zy zm
      · have K : Hid (mulDivT x y m = 0) := by
          show _ = _
          unfold mulDivT
          rw [(isZ_iff m).1 zm, Nat.div_zero]
        have Hz := Lib.hid hz
        have Hf := Lib.hid fz
        have Hx := Lib.hid hx
        have Hy := Lib.hid hy
        have Hm := Lib.hid hm
        clear hz fz hx hy hm
        go_enter Try.func52, Try.ntmps52
        go_wp2_with fail
        refine (isZero_any c p x _ Hx.out).mono ?_
        rintro e w' ⟨rfl, n1, rfl⟩
        go_wp2_with fail
        refine (isZero_any d q y _ (Hy.out.drewN _)).mono ?_
        rintro e w' ⟨rfl, n2, rfl⟩
        go_wp2_with fail
        refine (isZero_any f r m _ (Hm.out.drewN _)).mono ?_
        rintro e w' ⟨rfl, n3, rfl⟩
        go_wp2_with fail
        refine (clear_any b o z _ (Hz.out.drewN _) (Hf.out.drewN _)).mono ?_
        rintro e w' ⟨rfl, n7, rfl⟩
        go_wp2
        go_ret2
        rw [K.out, ofN_zero]
        exact ⟨rfl, Left.of_drew _ _ _ _ _ _⟩
    · have K : Hid (mulDivT x y m = 0) := by
        show _ = _
        unfold mulDivT
        rw [(isZ_iff y).1 zy, Nat.mul_zero, Nat.zero_div]
      have Hz := Lib.hid hz
      have Hf := Lib.hid fz
      have Hx := Lib.hid hx
      have Hy := Lib.hid hy
      clear hz fz hx hy hm
      go_enter Try.func52, Try.ntmps52
      go_wp2_with fail
      refine (isZero_any c p x _ Hx.out).mono ?_
      rintro e w' ⟨rfl, n1, rfl⟩
      go_wp2_with fail
      refine (isZero_any d q y _ (Hy.out.drewN _)).mono ?_
      rintro e w' ⟨rfl, n2, rfl⟩
      go_wp2_with fail
      refine (clear_any b o z _ (Hz.out.drewN _) (Hf.out.drewN _)).mono ?_
      rintro e w' ⟨rfl, n7, rfl⟩
      go_wp2
      go_ret2
      rw [K.out, ofN_zero]
      exact ⟨rfl, Left.of_drew _ _ _ _ _ _⟩
  · have K : Hid (mulDivT x y m = 0) := by
      show _ = _
      unfold mulDivT
      rw [(isZ_iff x).1 zx, Nat.zero_mul, Nat.zero_div]
    have Hz := Lib.hid hz
    have Hf := Lib.hid fz
    have Hx := Lib.hid hx
    clear hz fz hx hy hm
    go_enter Try.func52, Try.ntmps52
    go_wp2_with fail
    refine (isZero_any c p x _ Hx.out).mono ?_
    rintro e w' ⟨rfl, n1, rfl⟩
    go_wp2_with fail
    refine (clear_any b o z _ (Hz.out.drewN _) (Hf.out.drewN _)).mono ?_
    rintro e w' ⟨rfl, n7, rfl⟩
    go_wp2
    go_ret2
    rw [K.out, ofN_zero]
    exact ⟨rfl, Left.of_drew _ _ _ _ _ _⟩
/-- Whether the quotient is too large. -/
def mulDivC (x y m : N4) : Bool := decide (2 ^ 256 ≤ mulDivT x y m)
theorem mulDivInt_c (b o c p d q f r : Nat) (z x y m : N4) (w : World) (hz : At4 w b o z) (fz : Free4 w b o) (hx : At4 w c p x) (hy : At4 w d q y) (hm : At4 w f r m) :
    Calls Try.prog 52 #[.pointer (some ⟨b, o, none⟩), .pointer (some ⟨c, p, none⟩), .pointer (some ⟨d, q, none⟩), .pointer (some ⟨f, r, none⟩)] w fun e w' => e = .returned (.tuple #[.pointer (some ⟨b, o, none⟩), .bool (mulDivC x y m)]) ∧ Left w b o (ofN (mulDivT x y m)) w' :=
  mulDivInt_any b o c p d q f r z x y m w hz fz hx hy hm
end Go.Proofs.Ytbmlbjpiodiihaa
