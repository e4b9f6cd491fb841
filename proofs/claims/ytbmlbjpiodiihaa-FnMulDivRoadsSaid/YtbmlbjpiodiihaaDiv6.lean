/-
  Contracts of uint256's Div and Mod, whatever places receiver and operands are.
-/
import Derived.Test.YtbmlbjpiodiihaaDiv5
namespace Go.Proofs.Ytbmlbjpiodiihaa
open Go.RowKit
set_option linter.unusedVariables false
set_option linter.unusedSimpArgs false
set_option maxRecDepth 20000
theorem isU_toNat {x : N4} (h : x.isU = true) : x.toNat = x.a.toNat := by
  unfold N4.isU at h
  rw [beq_iff_eq] at h
  have h1 : x.b = 0#64 ∧ x.c = 0#64 ∧ x.d = 0#64 := by
    have hb : ∀ i, (x.b ||| x.c ||| x.d).getLsbD i = false := fun i => by rw [h]; simp
    refine ⟨?_, ?_, ?_⟩ <;> apply BitVec.eq_of_getLsbD_eq <;> intro i hi <;> have := hb i <;> simp only [BitVec.getLsbD_or, Bool.or_eq_false_iff] at this <;> simp [this]
  obtain ⟨h1, h2, h3⟩ := h1
  unfold N4.toNat
  rw [h1, h2, h3]
  simp
theorem small_toNat {x : N4} (h : x.toNat < 2 ^ 64) : x.toNat = x.a.toNat := by
  unfold N4.toNat at *
  omega
theorem ofN_small (n : Nat) (x : W64) (h : n = x.toNat) : ofN n = ⟨x, 0#64, 0#64, 0#64⟩ := by
  symm
  apply eq_ofN
  unfold N4.toNat
  have := x.isLt
  simp only [BitVec.toNat_ofNat]
  omega
theorem ofN_zero : ofN 0 = ⟨0#64, 0#64, 0#64, 0#64⟩ := ofN_small 0 0#64 rfl
theorem ofN_one : ofN 1 = ⟨1#64, 0#64, 0#64, 0#64⟩ := ofN_small 1 1#64 rfl
theorem ofN_self (x : N4) : ofN x.toNat = x := (eq_ofN (Nat.mod_eq_of_lt (toNat_lt x)).symm).symm
theorem n4_ofN {l : List W64} {n : Nat} (h : wseg l 0 4 = n) : n4 l = ofN n := by
  apply eq_ofN
  rw [n4_toNat, h]
  have := wseg_lt l 0 4
  rw [h] at this
  exact (Nat.mod_eq_of_lt this).symm
theorem Free4.alloc {a : World} {c o : Nat} (h : Free4 a c o) (hc : c < a.heap.size) (ob : Obj) : Free4 (a.alloc ob) c o := h.bel hc (bel_alloc (bel_refl a) ob)
theorem Left.of_drew (W : World) (m b o n : Nat) (z : N4) : Left W b o z ((put4 (W.drewN m) b o z).drewN n) := ⟨⟨rfl, rfl, rfl, Nat.le_refl _, fun _ _ => rfl⟩⟩
/-- A step from a world that has only new blocks. -/
theorem But.trans' {S : List Nat} {a b c : World} (h : But S a b) (k : But S b c) : But S a c := h.trans k
theorem sliceAll4 (b o : Nat) (w : World) : (Instr.sliceAt 87 (.pointer (some ⟨b, o, none⟩)) none none none).run Try.prog w = .ok (.slice (some ⟨b, o, none⟩) 4 4) w := by
  have hl : Try.prog.arrayLen 87 = 4 := by kernel_rfl
  rw [run_sliceAt_array_all w _ ⟨b, o, none⟩ (by kernel_rfl), hl]
  have hs : (sizeOf (Try.prog.elem 87)).run Try.prog w = .ok 1 w := by kernel_rfl
  rw [hs]
  simp [Result.andThen, slicedAt, Addr.add]
/-- The quotient alone: x by y, into a new number. -/
theorem udiv4 (bq c p d q : Nat) (x y : N4) (w : World) (hQ : RowW w bq 0 (List.replicate 4 0#64)) (hx : At4 w c p x) (fx : Free4 w c p) (hy : At4 w d q y) (n1 : bq ≠ c) (n2 : bq ≠ d) (hx0 : 0 < x.toNat) (hy0 : 0 < y.toNat) :
    Calls Try.prog 80 #[.slice (some ⟨bq, 0, none⟩) 4 4, .slice (some ⟨c, p, none⟩) 4 4, .pointer (some ⟨d, q, none⟩), .pointer none] w fun e w' => e = .returned (.tuple #[]) ∧ At4 w' bq 0 (ofN (x.toNat / y.toNat)) ∧ But [bq] w w' := by
  have h := udivrem_any bq 0 4 4 c p 4 4 d q none x.l4 y w hQ (RowW.of4 hx fx) hy rfl (by omega) (by omega) (by omega) (by omega) (by omega) n1 n2 (fun b o e => by cases e) hy0 (by rw [N4.wseg4]; exact hx0)
  refine h.mono ?_
  rintro e w' ⟨Q', he, h1, h2, h3, h4, h5⟩
  rw [N4.wseg4] at h2
  refine ⟨he, ?_, h5⟩
  rw [← n4_ofN h2]
  exact h3.at4 (by omega)
/-- Quotient and rest, each into a new number. -/
theorem udivrem4 (bq br c p d q : Nat) (x y : N4) (w : World) (hQ : RowW w bq 0 (List.replicate 4 0#64)) (hr : At4 w br 0 ⟨0#64, 0#64, 0#64, 0#64⟩) (fr : Free4 w br 0) (hx : At4 w c p x) (fx : Free4 w c p) (hy : At4 w d q y) (n1 : bq ≠ c) (n2 : bq ≠ d) (n3 : br ≠ bq) (n4' : br ≠ c) (n5 : br ≠ d) (hle : y.toNat ≤ x.toNat) (hy0 : 0 < y.toNat) :
    Calls Try.prog 80 #[.slice (some ⟨bq, 0, none⟩) 4 4, .slice (some ⟨c, p, none⟩) 4 4, .pointer (some ⟨d, q, none⟩), .pointer (some ⟨br, 0, none⟩)] w fun e w' => e = .returned (.tuple #[]) ∧ At4 w' bq 0 (ofN (x.toNat / y.toNat)) ∧ At4 w' br 0 (ofN (x.toNat % y.toNat)) ∧ But [bq, br] w w' := by
  have h := udivrem_any bq 0 4 4 c p 4 4 d q (some (br, 0)) x.l4 y w hQ (RowW.of4 hx fx) hy rfl (by omega) (by omega) (by omega) (by omega) (by omega) n1 n2 (fun b o e => by cases e; exact ⟨hr, fr, n3, n4', n5, by rw [N4.wseg4]; exact hle⟩) hy0 (by rw [N4.wseg4]; omega)
  refine h.mono ?_
  rintro e w' ⟨Q', he, h1, h2, h3, h4, h5⟩
  rw [N4.wseg4] at h2
  obtain ⟨r, r1, r2, r3⟩ := h4 br 0 rfl
  rw [N4.wseg4] at r3
  refine ⟨he, ?_, ?_, h5⟩
  · rw [← n4_ofN h2]
    exact h3.at4 (by omega)
  · rw [← r3, ofN_self]
    exact r1
set_option maxHeartbeats 2000000 in
theorem divInt_any (b o c p d q : Nat) (z x y : N4) (w : World) (hz : At4 w b o z) (fz : Free4 w b o) (hx : At4 w c p x) (fx : Free4 w c p) (hy : At4 w d q y) :
    Calls Try.prog 54 #[.pointer (some ⟨b, o, none⟩), .pointer (some ⟨c, p, none⟩), .pointer (some ⟨d, q, none⟩)] w (RetLeft b o (ofN (x.toNat / y.toNat)) w) := by
  have hb := hz.lt
  have hc := hx.lt
  have hd := hy.lt
  have Hz := Lib.hid hz
  have Hf := Lib.hid fz
  have Hx := Lib.hid hx
  have Hfx := Lib.hid fx
  have Hy := Lib.hid hy
  clear hz fz hx fx hy
  cases hyz : y.isZ
  · have hy0 : 0 < y.toNat := by
      rcases Nat.eq_zero_or_pos y.toNat with h | h
      · rw [(isZ_iff y).2 h] at hyz; cases hyz
      · exact h
    have HY0 := Lib.hid hy0
    clear hy0
    cases hlt : x.ltc y
    · have hge : y.toNat ≤ x.toNat := by
        rw [ltc_eq, decide_eq_false_iff_not] at hlt; omega
      have HGE := Lib.hid hge
      clear hge
      cases heq : x.eqb y
      · cases hu : x.isU
        · go_enter Try.func54, Try.ntmps54
          have hsl := fun b o w => sliceAll4 b o w
          go_wp2_with (first | (go_at_call 76; refine (isZero_any d q y _ (Hy.out.drewN _)).mono ?_; rintro e w' ⟨rfl, n1, rfl⟩) | (go_at_call 76; refine (isZero_any d q y _ Hy.out).mono ?_; rintro e w' ⟨rfl, n1, rfl⟩) | (go_at_call 66; refine (gt_any d q c p y x _ (Hy.out.drewN _) (Hx.out.drewN _)).mono ?_; rintro e w' ⟨rfl, n2, rfl⟩) | (go_at_call 86; refine (eq_any c p d q x y _ (Hx.out.drewN _) (Hy.out.drewN _)).mono ?_; rintro e w' ⟨rfl, n3, rfl⟩) | (go_at_call 87; refine (isUint64_any c p x _ (Hx.out.drewN _)).mono ?_; rintro e w' ⟨rfl, n4, rfl⟩))
          have UD : Hid (∀ m j, Calls Try.prog 80 #[.slice (some ⟨w.heap.size, 0, none⟩) 4 4, .slice (some ⟨c, p, none⟩) 4 4, .pointer (some ⟨d, q, none⟩), .pointer none] (((w.drewN m).alloc (Obj.cells #[.int .u64 0, .int .u64 0, .int .u64 0, .int .u64 0] 87)).drewN j) fun e w' => e = .returned (.tuple #[]) ∧ At4 w' w.heap.size 0 (ofN (x.toNat / y.toNat)) ∧ But [w.heap.size] w w') := fun m j => by
            have hx0 : 0 < x.toNat := Nat.lt_of_lt_of_le HY0.out HGE.out
            refine (udiv4 w.heap.size c p d q x y _ ((RowW.new4 (w.drewN m) _).drewN j) (((Hx.out.drewN m).alloc _).drewN j) (((Hfx.out.drewN m).alloc hc _).drewN j) (((Hy.out.drewN m).alloc _).drewN j) (by omega) (by omega) hx0 HY0.out).mono ?_
            rintro e w' ⟨h1, h2, h3⟩
            exact ⟨h1, h2, ((((But.refl [w.heap.size] w).drewN m).alloc _).drewN j).trans' h3⟩
          go_region_held3 (fun w' => True) (trivial) ((go_at_call 80; refine (UD.out _ 1).mono ?_; rintro e w5 ⟨rfl, hq, hB⟩))
          have hz5 := Lib.hid (Hz.out.but hB (by simp; omega))
          have hf5 := Lib.hid (Hf.out.but hb hB (by simp; omega))
          have hq5 := Lib.hid hq
          have hB5 := Lib.hid hB
          clear hq hB hsl
          go_wp2_with fail
          refine (set_any b o w.heap.size 0 z _ _ hz5.out hf5.out hq5.out (Sep.blocks (by omega))).mono ?_
          rintro e w6 ⟨rfl, n6, rfl⟩
          go_wp2
          go_ret
          exact ⟨rfl, Left.of_alloc (hB5.out.bel (bel_refl w) (by simp)) hb⟩
        · have hv : Hid (ofN (x.toNat / y.toNat) = ⟨quoW x.a y.a, 0#64, 0#64, 0#64⟩) := by
            have h1 := isU_toNat hu
            have h2 := x.a.isLt
            have h3 := small_toNat (x := y) (by have := HGE.out; omega)
            exact ofN_small _ _ (by rw [quoW_toNat, h1, h3])
          have hya : ¬ U y.a = 0 := by
            have h3 := small_toNat (x := y) (by have := HGE.out; have h1 := isU_toNat hu; have := x.a.isLt; omega)
            unfold U
            have := HY0.out
            omega
          go_enter Try.func54, Try.ntmps54
          go_wp2_with (first | (go_at_call 76; refine (isZero_any d q y _ (Hy.out.drewN _)).mono ?_; rintro e w' ⟨rfl, n1, rfl⟩) | (go_at_call 76; refine (isZero_any d q y _ Hy.out).mono ?_; rintro e w' ⟨rfl, n1, rfl⟩) | (go_at_call 66; refine (gt_any d q c p y x _ (Hy.out.drewN _) (Hx.out.drewN _)).mono ?_; rintro e w' ⟨rfl, n2, rfl⟩) | (go_at_call 86; refine (eq_any c p d q x y _ (Hx.out.drewN _) (Hy.out.drewN _)).mono ?_; rintro e w' ⟨rfl, n3, rfl⟩) | (go_at_call 87; refine (isUint64_any c p x _ (Hx.out.drewN _)).mono ?_; rintro e w' ⟨rfl, n4, rfl⟩) | (go_at_call 89; refine (uint64_any c p x _ (Hx.out.drewN _)).mono ?_; rintro e w' ⟨rfl, n5, rfl⟩) | (go_at_call 89; refine (uint64_any d q y _ (Hy.out.drewN _)).mono ?_; rintro e w' ⟨rfl, n6, rfl⟩) | (go_at_call 88; refine (setUint64_any b o z _ _ (Hz.out.drewN _) (Hf.out.drewN _)).mono ?_; rintro e w' ⟨rfl, n7, rfl⟩))
          go_ret
          rw [hv.out]
          exact ⟨rfl, Left.of_drew _ _ _ _ _ _⟩
      · have hv : Hid (ofN (x.toNat / y.toNat) = ⟨1#64, 0#64, 0#64, 0#64⟩) := by
          have h1 : x.toNat = y.toNat := by rw [eqb_eq] at heq; exact of_decide_eq_true heq
          show _ = _
          rw [h1, Nat.div_self HY0.out, ofN_one]
        go_enter Try.func54, Try.ntmps54
        go_wp2_with (first | (go_at_call 76; refine (isZero_any d q y _ (Hy.out.drewN _)).mono ?_; rintro e w' ⟨rfl, n1, rfl⟩) | (go_at_call 76; refine (isZero_any d q y _ Hy.out).mono ?_; rintro e w' ⟨rfl, n1, rfl⟩) | (go_at_call 66; refine (gt_any d q c p y x _ (Hy.out.drewN _) (Hx.out.drewN _)).mono ?_; rintro e w' ⟨rfl, n2, rfl⟩) | (go_at_call 86; refine (eq_any c p d q x y _ (Hx.out.drewN _) (Hy.out.drewN _)).mono ?_; rintro e w' ⟨rfl, n3, rfl⟩) | (go_at_call 87; refine (isUint64_any c p x _ (Hx.out.drewN _)).mono ?_; rintro e w' ⟨rfl, n4, rfl⟩) | (go_at_call 92; refine (setOne_any b o z _ (Hz.out.drewN _) (Hf.out.drewN _)).mono ?_; rintro e w' ⟨rfl, n7, rfl⟩))
        go_ret
        rw [hv.out]
        exact ⟨rfl, Left.of_drew _ _ _ _ _ _⟩
    · have hv : Hid (ofN (x.toNat / y.toNat) = ⟨0#64, 0#64, 0#64, 0#64⟩) := by
        rw [ltc_eq, decide_eq_true_eq] at hlt
        show _ = _
        rw [Nat.div_eq_of_lt hlt, ofN_zero]
      go_enter Try.func54, Try.ntmps54
      go_wp2_with (first | (go_at_call 76; refine (isZero_any d q y _ (Hy.out.drewN _)).mono ?_; rintro e w' ⟨rfl, n1, rfl⟩) | (go_at_call 76; refine (isZero_any d q y _ Hy.out).mono ?_; rintro e w' ⟨rfl, n1, rfl⟩) | (go_at_call 66; refine (gt_any d q c p y x _ (Hy.out.drewN _) (Hx.out.drewN _)).mono ?_; rintro e w' ⟨rfl, n2, rfl⟩) | (go_at_call 86; refine (eq_any c p d q x y _ (Hx.out.drewN _) (Hy.out.drewN _)).mono ?_; rintro e w' ⟨rfl, n3, rfl⟩) | (go_at_call 87; refine (isUint64_any c p x _ (Hx.out.drewN _)).mono ?_; rintro e w' ⟨rfl, n4, rfl⟩) | (go_at_call 77; refine (clear_any b o z _ (Hz.out.drewN _) (Hf.out.drewN _)).mono ?_; rintro e w' ⟨rfl, n7, rfl⟩))
      go_ret
      rw [hv.out]
      exact ⟨rfl, Left.of_drew _ _ _ _ _ _⟩
  · have hv : Hid (ofN (x.toNat / y.toNat) = ⟨0#64, 0#64, 0#64, 0#64⟩) := by
      show _ = _
      rw [(isZ_iff y).1 hyz, Nat.div_zero, ofN_zero]
    go_enter Try.func54, Try.ntmps54
    go_wp2_with (first | (go_at_call 76; refine (isZero_any d q y _ (Hy.out.drewN _)).mono ?_; rintro e w' ⟨rfl, n1, rfl⟩) | (go_at_call 76; refine (isZero_any d q y _ Hy.out).mono ?_; rintro e w' ⟨rfl, n1, rfl⟩) | (go_at_call 66; refine (gt_any d q c p y x _ (Hy.out.drewN _) (Hx.out.drewN _)).mono ?_; rintro e w' ⟨rfl, n2, rfl⟩) | (go_at_call 86; refine (eq_any c p d q x y _ (Hx.out.drewN _) (Hy.out.drewN _)).mono ?_; rintro e w' ⟨rfl, n3, rfl⟩) | (go_at_call 87; refine (isUint64_any c p x _ (Hx.out.drewN _)).mono ?_; rintro e w' ⟨rfl, n4, rfl⟩) | (go_at_call 77; refine (clear_any b o z _ (Hz.out.drewN _) (Hf.out.drewN _)).mono ?_; rintro e w' ⟨rfl, n7, rfl⟩))
    go_ret
    rw [hv.out]
    exact ⟨rfl, Left.of_drew _ _ _ _ _ _⟩
end Go.Proofs.Ytbmlbjpiodiihaa
