/-
  The contract of uint256's Mod, whatever places receiver and operands are.
-/
import Derived.Test.YtpjljjajnfoccaaDiv6
namespace Go.Proofs.Ytpjljjajnfoccaa
open Go.RowKit
set_option linter.unusedVariables false
set_option linter.unusedSimpArgs false
set_option maxRecDepth 20000
/-- The rest of a division; 0 where the divisor is 0. -/
def remN (x y : N4) : N4 := if y.toNat = 0 then ⟨0#64, 0#64, 0#64, 0#64⟩ else ofN (x.toNat % y.toNat)
theorem But.two {S T : List Nat} {w w' : World} (h : But S w w') (hs : ∀ k ∈ S, k ∈ T ∨ w.heap.size ≤ k) : But T w w' := ⟨h.os, h.tape, h.output, h.size, fun k hk hT => h.block k hk (fun e => by
  rcases hs k e with h1 | h1
  · exact hT h1
  · omega)⟩
set_option maxHeartbeats 2000000 in
theorem modInt_any (b o c p d q : Nat) (z x y : N4) (w : World) (hz : At4 w b o z) (fz : Free4 w b o) (hx : At4 w c p x) (fx : Free4 w c p) (hy : At4 w d q y) (sx : Sep b o c p) :
    Calls Try.prog 29 #[.pointer (some ⟨b, o, none⟩), .pointer (some ⟨c, p, none⟩), .pointer (some ⟨d, q, none⟩)] w (RetLeft b o (remN x y) w) := by
  have hb := hz.lt
  have hc := hx.lt
  have hd := hy.lt
  have Hz := Lib.hid hz
  have Hf := Lib.hid fz
  have Hx := Lib.hid hx
  have Hfx := Lib.hid fx
  have Hy := Lib.hid hy
  clear hz fz hx fx hy
  cases hyz : y.isZ
  · have hy0 : 0 < y.toNat := by
      rcases Nat.eq_zero_or_pos y.toNat with h | h
      · rw [(isZ_iff y).2 h] at hyz; cases hyz
      · exact h
    have hrem : Hid (remN x y = ofN (x.toNat % y.toNat)) := by show _ = _; unfold remN; rw [if_neg (by omega)]
    have HY0 := Lib.hid hy0
    clear hy0
    cases heq : x.eqb y
    · cases hlt : x.ltc y
      · have hge : y.toNat ≤ x.toNat := by
          rw [ltc_eq, decide_eq_false_iff_not] at hlt; omega
        have HGE := Lib.hid hge
        clear hge
        cases hu : x.isU
        · have hsl := fun b o w => sliceAll4 b o w
          have UD : Hid (∀ m j, Calls Try.prog 45 #[.slice (some ⟨w.heap.size, 0, none⟩) 4 4, .slice (some ⟨c, p, none⟩) 4 4, .pointer (some ⟨d, q, none⟩), .pointer (some ⟨w.heap.size + 1, 0, none⟩)] ((((w.drewN m).alloc (Obj.cells #[.int .u64 0, .int .u64 0, .int .u64 0, .int .u64 0] 72)).alloc (Obj.cells #[.int .u64 0, .int .u64 0, .int .u64 0, .int .u64 0] 72)).drewN j) fun e w' => e = .returned (.tuple #[]) ∧ At4 w' (w.heap.size + 1) 0 (ofN (x.toNat % y.toNat)) ∧ But [] w w') := fun m j => by
            have R1 := RowW.new4 (w.drewN m) 72
            have R2 := RowW.new4 ((w.drewN m).alloc (Obj.cells #[.int .u64 0, .int .u64 0, .int .u64 0, .int .u64 0] 72)) 72
            have e2 : ((w.drewN m).alloc (Obj.cells #[.int .u64 0, .int .u64 0, .int .u64 0, .int .u64 0] 72)).heap.size = w.heap.size + 1 := by simp
            rw [e2] at R2
            refine (udivrem4 w.heap.size (w.heap.size + 1) c p d q x y _ ((R1.alloc _).drewN j) ((R2.at4 (by simp)).drewN j) ((R2.free4 (by simp)).drewN j) ((((Hx.out.drewN m).alloc _).alloc _).drewN j) ((((Hfx.out.drewN m).alloc hc _).alloc (by simp; omega) _).drewN j) ((((Hy.out.drewN m).alloc _).alloc _).drewN j) (by omega) (by omega) (by omega) (by omega) (by omega) HGE.out HY0.out).mono ?_
            rintro e w' ⟨h1, h2, h3, h4⟩
            exact ⟨h1, h3, (((((But.refl [] w).drewN m).alloc _).alloc _).drewN j).step h4 (fun t ht => by simp at ht; omega)⟩
          go_enter Try.func29, Try.ntmps29
          go_wp2_with (first | (go_at_call 41; refine (isZero_any d q y _ (Hy.out.drewN _)).mono ?_; rintro e w' ⟨rfl, n1, rfl⟩) | (go_at_call 41; refine (isZero_any d q y _ Hy.out).mono ?_; rintro e w' ⟨rfl, n1, rfl⟩) | (go_at_call 51; refine (eq_any c p d q x y _ (Hx.out.drewN _) (Hy.out.drewN _)).mono ?_; rintro e w' ⟨rfl, n3, rfl⟩) | (go_at_call 52; refine (lt_any c p d q x y _ (Hx.out.drewN _) (Hy.out.drewN _)).mono ?_; rintro e w' ⟨rfl, n2, rfl⟩) | (go_at_call 53; refine (isUint64_any c p x _ (Hx.out.drewN _)).mono ?_; rintro e w' ⟨rfl, n4, rfl⟩))
          go_region_held3 (fun w' => True) (trivial) ((go_at_call 45; refine (UD.out _ 1).mono ?_; rintro e w5 ⟨rfl, hq, hB⟩))
          have hz5 := Lib.hid (Hz.out.but hB (by simp))
          have hf5 := Lib.hid (Hf.out.but hb hB (by simp))
          have hq5 := Lib.hid hq
          have hB5 := Lib.hid hB
          clear hq hB hsl
          go_wp2_with fail
          refine (set_any b o (w.heap.size + 1) 0 z _ _ hz5.out hf5.out hq5.out (Sep.blocks (by omega))).mono ?_
          rintro e w6 ⟨rfl, n6, rfl⟩
          go_wp2
          go_ret
          rw [hrem.out]
          exact ⟨rfl, Left.of_alloc (hB5.out.bel (bel_refl w) (by simp)) hb⟩
        · have h3 : y.toNat = y.a.toNat := small_toNat (by have := HGE.out; have h1 := isU_toNat hu; have := x.a.isLt; omega)
          have hv : Hid (ofN (x.toNat % y.toNat) = ⟨remW x.a y.a, 0#64, 0#64, 0#64⟩) := ofN_small _ _ (by rw [remW_toNat, isU_toNat hu, h3])
          have hya : ¬ U y.a = 0 := by
            unfold U
            have := HY0.out
            omega
          clear h3
          go_enter Try.func29, Try.ntmps29
          go_wp2_with (first | (go_at_call 41; refine (isZero_any d q y _ (Hy.out.drewN _)).mono ?_; rintro e w' ⟨rfl, n1, rfl⟩) | (go_at_call 41; refine (isZero_any d q y _ Hy.out).mono ?_; rintro e w' ⟨rfl, n1, rfl⟩) | (go_at_call 51; refine (eq_any c p d q x y _ (Hx.out.drewN _) (Hy.out.drewN _)).mono ?_; rintro e w' ⟨rfl, n3, rfl⟩) | (go_at_call 52; refine (lt_any c p d q x y _ (Hx.out.drewN _) (Hy.out.drewN _)).mono ?_; rintro e w' ⟨rfl, n2, rfl⟩) | (go_at_call 53; refine (isUint64_any c p x _ (Hx.out.drewN _)).mono ?_; rintro e w' ⟨rfl, n4, rfl⟩) | (go_at_call 55; refine (uint64_any c p x _ (Hx.out.drewN _)).mono ?_; rintro e w' ⟨rfl, n5, rfl⟩) | (go_at_call 55; refine (uint64_any d q y _ (Hy.out.drewN _)).mono ?_; rintro e w' ⟨rfl, n6, rfl⟩) | (go_at_call 54; refine (setUint64_any b o z _ _ (Hz.out.drewN _) (Hf.out.drewN _)).mono ?_; rintro e w' ⟨rfl, n7, rfl⟩))
          go_ret
          rw [hrem.out, hv.out]
          exact ⟨rfl, Left.of_drew _ _ _ _ _ _⟩
      · have hv : Hid (ofN (x.toNat % y.toNat) = x) := by
          rw [ltc_eq, decide_eq_true_eq] at hlt
          show _ = _
          rw [Nat.mod_eq_of_lt hlt, ofN_self]
        go_enter Try.func29, Try.ntmps29
        go_wp2_with (first | (go_at_call 41; refine (isZero_any d q y _ (Hy.out.drewN _)).mono ?_; rintro e w' ⟨rfl, n1, rfl⟩) | (go_at_call 41; refine (isZero_any d q y _ Hy.out).mono ?_; rintro e w' ⟨rfl, n1, rfl⟩) | (go_at_call 51; refine (eq_any c p d q x y _ (Hx.out.drewN _) (Hy.out.drewN _)).mono ?_; rintro e w' ⟨rfl, n3, rfl⟩) | (go_at_call 52; refine (lt_any c p d q x y _ (Hx.out.drewN _) (Hy.out.drewN _)).mono ?_; rintro e w' ⟨rfl, n2, rfl⟩) | (go_at_call 53; refine (isUint64_any c p x _ (Hx.out.drewN _)).mono ?_; rintro e w' ⟨rfl, n4, rfl⟩) | (go_at_call 40; refine (set_any b o c p z x _ (Hz.out.drewN _) (Hf.out.drewN _) (Hx.out.drewN _) sx).mono ?_; rintro e w' ⟨rfl, n7, rfl⟩))
        go_ret
        rw [hrem.out, hv.out]
        exact ⟨rfl, Left.of_drew _ _ _ _ _ _⟩
    · have hv : Hid (ofN (x.toNat % y.toNat) = ⟨0#64, 0#64, 0#64, 0#64⟩) := by
        have h1 : x.toNat = y.toNat := by rw [eqb_eq] at heq; exact of_decide_eq_true heq
        show _ = _
        rw [h1, Nat.mod_self, ofN_zero]
      go_enter Try.func29, Try.ntmps29
      go_wp2_with (first | (go_at_call 41; refine (isZero_any d q y _ (Hy.out.drewN _)).mono ?_; rintro e w' ⟨rfl, n1, rfl⟩) | (go_at_call 41; refine (isZero_any d q y _ Hy.out).mono ?_; rintro e w' ⟨rfl, n1, rfl⟩) | (go_at_call 51; refine (eq_any c p d q x y _ (Hx.out.drewN _) (Hy.out.drewN _)).mono ?_; rintro e w' ⟨rfl, n3, rfl⟩) | (go_at_call 52; refine (lt_any c p d q x y _ (Hx.out.drewN _) (Hy.out.drewN _)).mono ?_; rintro e w' ⟨rfl, n2, rfl⟩) | (go_at_call 53; refine (isUint64_any c p x _ (Hx.out.drewN _)).mono ?_; rintro e w' ⟨rfl, n4, rfl⟩) | (go_at_call 42; refine (clear_any b o z _ (Hz.out.drewN _) (Hf.out.drewN _)).mono ?_; rintro e w' ⟨rfl, n7, rfl⟩))
      go_ret
      rw [hrem.out, hv.out]
      exact ⟨rfl, Left.of_drew _ _ _ _ _ _⟩
  · have hrem : Hid (remN x y = ⟨0#64, 0#64, 0#64, 0#64⟩) := by show _ = _; unfold remN; rw [if_pos ((isZ_iff y).1 hyz)]
    go_enter Try.func29, Try.ntmps29
    go_wp2_with (first | (go_at_call 41; refine (isZero_any d q y _ (Hy.out.drewN _)).mono ?_; rintro e w' ⟨rfl, n1, rfl⟩) | (go_at_call 41; refine (isZero_any d q y _ Hy.out).mono ?_; rintro e w' ⟨rfl, n1, rfl⟩) | (go_at_call 51; refine (eq_any c p d q x y _ (Hx.out.drewN _) (Hy.out.drewN _)).mono ?_; rintro e w' ⟨rfl, n3, rfl⟩) | (go_at_call 52; refine (lt_any c p d q x y _ (Hx.out.drewN _) (Hy.out.drewN _)).mono ?_; rintro e w' ⟨rfl, n2, rfl⟩) | (go_at_call 53; refine (isUint64_any c p x _ (Hx.out.drewN _)).mono ?_; rintro e w' ⟨rfl, n4, rfl⟩) | (go_at_call 42; refine (clear_any b o z _ (Hz.out.drewN _) (Hf.out.drewN _)).mono ?_; rintro e w' ⟨rfl, n7, rfl⟩))
    go_ret
    rw [hrem.out]
    exact ⟨rfl, Left.of_drew _ _ _ _ _ _⟩
end Go.Proofs.Ytpjljjajnfoccaa
