/-
  The reference's Quotient, Rest, SignedQuotient and SignedRest, by worth.
-/
import Derived.Test.YtakneagklldciaaDig7
import Derived.Test.YtakneagklldciaaSpec3
import Derived.Test.YtakneagklldciaaDiv7
namespace Go.Proofs.Ytakneagklldciaa
open Go.RowKit
set_option linter.unusedVariables false
set_option linter.unusedSimpArgs false
set_option maxHeartbeats 2000000 in
theorem specQuotient_any (x y : N4) (w : World) : Calls Try.prog 33 #[x.v, y.v] w (RetBel (N4.v (ofN (x.toNat / y.toNat))) w) := by
  cases hz : y.eqb ⟨0#64, 0#64, 0#64, 0#64⟩
  · have hy0 : 0 < y.toNat := by
      rcases Nat.eq_zero_or_pos y.toNat with h | h
      · rw [eqb_zero, (isZ_iff y).2 h] at hz; cases hz
      · exact h
    have HY := Lib.hid hy0
    clear hy0
    go_enter Try.func33, Try.ntmps33
    go_wp2
    go_region_held3 (Keeps (w.heap.size + 3) (((w.alloc (Obj.cells #[V x.a, V x.b, V x.c, V x.d] 26)).alloc (Obj.cells #[V y.a, V y.b, V y.c, V y.d] 26)).alloc (Obj.cells #[.int .u64 0, .int .u64 0, .int .u64 0, .int .u64 0] 26))) (first | exact Keeps.start _ _ | exact Keeps.step (by assumption) (by simp) hb)
      (first | (go_at_call 25; (with_reducible refine (whole_dg x _).mono ?_); rintro e w1 ⟨va, rfl, Da, hb⟩) | (go_at_call 25; (with_reducible refine (whole_dg y _).mono ?_); rintro e w2 ⟨vb, rfl, Db, hb⟩; have Da2 := Da.bel hb) | (go_at_call 63; refine (divide_dg va vb x.toNat 16 y.toNat 16 _ Da2 Db (by omega) (by omega) HY.out).mono ?_; rintro e w3 ⟨vq, vr, rfl, Dq, Dr, hb⟩))
    have hk := ‹Keeps _ _ _›
    have hk2 : Below ((((w.alloc (Obj.cells #[V x.a, V x.b, V x.c, V x.d] 26)).alloc (Obj.cells #[V y.a, V y.b, V y.c, V y.d] 26)).alloc (Obj.cells #[.int .u64 0, .int .u64 0, .int .u64 0, .int .u64 0] 26))).heap.size (((w.alloc (Obj.cells #[V x.a, V x.b, V x.c, V x.d] 26)).alloc (Obj.cells #[V y.a, V y.b, V y.c, V y.d] 26)).alloc (Obj.cells #[.int .u64 0, .int .u64 0, .int .u64 0, .int .u64 0] 26)) w3 := by
      have hsz : ((((w.alloc (Obj.cells #[V x.a, V x.b, V x.c, V x.d] 26)).alloc (Obj.cells #[V y.a, V y.b, V y.c, V y.d] 26)).alloc (Obj.cells #[.int .u64 0, .int .u64 0, .int .u64 0, .int .u64 0] 26))).heap.size = w.heap.size + 3 := by simp
      rw [hsz]; exact hk.2
    have hres : w3.there (w.heap.size + 2) 0 4 := there_bel (there_at _ _ _ _ _ (Nat.le_refl _) (by simp)) (by omega) hk2
    clear hk2
    have hbel : Below w.heap.size w w3 := hk.bel (by omega) (bel_alloc (bel_alloc (bel_alloc (bel_refl w) _) _) _)
    clear hk
    go_wp2_with fail
    refine (cut_dg _ _ _ _ Dq (by omega)).mono ?_
    rintro e w4 ⟨rfl, hb4⟩
    have bel4 := bel_trans hbel hb4
    have res4 := there_bel hres (by omega) hb4
    obtain ⟨r, hr⟩ : ∃ r, r = ofN (x.toNat / y.toNat) := ⟨_, rfl⟩
    rw [← hr]
    have K := Lib.hid hr.symm
    clear hr
    go_wp2_with (refine wpList_store_mid rfl 26 _ _ rfl (w.heap.size + 2) 0 [V (r).a, V (r).b, V (r).c, V (r).d].toArray rfl rfl res4 (by kernel_rfl) (by simp [Value.oneCell']) ?_)
    rw [K.out]
    exact retBel_row rfl rfl (w.heap.size + 2) [V (r).a, V (r).b, V (r).c, V (r).d] _ rfl (World.rangeAt_setCells_same w4 _ 0 _ res4) Try.underlying26 rfl (by kernel_rfl) rfl (setCells_bel bel4 (by omega))
  · have hy := (eqb_iff _ _).1 hz
    have K : Hid (ofN (x.toNat / y.toNat) = ⟨0#64, 0#64, 0#64, 0#64⟩) := by
      show _ = _
      rw [hy]
      rw [show N4.toNat ⟨0#64, 0#64, 0#64, 0#64⟩ = 0 from rfl, Nat.div_zero, ofN_zero]
    clear hz
    subst hy
    go_enter Try.func33, Try.ntmps33
    go_wp2
    rw [K.out]
    refine bodyPost_ret (v := N4.v ⟨0#64, 0#64, 0#64, 0#64⟩) (by simp [results, Try.results33, go_sem] <;> first | rfl | exact ⟨rfl, rfl, rfl, rfl⟩) rfl (retBel rfl ?_)
    exact bel_alloc (bel_alloc (bel_alloc (bel_refl _) _) _) _
set_option maxHeartbeats 2000000 in
theorem specRest_any (x y : N4) (w : World) : Calls Try.prog 35 #[x.v, y.v] w (RetBel (N4.v (remN x y)) w) := by
  cases hz : y.eqb ⟨0#64, 0#64, 0#64, 0#64⟩
  · have hy0 : 0 < y.toNat := by
      rcases Nat.eq_zero_or_pos y.toNat with h | h
      · rw [eqb_zero, (isZ_iff y).2 h] at hz; cases hz
      · exact h
    have K : Hid (remN x y = ofN (x.toNat % y.toNat)) := by show _ = _; unfold remN; rw [if_neg (by omega)]
    have HY := Lib.hid hy0
    clear hy0
    go_enter Try.func35, Try.ntmps35
    go_wp2
    go_region_held3 (Keeps (w.heap.size + 3) (((w.alloc (Obj.cells #[V x.a, V x.b, V x.c, V x.d] 26)).alloc (Obj.cells #[V y.a, V y.b, V y.c, V y.d] 26)).alloc (Obj.cells #[.int .u64 0, .int .u64 0, .int .u64 0, .int .u64 0] 26))) (first | exact Keeps.start _ _ | exact Keeps.step (by assumption) (by simp) hb)
      (first | (go_at_call 25; (with_reducible refine (whole_dg x _).mono ?_); rintro e w1 ⟨va, rfl, Da, hb⟩) | (go_at_call 25; (with_reducible refine (whole_dg y _).mono ?_); rintro e w2 ⟨vb, rfl, Db, hb⟩; have Da2 := Da.bel hb) | (go_at_call 63; refine (divide_dg va vb x.toNat 16 y.toNat 16 _ Da2 Db (by omega) (by omega) HY.out).mono ?_; rintro e w3 ⟨vq, vr, rfl, Dq, Dr, hb⟩))
    have hk := ‹Keeps _ _ _›
    have hk2 : Below ((((w.alloc (Obj.cells #[V x.a, V x.b, V x.c, V x.d] 26)).alloc (Obj.cells #[V y.a, V y.b, V y.c, V y.d] 26)).alloc (Obj.cells #[.int .u64 0, .int .u64 0, .int .u64 0, .int .u64 0] 26))).heap.size (((w.alloc (Obj.cells #[V x.a, V x.b, V x.c, V x.d] 26)).alloc (Obj.cells #[V y.a, V y.b, V y.c, V y.d] 26)).alloc (Obj.cells #[.int .u64 0, .int .u64 0, .int .u64 0, .int .u64 0] 26)) w3 := by
      have hsz : ((((w.alloc (Obj.cells #[V x.a, V x.b, V x.c, V x.d] 26)).alloc (Obj.cells #[V y.a, V y.b, V y.c, V y.d] 26)).alloc (Obj.cells #[.int .u64 0, .int .u64 0, .int .u64 0, .int .u64 0] 26))).heap.size = w.heap.size + 3 := by simp
      rw [hsz]; exact hk.2
    have hres : w3.there (w.heap.size + 2) 0 4 := there_bel (there_at _ _ _ _ _ (Nat.le_refl _) (by simp)) (by omega) hk2
    clear hk2
    have hbel : Below w.heap.size w w3 := hk.bel (by omega) (bel_alloc (bel_alloc (bel_alloc (bel_refl w) _) _) _)
    clear hk
    go_wp2_with fail
    refine (cut_dg _ _ _ _ Dr (by omega)).mono ?_
    rintro e w4 ⟨rfl, hb4⟩
    have bel4 := bel_trans hbel hb4
    have res4 := there_bel hres (by omega) hb4
    obtain ⟨r, hr⟩ : ∃ r, r = ofN (x.toNat % y.toNat) := ⟨_, rfl⟩
    rw [← hr] at K ⊢
    clear hr
    go_wp2_with (refine wpList_store_mid rfl 26 _ _ rfl (w.heap.size + 2) 0 [V (r).a, V (r).b, V (r).c, V (r).d].toArray rfl rfl res4 (by kernel_rfl) (by simp [Value.oneCell']) ?_)
    rw [K.out]
    exact retBel_row rfl rfl (w.heap.size + 2) [V (r).a, V (r).b, V (r).c, V (r).d] _ rfl (World.rangeAt_setCells_same w4 _ 0 _ res4) Try.underlying26 rfl (by kernel_rfl) rfl (setCells_bel bel4 (by omega))
  · have hy := (eqb_iff _ _).1 hz
    have K : Hid (remN x y = ⟨0#64, 0#64, 0#64, 0#64⟩) := by
      show _ = _
      rw [hy]
      unfold remN; rw [if_pos (show N4.toNat ⟨0#64, 0#64, 0#64, 0#64⟩ = 0 from rfl)]
    clear hz
    subst hy
    go_enter Try.func35, Try.ntmps35
    go_wp2
    rw [K.out]
    refine bodyPost_ret (v := N4.v ⟨0#64, 0#64, 0#64, 0#64⟩) (by simp [results, Try.results35, go_sem] <;> first | rfl | exact ⟨rfl, rfl, rfl, rfl⟩) rfl (retBel rfl ?_)
    exact bel_alloc (bel_alloc (bel_alloc (bel_refl _) _) _) _
end Go.Proofs.Ytakneagklldciaa
