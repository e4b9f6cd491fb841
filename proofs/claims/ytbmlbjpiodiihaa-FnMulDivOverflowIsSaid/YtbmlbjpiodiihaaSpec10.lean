/-
  The reference's MulDiv, by worth.
-/
import Derived.Test.YtbmlbjpiodiihaaSpec7
import Derived.Test.YtbmlbjpiodiihaaDig6
import Derived.Test.YtbmlbjpiodiihaaMulDiv
namespace Go.Proofs.Ytbmlbjpiodiihaa
open Go.RowKit
set_option linter.unusedVariables false
set_option linter.unusedSimpArgs false
set_option maxHeartbeats 2000000 in
theorem specMulDiv_any (x y m : N4) (hm : 0 < m.toNat) (w : World) : Calls Try.prog 23 #[x.v, y.v, m.v] w (RetBel (.tuple #[N4.v (ofN (mulDivT x y m)), .bool (decide (2 ^ 256 ≤ mulDivT x y m))]) w) := by
  have HM := Lib.hid hm
  obtain ⟨T, hT⟩ : ∃ T, T = mulDivT x y m := ⟨_, rfl⟩
  have HT : Hid (x.toNat * y.toNat / m.toNat = T) := hT.symm
  rw [← hT]
  clear hm hT
  go_enter Try.func23, Try.ntmps23
  go_wp2
  obtain ⟨W0, hW0⟩ : ∃ W0, W0 = (((w.alloc (Obj.cells #[V x.a, V x.b, V x.c, V x.d] 26)).alloc (Obj.cells #[V y.a, V y.b, V y.c, V y.d] 26)).alloc (Obj.cells #[V m.a, V m.b, V m.c, V m.d] 26)).alloc (Obj.cells #[.int .u64 0, .int .u64 0, .int .u64 0, .int .u64 0] 26) := ⟨_, rfl⟩
  have hsz : W0.heap.size = w.heap.size + 4 := by rw [hW0]; simp
  have hbw : Below w.heap.size w W0 := by rw [hW0]; exact bel_alloc (bel_alloc (bel_alloc (bel_alloc (bel_refl w) _) _) _) _
  have hth : W0.there (w.heap.size + 3) 0 4 := by rw [hW0]; exact there_at _ _ _ _ _ (by simp) (by simp)
  have hx0 : W0.cell? ⟨w.heap.size, 0, none⟩ = some (V x.a) := by rw [hW0]; simp [go_sem]
  have hx1 : W0.cell? ⟨w.heap.size, 1, none⟩ = some (V x.b) := by rw [hW0]; simp [go_sem]
  have hx2 : W0.cell? ⟨w.heap.size, 2, none⟩ = some (V x.c) := by rw [hW0]; simp [go_sem]
  have hx3 : W0.cell? ⟨w.heap.size, 3, none⟩ = some (V x.d) := by rw [hW0]; simp [go_sem]
  have hy0 : W0.cell? ⟨w.heap.size + 1, 0, none⟩ = some (V y.a) := by rw [hW0]; simp [go_sem]
  have hy1 : W0.cell? ⟨w.heap.size + 1, 1, none⟩ = some (V y.b) := by rw [hW0]; simp [go_sem]
  have hy2 : W0.cell? ⟨w.heap.size + 1, 2, none⟩ = some (V y.c) := by rw [hW0]; simp [go_sem]
  have hy3 : W0.cell? ⟨w.heap.size + 1, 3, none⟩ = some (V y.d) := by rw [hW0]; simp [go_sem]
  have hm0 : W0.cell? ⟨w.heap.size + 1 + 1, 0, none⟩ = some (V m.a) := by rw [hW0]; simp [go_sem]
  have hm1 : W0.cell? ⟨w.heap.size + 1 + 1, 1, none⟩ = some (V m.b) := by rw [hW0]; simp [go_sem]
  have hm2 : W0.cell? ⟨w.heap.size + 1 + 1, 2, none⟩ = some (V m.c) := by rw [hW0]; simp [go_sem]
  have hm3 : W0.cell? ⟨w.heap.size + 1 + 1, 3, none⟩ = some (V m.d) := by rw [hW0]; simp [go_sem]
  rw [← hW0]
  clear hW0
  go_region_held3 (Keeps (w.heap.size + 4) W0) (first | assumption | exact Keeps.start _ _ | exact Keeps.step (by assumption) (by omega) hb | exact Keeps.step (by assumption) (by omega) hba | exact Keeps.step (by assumption) (by omega) hbb | exact Keeps.step (by assumption) (by omega) hbc | exact Keeps.step (by assumption) (by omega) hbd)
    (first | (go_at_call 47; (with_reducible refine (whole_dg x _).mono ?_); rintro e w1 ⟨va, rfl, Da, hba⟩) | (go_at_call 47; (with_reducible refine (whole_dg y _).mono ?_); rintro e w1 ⟨vb, rfl, Db, hbb⟩) | (go_at_call 47; (with_reducible refine (whole_dg m _).mono ?_); rintro e w1 ⟨vm, rfl, Dm, hbc⟩) | (go_at_call 53; (with_reducible refine (times_dg va vb x.toNat y.toNat 16 16 _ (Da.bel hbb) Db (by omega) (by omega)).mono ?_); rintro e w1 ⟨vt, rfl, Dt, hbd⟩) | (go_at_call 45; refine (divide_dg vt vm (x.toNat * y.toNat) 33 m.toNat 16 _ (Dt.bel hbc) Dm (by omega) (by omega) HM.out).mono ?_; rintro e w3 ⟨vq, vr, rfl, Dq, Dr, hb⟩))
  have hk := ‹Keeps _ _ _›
  have bel3 : Hid (Below w.heap.size w w3) := hk.bel (by omega) hbw
  have hth3 : Hid (w3.there (w.heap.size + 3) 0 4) := there_bel hth (by omega) (by rw [hsz]; exact hk.2)
  rw [HT.out] at Dq
  have hq : ∃ q : Bool, decide (T < 2 ^ 256) = q ∧ decide (2 ^ 256 ≤ T) = !q := ⟨_, rfl, by rw [← decide_not]; congr 1; rw [Nat.not_lt]⟩
  obtain ⟨q, hq1, hq2⟩ := hq
  have HQ2 := Lib.hid hq2
  have HQ1 := Lib.hid hq1
  clear hk hx0 hx1 hx2 hx3 hy0 hy1 hy2 hy3 hm0 hm1 hm2 hm3 hth hbw hsz hq1 hq2 Da Db Dm Dt Dr hba hbb hbc hbd
  go_wp2_with fail
  refine (cut_dg vq T 33 _ Dq (by omega)).mono ?_
  rintro e w4 ⟨rfl, hb4⟩
  have bel4 := Lib.hid (bel_trans bel3.out hb4)
  have hth4 := there_bel hth3.out (by omega) hb4
  have Dq4 := Dq.bel hb4
  have FT : Calls Try.prog 49 #[vq] w4 fun e w' => e = .returned (.bool q) ∧ w4 = w' := by rw [← HQ1.out]; exact fits_dg vq T 33 w4 Dq4 (by omega)
  have FH := Lib.hid FT
  obtain ⟨r, hr⟩ : ∃ r, r = ofN T := ⟨_, rfl⟩
  rw [← hr]
  have HR := Lib.hid hr
  clear bel3 hth3 hb4 Dq Dq4 FT hr HQ1 HT
  go_wp2_with fail
  refine FH.out.mono ?_
  rintro e w5 ⟨rfl, rfl⟩
  have rg := World.rangeAt_setCells_same w4 (w.heap.size + 3) 0 [V r.a, V r.b, V r.c, V r.d] hth4
  have c0 := rg 0 _ rfl
  have c1 := rg 1 _ rfl
  have c2 := rg 2 _ rfl
  have c3 := rg 3 _ rfl
  simp only [Nat.zero_add] at c1 c2 c3
  go_wp2_with (refine wpList_store_mid rfl 26 _ _ rfl (w.heap.size + 3) 0 [V (r).a, V (r).b, V (r).c, V (r).d].toArray rfl rfl hth4 (by kernel_rfl) (by simp [Value.oneCell']) ?_)
  rw [← HR.out, HQ2.out]
  refine bodyPost_ret (v := .tuple #[r.v, .bool (!q)]) ?_ rfl (retBel rfl (setCells_bel bel4.out (by omega)))
  simp [results, Try.results23, c0, c1, c2, c3, go_sem]
theorem specMulDiv_c (x y m : N4) (hm : 0 < m.toNat) (w : World) : Calls Try.prog 23 #[x.v, y.v, m.v] w (RetBel (.tuple #[N4.v (ofN (mulDivT x y m)), .bool (mulDivC x y m)]) w) := specMulDiv_any x y m hm w
end Go.Proofs.Ytbmlbjpiodiihaa
