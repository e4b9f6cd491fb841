/-
  For every ways and cells: impl.AddMod gives the cells in which z is (x + y) modulo m, 0 where m is 0; no other cell is changed (the statement FnAddModIsSaid, no conditions).
-/
import Derived.Test.YtpjljjajnfoccaaOpen
import Derived.Test.YtpjljjajnfoccaaSpec1
import Derived.Test.YtpjljjajnfoccaaHeldM
import Derived.Test.YtpjljjajnfoccaaSpec7
import Derived.Test.YtpjljjajnfoccaaDig6
import Derived.Test.YtpjljjajnfoccaaAddMod2
import Derived.Test.YtpjljjajnfoccaaDeskG
import Derived.Test.YtpjljjajnfoccaaDesk8
/-
  The reference's AddMod, by worth.
-/
namespace Go.Proofs.Ytpjljjajnfoccaa
open Go.RowKit
set_option linter.unusedVariables false
set_option linter.unusedSimpArgs false
set_option maxHeartbeats 2000000 in
theorem specAddMod_any (x y m : N4) (w : World) : Calls Try.prog 9 #[x.v, y.v, m.v] w (RetBel (N4.v (addModN x y m)) w) := by
  cases hz : m.eqb ⟨0#64, 0#64, 0#64, 0#64⟩
  · have hy0 : 0 < m.toNat := by
      rcases Nat.eq_zero_or_pos m.toNat with h | h
      · rw [eqb_zero, (isZ_iff m).2 h] at hz; cases hz
      · exact h
    have K : Hid (addModN x y m = ofN ((x.toNat + y.toNat) % m.toNat)) := by show _ = _; unfold addModN; rw [if_neg (by omega)]
    have HM := Lib.hid hy0
    clear hy0
    go_enter Try.func9, Try.ntmps9
    go_wp2
    obtain ⟨W0, hW0⟩ : ∃ W0, W0 = ((((w.alloc (Obj.cells #[V x.a, V x.b, V x.c, V x.d] 26)).alloc (Obj.cells #[V y.a, V y.b, V y.c, V y.d] 26)).alloc (Obj.cells #[V m.a, V m.b, V m.c, V m.d] 26)).alloc (Obj.cells #[.int .u64 0, .int .u64 0, .int .u64 0, .int .u64 0] 26)) := ⟨_, rfl⟩
    have hsz : W0.heap.size = w.heap.size + 4 := by rw [hW0]; simp
    have hbw : Below w.heap.size w W0 := by rw [hW0]; exact bel_alloc (bel_alloc (bel_alloc (bel_alloc (bel_refl w) _) _) _) _
    have hth : W0.there (w.heap.size + 3) 0 4 := by rw [hW0]; exact there_at _ _ _ _ _ (by simp) (by simp)
    have hx0 : W0.cell? ⟨w.heap.size, 0, none⟩ = some (V x.a) := by rw [hW0]; simp [go_sem]
    have hx1 : W0.cell? ⟨w.heap.size, 1, none⟩ = some (V x.b) := by rw [hW0]; simp [go_sem]
    have hx2 : W0.cell? ⟨w.heap.size, 2, none⟩ = some (V x.c) := by rw [hW0]; simp [go_sem]
    have hx3 : W0.cell? ⟨w.heap.size, 3, none⟩ = some (V x.d) := by rw [hW0]; simp [go_sem]
    have hy0 : W0.cell? ⟨w.heap.size + 1, 0, none⟩ = some (V y.a) := by rw [hW0]; simp [go_sem]
    have hy1 : W0.cell? ⟨w.heap.size + 1, 1, none⟩ = some (V y.b) := by rw [hW0]; simp [go_sem]
    have hy2 : W0.cell? ⟨w.heap.size + 1, 2, none⟩ = some (V y.c) := by rw [hW0]; simp [go_sem]
    have hy3 : W0.cell? ⟨w.heap.size + 1, 3, none⟩ = some (V y.d) := by rw [hW0]; simp [go_sem]
    have hm0 : W0.cell? ⟨w.heap.size + 1 + 1, 0, none⟩ = some (V m.a) := by rw [hW0]; simp [go_sem]
    have hm1 : W0.cell? ⟨w.heap.size + 1 + 1, 1, none⟩ = some (V m.b) := by rw [hW0]; simp [go_sem]
    have hm2 : W0.cell? ⟨w.heap.size + 1 + 1, 2, none⟩ = some (V m.c) := by rw [hW0]; simp [go_sem]
    have hm3 : W0.cell? ⟨w.heap.size + 1 + 1, 3, none⟩ = some (V m.d) := by rw [hW0]; simp [go_sem]
    rw [← hW0]
    clear hW0
    go_region_held3 (Keeps (w.heap.size + 4) W0) (first | assumption | exact Keeps.start _ _ | exact Keeps.step (by assumption) (by omega) hb | exact Keeps.step (by assumption) (by omega) hba | exact Keeps.step (by assumption) (by omega) hbb | exact Keeps.step (by assumption) (by omega) hbc | exact Keeps.step (by assumption) (by omega) hbd)
      (first | (go_at_call 25; (with_reducible refine (whole_dg x _).mono ?_); rintro e w1 ⟨va, rfl, Da, hba⟩) | (go_at_call 25; (with_reducible refine (whole_dg y _).mono ?_); rintro e w1 ⟨vb, rfl, Db, hbb⟩) | (go_at_call 25; (with_reducible refine (whole_dg m _).mono ?_); rintro e w1 ⟨vm, rfl, Dm, hbc⟩) | (go_at_call 24; (with_reducible refine (plus_dg va vb x.toNat y.toNat 16 16 _ (Da.bel hbb) Db (by omega) (by omega)).mono ?_); rintro e w1 ⟨vt, rfl, Dt, hbd⟩) | (go_at_call 23; refine (divide_dg vt vm (x.toNat + y.toNat) 17 m.toNat 16 _ (Dt.bel hbc) Dm (by omega) (by omega) HM.out).mono ?_; rintro e w3 ⟨vq, vr, rfl, Dq, Dr, hb⟩))
    have hk := ‹Keeps _ _ _›
    have bel3 : Hid (Below w.heap.size w w3) := hk.bel (by omega) hbw
    have hth3 : Hid (w3.there (w.heap.size + 3) 0 4) := there_bel hth (by omega) (by rw [hsz]; exact hk.2)
    clear hk hx0 hx1 hx2 hx3 hy0 hy1 hy2 hy3 hm0 hm1 hm2 hm3 hth hbw hsz Da Db Dm Dt Dq hba hbb hbc hbd
    go_wp2_with fail
    refine (cut_dg _ _ _ _ Dr (by omega)).mono ?_
    rintro e w4 ⟨rfl, hb4⟩
    have bel4 := bel_trans bel3.out hb4
    have res4 := there_bel hth3.out (by omega) hb4
    obtain ⟨r, hr⟩ : ∃ r, r = ofN ((x.toNat + y.toNat) % m.toNat) := ⟨_, rfl⟩
    rw [← hr] at K ⊢
    clear hr bel3 hth3
    go_wp2_with (refine wpList_store_mid rfl 26 _ _ rfl (w.heap.size + 3) 0 [V (r).a, V (r).b, V (r).c, V (r).d].toArray rfl rfl res4 (by kernel_rfl) (by simp [Value.oneCell']) ?_)
    rw [K.out]
    exact retBel_row rfl rfl (w.heap.size + 3) [V (r).a, V (r).b, V (r).c, V (r).d] _ rfl (World.rangeAt_setCells_same w4 _ 0 _ res4) Try.underlying26 rfl (by kernel_rfl) rfl (setCells_bel bel4 (by omega))
  · have hy := (eqb_iff _ _).1 hz
    have K : Hid (addModN x y m = ⟨0#64, 0#64, 0#64, 0#64⟩) := by
      show _ = _
      rw [hy]
      unfold addModN; rw [if_pos (show N4.toNat ⟨0#64, 0#64, 0#64, 0#64⟩ = 0 from rfl)]
    clear hz
    rw [K.out]
    clear K
    subst hy
    go_enter Try.func9, Try.ntmps9
    go_wp2
    refine bodyPost_ret (v := N4.v ⟨0#64, 0#64, 0#64, 0#64⟩) (by simp [results, Try.results9, go_sem] <;> first | rfl | exact ⟨rfl, rfl, rfl, rfl⟩) rfl (retBel rfl ?_)
    exact bel_alloc (bel_alloc (bel_alloc (bel_alloc (bel_refl _) _) _) _) _
end Go.Proofs.Ytpjljjajnfoccaa
/-
  The contract of the thin package's AddMod over cells.
-/
namespace Go.Proofs.Ytpjljjajnfoccaa
open Go.RowKit
set_option linter.unusedVariables false

set_option maxHeartbeats 1000000 in
theorem implAddMod_any (k : W4) (c : C4) (w : World) (hk : k.ok) : Calls Try.prog 7 #[k.v, c.v] w (RetBel (ansV (c.put (ix k.z) (addModN (c.get (ix k.x)) (c.get (ix k.y)) (c.get (ix k.m)))) false) w) := by
  go_enter Try.func7, Try.ntmps7
  go_wp2_with fail
  refine (open_any k c _ hk).mono ?_
  rintro e w1 ⟨d, bc, rfl, hd, hbc, desk, hb⟩
  have hres : w1.there (w.heap.size + 2) 0 17 := there_bel (there_at _ _ _ _ _ (Nat.le_refl _) (by simp)) (by omega) hb
  have hbel : Below w.heap.size w w1 := bel_trans (bel_alloc (bel_alloc (bel_alloc (bel_refl w) _) _) _) hb
  have hge : w.heap.size ≤ bc := by simp at hbc; omega
  clear hb hd hbc
  obtain ⟨p0, p1, p2, p3, p4⟩ := desk.ptrs
  go_wp2_with fail
  go_region_held3 (fun w' => w'.cell? ⟨d, 1, none⟩ = some (.pointer (some ⟨bc, off4 k.z, none⟩)) ∧ w'.cell? ⟨d, 2, none⟩ = some (.pointer (some ⟨bc, off4 k.x, none⟩)) ∧ w'.cell? ⟨d, 3, none⟩ = some (.pointer (some ⟨bc, off4 k.y, none⟩)) ∧ w'.cell? ⟨d, 4, none⟩ = some (.pointer (some ⟨bc, off4 k.m, none⟩))) (first | exact ⟨p1, p2, p3, p4⟩ | exact ⟨cl.p1, cl.p2, cl.p3, cl.p4⟩)
    (first | (go_at_call 20; refine (left_of_left (addMod_any bc (off4 k.z) bc (off4 k.x) bc (off4 k.y) (off4 k.m) _ _ _ _ _ ((desk.drewN 1).cells.at k.z) ((desk.drewN 1).cells.free k.z) ((desk.drewN 1).cells.at k.x) ((desk.drewN 1).cells.at k.y) ((desk.drewN 1).cells.at k.m) (sep_off _ _ _) (sep_off _ _ _) (sep_off _ _ _))).mono ?_; rintro e w2 hR; obtain ⟨hv, hcl⟩ := hR; subst hv; have cl := (hcl.desk (desk.drewN 1)).ptrs))
  have D2 := Lib.hid (hcl.desk (desk.drewN 1))
  have hres2 := hcl.there (there_drewN hres 1) (by omega)
  have hbel2 := hcl.bel' (bel_drewN hbel 1) hge
  clear cl desk p0 p1 p2 p3 p4 hcl
  go_wp2_with fail
  refine (answer_any d bc k _ false _ D2.out).mono ?_
  rintro e w3 ⟨rfl, hb3⟩
  have hres3 := there_bel hres2 (by omega) hb3
  have hbel3 := bel_trans hbel2 hb3
  go_wp2_with (refine wpList_store_mid rfl 31 _ _ rfl (w.heap.size + 2) 0 ((c.put (ix k.z) (addModN (c.get (ix k.x)) (c.get (ix k.y)) (c.get (ix k.m)))).l ++ [Value.bool false]).toArray rfl rfl hres3 (by kernel_rfl) (by simp [Value.oneCell']) ?_)
  refine bodyPost_ret (v := ansV (c.put (ix k.z) (addModN (c.get (ix k.x)) (c.get (ix k.y)) (c.get (ix k.m)))) false) (results_cell_mid rfl _ _ (w.heap.size + 2) ((c.put (ix k.z) (addModN (c.get (ix k.x)) (c.get (ix k.y)) (c.get (ix k.m)))).l ++ [Value.bool false]) _ rfl (World.rangeAt_setCells_same w3 (w.heap.size + 2) 0 ((c.put (ix k.z) (addModN (c.get (ix k.x)) (c.get (ix k.y)) (c.get (ix k.m)))).l ++ [Value.bool false]) hres3) Try.underlying31 rfl (by kernel_rfl)) rfl (retBel rfl ?_)
  exact setCells_bel hbel3 (by omega)
end Go.Proofs.Ytpjljjajnfoccaa
namespace Go.Proofs.Ytpjljjajnfoccaa.fnAddModIs
open Go.ChangeShapes Go.WideShapes Go.ChangeAt Go.RowKit
set_option linter.unusedVariables false
set_option linter.unusedSimpArgs false

theorem run_load_op {P : Program} {op : Oper} {a : Act} (ty : TypeId) (x : Operand) (ho : op.op = .load ty x) (b o : Nat) (hx : a.eval x = .pointer (some ⟨b, o, none⟩)) (cs : List Value) {d : TypeDesc}
    (hu : P.underlying ty = some d) (hd : d.isRow = true) (hi : (P.info? ty).map (·.size) = some cs.length) (w : World) (hc : w.rangeAt b o cs) : (execOp a.eval op).run P w = .ok (.value (.agg cs.toArray)) w := by
  unfold execOp
  simp only [ho, hx, Instr.loadAt, Instr.sureAddr, Sem.run_bind, Sem.run_pure, Result.andThen_ok, run_loadVar_mid w b o ty cs d hc hu hd hi]
set_option maxRecDepth 20000 in
set_option maxHeartbeats 8000000 in
theorem walk (k : W4) (hk : k.ok) (c : C4) (w : World) : Calls Try.prog 3 #[k.v, c.v] w (RetBel (.bool true) w) := by
  obtain ⟨R, hR⟩ : ∃ R, R = addModN (c.get (ix k.x)) (c.get (ix k.y)) (c.get (ix k.m)) := ⟨_, rfl⟩
  obtain ⟨P, hP⟩ : ∃ P, P = c.put (ix k.z) R := ⟨_, rfl⟩
  have IM : Hid (∀ w, Calls Try.prog 7 #[k.v, c.v] w (RetBel (ansV P false) w)) := fun w => by rw [hP, hR]; exact implAddMod_any k c w hk
  have SA : Hid (∀ w, Calls Try.prog 9 #[(c.get (ix k.x)).v, (c.get (ix k.y)).v, (c.get (ix k.m)).v] w (RetBel (N4.v R) w)) := fun w => by rw [hR]; exact specAddMod_any _ _ _ w
  have SX : Hid (∀ w, Calls Try.prog 10 #[k.v, c.v] w (RetBel (N4.v (c.get (ix k.x))) w)) := fun w => specX_any k c w hk
  have SY : Hid (∀ w, Calls Try.prog 11 #[k.v, c.v] w (RetBel (N4.v (c.get (ix k.y))) w)) := fun w => specY_any k c w hk
  have SM : Hid (∀ w, Calls Try.prog 12 #[k.v, c.v] w (RetBel (N4.v (c.get (ix k.m))) w)) := fun w => specM_any k c w hk
  have SP : Hid (∀ w, Calls Try.prog 8 #[c.v, .int .i64 k.z, R.v] w (RetBel (C4.v P) w)) := fun w => by rw [hP]; exact specPut_any c k.z R w hk.1
  have TD : Hid (∀ w, Calls Try.prog 6 #[ansV P false, P.v, .bool false] w (RetBel (.bool true) w)) := fun w => by
    have h := told_any P P false false w
    rw [C4.eqb_self] at h
    simpa using h
  clear hR hP
  generalize (c.get (ix k.x)) = gx at *
  generalize (c.get (ix k.y)) = gy at *
  generalize (c.get (ix k.m)) = gm at *
  go_enter Try.func3, Try.ntmps3
  go_wp2
  obtain ⟨W0, hW0⟩ : ∃ W0, W0 = (w.alloc (Obj.cells #[.int .i64 k.z, .int .i64 k.x, .int .i64 k.y, .int .i64 k.m] 23)).alloc (Obj.cells #[V c.a.a, V c.a.b, V c.a.c, V c.a.d, V c.b.a, V c.b.b, V c.b.c, V c.b.d, V c.c.a, V c.c.b, V c.c.c, V c.c.d, V c.d.a, V c.d.b, V c.d.c, V c.d.d] 28) := ⟨_, rfl⟩
  have b0 : ∀ o, W0.cell? ⟨w.heap.size, o, none⟩ = [Value.int .i64 k.z, Value.int .i64 k.x, Value.int .i64 k.y, Value.int .i64 k.m][o]? := fun o => by rw [hW0]; simp [go_sem]
  have b1 : ∀ o, W0.cell? ⟨w.heap.size + 1, o, none⟩ = c.l[o]? := fun o => by rw [hW0]; simp [go_sem, C4.l]
  have zz0 : w.heap.size < W0.heap.size := by rw [hW0]; simp; omega
  have zz1 : w.heap.size + 1 < W0.heap.size := by rw [hW0]; simp
  have belU : Below w.heap.size w W0 := by rw [hW0]; exact bel_alloc (bel_alloc (bel_refl w) _) _
  rw [← hW0]
  clear hW0
  have raW : W0.rangeAt w.heap.size 0 [.int .i64 k.z, .int .i64 k.x, .int .i64 k.y, .int .i64 k.m] := fun j v hj => by rw [Nat.zero_add]; exact (b0 j).trans hj
  have raC : W0.rangeAt (w.heap.size + 1) 0 c.l := fun j v hj => by rw [Nat.zero_add]; exact (b1 j).trans hj
  have k0 : W0.cell? ⟨w.heap.size, 0, none⟩ = some (.int .i64 k.z) := b0 0
  clear b0 b1
  refine wp_region_noPanic ?_
  refine wp_region_held_drew (S := (Keeps (World.heap W0).size W0)) (by kernel_rfl) (by exact Keeps.start _ _) (fun hHeld => ?_)
  refine hm_take (i := 0) (v := k.v) rfl rfl (by kernel_rfl) (by kernel_rfl) (by kernel_rfl) (fun _ _ _ h => h) rfl ?_ (by assumption) ?_
  · (intro wS hSw; exact run_load_op 23 _ rfl w.heap.size 0 rfl [.int .i64 k.z, .int .i64 k.x, .int .i64 k.y, .int .i64 k.m] Try.underlying23 rfl (by kernel_rfl) _ (fun j v hj => (hSw.1 _ _ zz0).trans (raW j v hj)))
  try simp only [Act.put, List.setIfInBounds_toArray, List.set_cons_zero, List.set_cons_succ]
  refine hm_take (i := 1) (v := c.v) rfl rfl (by kernel_rfl) (by kernel_rfl) (by kernel_rfl) (fun _ _ _ h => h) rfl ?_ (by assumption) ?_
  · (intro wS hSw; exact run_load_op 28 _ rfl (w.heap.size + 1) 0 rfl c.l Try.underlying28 rfl (by kernel_rfl) _ (fun j v hj => (hSw.1 _ _ zz1).trans (raC j v hj)))
  try simp only [Act.put, List.setIfInBounds_toArray, List.set_cons_zero, List.set_cons_succ]
  refine hm_take (i := 3) (v := c.v) rfl rfl (by kernel_rfl) (by kernel_rfl) (by kernel_rfl) (fun _ _ _ h => h) rfl ?_ (by assumption) ?_
  · (intro wS hSw; exact run_load_op 28 _ rfl (w.heap.size + 1) 0 rfl c.l Try.underlying28 rfl (by kernel_rfl) _ (fun j v hj => (hSw.1 _ _ zz1).trans (raC j v hj)))
  try simp only [Act.put, List.setIfInBounds_toArray, List.set_cons_zero, List.set_cons_succ]
  refine hm_take (i := 4) (v := ?_) rfl rfl (by kernel_rfl) (by kernel_rfl) (by kernel_rfl) (fun _ _ _ h => h) rfl ?_ (by assumption) ?_
  rotate_left
  · (intro w hSw; (try dsimp only at hSw); go_simp; try with_reducible rfl)
  try simp only [Act.put, List.setIfInBounds_toArray, List.set_cons_zero, List.set_cons_succ]
  refine hm_take (i := 5) (v := ?_) rfl rfl (by kernel_rfl) (by kernel_rfl) (by kernel_rfl) (fun _ _ _ h => h) rfl ?_ (by assumption) ?_
  rotate_left
  · (intro w hSw; (try dsimp only at hSw); go_simp; try with_reducible rfl)
  try simp only [Act.put, List.setIfInBounds_toArray, List.set_cons_zero, List.set_cons_succ]
  refine hm_take (i := 6) (v := k.v) rfl rfl (by kernel_rfl) (by kernel_rfl) (by kernel_rfl) (fun _ _ _ h => h) rfl ?_ (by assumption) ?_
  · (intro wS hSw; exact run_load_op 23 _ rfl w.heap.size 0 rfl [.int .i64 k.z, .int .i64 k.x, .int .i64 k.y, .int .i64 k.m] Try.underlying23 rfl (by kernel_rfl) _ (fun j v hj => (hSw.1 _ _ zz0).trans (raW j v hj)))
  try simp only [Act.put, List.setIfInBounds_toArray, List.set_cons_zero, List.set_cons_succ]
  refine hm_take (i := 7) (v := c.v) rfl rfl (by kernel_rfl) (by kernel_rfl) (by kernel_rfl) (fun _ _ _ h => h) rfl ?_ (by assumption) ?_
  · (intro wS hSw; exact run_load_op 28 _ rfl (w.heap.size + 1) 0 rfl c.l Try.underlying28 rfl (by kernel_rfl) _ (fun j v hj => (hSw.1 _ _ zz1).trans (raC j v hj)))
  try simp only [Act.put, List.setIfInBounds_toArray, List.set_cons_zero, List.set_cons_succ]
  refine hm_take (i := 9) (v := k.v) rfl rfl (by kernel_rfl) (by kernel_rfl) (by kernel_rfl) (fun _ _ _ h => h) rfl ?_ (by assumption) ?_
  · (intro wS hSw; exact run_load_op 23 _ rfl w.heap.size 0 rfl [.int .i64 k.z, .int .i64 k.x, .int .i64 k.y, .int .i64 k.m] Try.underlying23 rfl (by kernel_rfl) _ (fun j v hj => (hSw.1 _ _ zz0).trans (raW j v hj)))
  try simp only [Act.put, List.setIfInBounds_toArray, List.set_cons_zero, List.set_cons_succ]
  refine hm_take (i := 10) (v := c.v) rfl rfl (by kernel_rfl) (by kernel_rfl) (by kernel_rfl) (fun _ _ _ h => h) rfl ?_ (by assumption) ?_
  · (intro wS hSw; exact run_load_op 28 _ rfl (w.heap.size + 1) 0 rfl c.l Try.underlying28 rfl (by kernel_rfl) _ (fun j v hj => (hSw.1 _ _ zz1).trans (raC j v hj)))
  try simp only [Act.put, List.setIfInBounds_toArray, List.set_cons_zero, List.set_cons_succ]
  refine hm_take (i := 12) (v := k.v) rfl rfl (by kernel_rfl) (by kernel_rfl) (by kernel_rfl) (fun _ _ _ h => h) rfl ?_ (by assumption) ?_
  · (intro wS hSw; exact run_load_op 23 _ rfl w.heap.size 0 rfl [.int .i64 k.z, .int .i64 k.x, .int .i64 k.y, .int .i64 k.m] Try.underlying23 rfl (by kernel_rfl) _ (fun j v hj => (hSw.1 _ _ zz0).trans (raW j v hj)))
  try simp only [Act.put, List.setIfInBounds_toArray, List.set_cons_zero, List.set_cons_succ]
  refine hm_take (i := 13) (v := c.v) rfl rfl (by kernel_rfl) (by kernel_rfl) (by kernel_rfl) (fun _ _ _ h => h) rfl ?_ (by assumption) ?_
  · (intro wS hSw; exact run_load_op 28 _ rfl (w.heap.size + 1) 0 rfl c.l Try.underlying28 rfl (by kernel_rfl) _ (fun j v hj => (hSw.1 _ _ zz1).trans (raC j v hj)))
  try simp only [Act.put, List.setIfInBounds_toArray, List.set_cons_zero, List.set_cons_succ]
  refine hm_call (i := 2) rfl (by kernel_rfl) rfl (fun K hK => ?_)
  go_simp
  (go_at_call 7; refine (IM.out _).mono ?_; rintro e w1 ⟨rfl, hb⟩)
  (try go_wp2_with fail)
  refine hK.out _ _ (by (try dsimp only); first | assumption | exact Keeps.step (by assumption) (Nat.le_refl _) hb) (fun hHeld => ?_)
  clear hK K
  try simp only [Act.put, List.setIfInBounds_toArray, List.set_cons_zero, List.set_cons_succ]
  refine hm_call (i := 8) rfl (by kernel_rfl) rfl (fun K hK => ?_)
  go_simp
  (go_at_call 10; refine (SX.out _).mono ?_; rintro e w1 ⟨rfl, hb⟩)
  (try go_wp2_with fail)
  refine hK.out _ _ (by (try dsimp only); first | assumption | exact Keeps.step (by assumption) (Nat.le_refl _) hb) (fun hHeld => ?_)
  clear hK K
  try simp only [Act.put, List.setIfInBounds_toArray, List.set_cons_zero, List.set_cons_succ]
  refine hm_call (i := 11) rfl (by kernel_rfl) rfl (fun K hK => ?_)
  go_simp
  (go_at_call 11; refine (SY.out _).mono ?_; rintro e w1 ⟨rfl, hb⟩)
  (try go_wp2_with fail)
  refine hK.out _ _ (by (try dsimp only); first | assumption | exact Keeps.step (by assumption) (Nat.le_refl _) hb) (fun hHeld => ?_)
  clear hK K
  try simp only [Act.put, List.setIfInBounds_toArray, List.set_cons_zero, List.set_cons_succ]
  refine hm_call (i := 14) rfl (by kernel_rfl) rfl (fun K hK => ?_)
  go_simp
  (go_at_call 12; refine (SM.out _).mono ?_; rintro e w1 ⟨rfl, hb⟩)
  (try go_wp2_with fail)
  refine hK.out _ _ (by (try dsimp only); first | assumption | exact Keeps.step (by assumption) (Nat.le_refl _) hb) (fun hHeld => ?_)
  clear hK K
  try simp only [Act.put, List.setIfInBounds_toArray, List.set_cons_zero, List.set_cons_succ]
  refine hm_call (i := 15) rfl (by kernel_rfl) rfl (fun K hK => ?_)
  go_simp
  (go_at_call 9; refine (SA.out _).mono ?_; rintro e w1 ⟨rfl, hb⟩)
  (try go_wp2_with fail)
  refine hK.out _ _ (by (try dsimp only); first | assumption | exact Keeps.step (by assumption) (Nat.le_refl _) hb) (fun hHeld => ?_)
  clear hK K
  try simp only [Act.put, List.setIfInBounds_toArray, List.set_cons_zero, List.set_cons_succ]
  refine hm_call (i := 16) rfl (by kernel_rfl) rfl (fun K hK => ?_)
  go_simp
  (go_at_call 8; refine (SP.out _).mono ?_; rintro e w1 ⟨rfl, hb⟩)
  (try go_wp2_with fail)
  refine hK.out _ _ (by (try dsimp only); first | assumption | exact Keeps.step (by assumption) (Nat.le_refl _) hb) (fun hHeld => ?_)
  clear hK K
  try simp only [Act.put, List.setIfInBounds_toArray, List.set_cons_zero, List.set_cons_succ]
  refine hm_call (i := 17) rfl (by kernel_rfl) rfl (fun K hK => ?_)
  go_simp
  (go_at_call 6; refine (TD.out _).mono ?_; rintro e w1 ⟨rfl, hb⟩)
  (try go_wp2_with fail)
  refine hK.out _ _ (by (try dsimp only); first | assumption | exact Keeps.step (by assumption) (Nat.le_refl _) hb) (fun hHeld => ?_)
  clear hK K
  try simp only [Act.put, List.setIfInBounds_toArray, List.set_cons_zero, List.set_cons_succ]
  refine hm_take (i := 18) (v := ?_) rfl rfl (by kernel_rfl) (by kernel_rfl) (by kernel_rfl) (fun _ _ _ h => h) rfl ?_ (by assumption) ?_
  rotate_left
  · (intro w hSw; (try dsimp only at hSw); go_simp; try with_reducible rfl)
  try simp only [Act.put, List.setIfInBounds_toArray, List.set_cons_zero, List.set_cons_succ]
  refine wpAnyH_done (by kernel_rfl) ?_ _
  refine NoPanic.normal ?_
  go_wp2
  go_ret
  exact retBel rfl ((‹Keeps _ _ _›).bel belU.size belU)

set_option maxRecDepth 100000 in
theorem lifted (os : Os) (started : os.Started) (H : Type) (enc : TypeId × Value → H) :
    ReturnsInHanded {} Try.checked os 3 .any (Rows.fnAddModIsSpec.pre6 enc Try.prog Try.f3 Rows.fnAddModIsRow.domain false) (Rows.fnAddModIsSpec.post enc Try.prog Try.f3 false true false false) := by
  refine returnsInHanded_of_change (C := Try.checked) Try.own started (by kernel_rfl) Try.func3
    (ChangeSpec.witness6 (enc := enc) (C := Try.checked) false ⟨#[], #[.agg #[.int .i64 0, .int .i64 0, .int .i64 0, .int .i64 0], .agg #[.int .u64 0, .int .u64 0, .int .u64 0, .int .u64 0, .int .u64 0, .int .u64 0, .int .u64 0, .int .u64 0, .int .u64 0, .int .u64 0, .int .u64 0, .int .u64 0, .int .u64 0, .int .u64 0, .int .u64 0, .int .u64 0]], []⟩ 8 (by kernel_rfl) (by kernel_rfl) (by kernel_rfl) (by kernel_rfl)) ?_
  intro W base args ds gs before hval0 hW hcnd _
  have hval : ∀ (j : Nat) t v, Try.f3.params[j]? = some t → args[j]? = some v → Value.okWide Try.prog W .any base t v := hval0
  have hW' := hW
  obtain ⟨p, q, hA0, hV, rfl, hfz, hnd⟩ := hW
  have hA : DataW.TrodAll enc Try.prog W 0 (fun _ => true) true Try.f3.params.toList args.toList ds p := hA0
  rw [Try.params3] at hA hval
  obtain ⟨v0, vs0, d0, ds0, p0, q0, hargs, rfl, rfl, h0, r0⟩ := trodAll_cons hA
  obtain ⟨v1, vs1, d1, ds1, p1, q1, rfl, rfl, rfl, h1, r1⟩ := trodAll_cons r0
  obtain ⟨rfl, rfl, rfl⟩ := trodAll_nil r1
  obtain rfl : args = #[v0, v1] := by cases args; simp_all
  obtain ⟨rfl, rfl⟩ := trodVars_none hV
  have k0 := h0
  have lt0 : ∀ x ∈ p0, x.block < W.heap.size := by obtain ⟨m, hm⟩ := k0; exact DataW.trod_lt m _ _ _ hm
  obtain ⟨x0, rfl, g0⟩ := open_ways (hval 0 23 v0 rfl rfl)
  have k1 := h1
  have lt1 : ∀ x ∈ p1, x.block < W.heap.size := by obtain ⟨m, hm⟩ := k1; exact DataW.trod_lt m _ _ _ hm
  obtain ⟨x1, rfl⟩ := open_cells (hval 1 28 v1 rfl rfl)
  clear hA0 hval0
  refine (walk x0 g0 x1 W).mono fun e W' ⟨he, bel⟩ => ?_
  subst he
  exact ⟨_, rfl, _, _, _, [], _, [], hW', trodAll_mk1 (shut_bool Try.underlying4 _), (trodAll_cons_mk (Below.trod Try.laidOut (by kernel_rfl) (of_decide_eq_true (by kernel_rfl)) k0 bel lt0) (trodAll_cons_mk (Below.trod Try.laidOut (by kernel_rfl) (of_decide_eq_true (by kernel_rfl)) k1 bel lt1) trodAll_mk0)), rfl, bel.frame _, fun h => by cases h⟩

theorem holds : Rows.FnAddModIsSaid :=
  OpenClaim.holds_of_wide 3 Try.f3 rfl rfl rfl rfl rfl rfl rfl ⟨rfl, rfl, rfl, rfl, rfl⟩ rfl rfl rfl rfl rfl (by kernel_rfl) Try.func3 (by kernel_rfl)
    (of_decide_eq_true (by kernel_rfl)) (by unfold Func.isWrapper; first | (rw [if_pos (by decide +kernel)]; kernel_rfl) | (rw [if_neg (by decide +kernel)]; exact ⟨rfl, rfl⟩))
    (fun os started H enc _ => lifted os started H enc)
#print axioms holds
end Go.Proofs.Ytpjljjajnfoccaa.fnAddModIs
