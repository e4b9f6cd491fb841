/-
  Contracts of the thin package's functions over cells: open, one call of the package, answer.
-/
import Derived.Test.YtnpemghjgmofmaaDesk3
namespace Go.Proofs.Ytnpemghjgmofmaa
open Go.RowKit
theorem Desk.drewN {w : World} {d bc : Nat} {k : W4} {c : C4} (h : Desk w d bc k c) (n : Nat) : Desk (w.drewN n) d bc k c :=
  ⟨h.ne, ⟨h.ptrs.p0, h.ptrs.p1, h.ptrs.p2, h.ptrs.p3, h.ptrs.p4⟩, ⟨h.cells.ca.drewN n, h.cells.cb.drewN n, h.cells.cc.drewN n, h.cells.cd.drewN n, h.cells.fa.drewN n, h.cells.fb.drewN n, h.cells.fc.drewN n, h.cells.fd.drewN n⟩⟩
theorem Desk.put {w : World} {d bc : Nat} {k : W4} {c : C4} (h : Desk w d bc k c) (n : Int) (x : N4) : Desk (put4 w bc (off4 n) x) d bc k (c.put (ix n) x) :=
  ⟨h.ne, h.ptrs.put h.ne _ _, h.cells.put n x⟩
theorem Desk.bel {w w' : World} {d bc : Nat} {k : W4} {c : C4} (h : Desk w d bc k c) (e : Below w.heap.size w w') : Desk w' d bc k c := ⟨h.ne, h.ptrs.bel e, h.cells.bel e⟩
theorem Desk.lt {w : World} {d bc : Nat} {k : W4} {c : C4} (h : Desk w d bc k c) : bc < w.heap.size := h.cells.ca.lt
theorem there_at (w : World) (t : TypeId) (cs : Array Value) (n g : Nat) (hn : n ≤ cs.size) (hg : g = w.heap.size) : (w.alloc (.cells cs t)).there g 0 n := by
  subst hg; exact there_new w t cs n hn
theorem there_set {w : World} {b o n : Nat} (h : w.there b o n) (p q : Nat) (v : Value) : (w.setCell ⟨p, q, none⟩ v).there b o n := World.there_setCells h p q [v]
theorem there_put4 {w : World} {b o n : Nat} (h : w.there b o n) (p q : Nat) (x : N4) : (put4 w p q x).there b o n :=
  there_set (there_set (there_set (there_set h p q _) p (q + 1) _) p (q + 2) _) p (q + 3) _
theorem there_drewN {w : World} {b o n : Nat} (h : w.there b o n) (m : Nat) : (w.drewN m).there b o n := h

/-- What a call over the desk leaves: the receiver's cell holds z, all else below is as it was, memory has grown. -/
structure CallLeft (W : World) (bc : Nat) (o : Nat) (z : N4) (w' : World) : Prop where
  size : W.heap.size ≤ w'.heap.size
  bel : Below W.heap.size (put4 W bc o z) w'
theorem CallLeft.of_put (W : World) (bc o n : Nat) (z : N4) : CallLeft W bc o z ((put4 W bc o z).drewN n) :=
  ⟨by rw [World.heap_drewN, put4_size]; exact Nat.le_refl _, ⟨rfl, rfl, rfl, Nat.le_refl _, fun _ _ => rfl⟩⟩
theorem CallLeft.desk {W w' : World} {d bc : Nat} {k : W4} {c : C4} {n : Int} {z : N4} (h : CallLeft W bc (off4 n) z w') (hd : Desk W d bc k c) : Desk w' d bc k (c.put (ix n) z) :=
  (hd.put n z).bel (by rw [put4_size]; exact h.bel)
theorem CallLeft.there {W w' : World} {bc o : Nat} {z : N4} (h : CallLeft W bc o z w') {b p n : Nat} (ht : W.there b p n) (hn : 0 < n) : w'.there b p n :=
  there_bel (there_put4 ht bc o z) hn (by rw [put4_size]; exact h.bel)
theorem CallLeft.bel' {W w' a : World} {bc o : Nat} {z : N4} (h : CallLeft W bc o z w') (k : Below a.heap.size a W) (hb : a.heap.size ≤ bc) : Below a.heap.size a w' :=
  (put4_bel k hb).trans (h.bel.mono k.size)

/-- From the exact contract to what a call leaves. -/
theorem left_of_put {P : Program} {f : FuncId} {args : Array Value} {W : World} {bc o : Nat} {z : N4} (h : Calls P f args W (RetPut bc o z W)) :
    Calls P f args W fun e w' => e = .returned (.pointer (some ⟨bc, o, none⟩)) ∧ CallLeft W bc o z w' :=
  h.mono fun _ _ ⟨he, n, hn⟩ => ⟨he, by rw [hn]; exact CallLeft.of_put _ _ _ _ _⟩

set_option maxHeartbeats 1000000 in
theorem implAnd_any (k : W4) (c : C4) (w : World) (hk : k.ok) : Calls Try.prog 34 #[k.v, c.v] w (RetBel (ansV (c.put (ix k.z) ((c.get (ix k.x)).and (c.get (ix k.y)))) false) w) := by
  go_enter Try.func34, Try.ntmps34
  go_wp2_with fail
  refine (open_any k c _ hk).mono ?_
  rintro e w1 ⟨d, bc, rfl, hd, hbc, desk, hb⟩
  have hres : w1.there (w.heap.size + 2) 0 17 := there_bel (there_at _ _ _ _ _ (Nat.le_refl _) (by simp)) (by omega) hb
  have hbel : Below w.heap.size w w1 := bel_trans (bel_alloc (bel_alloc (bel_alloc (bel_refl w) _) _) _) hb
  have hge : w.heap.size ≤ bc := by simp at hbc; omega
  clear hb hd hbc
  obtain ⟨p0, p1, p2, p3, p4⟩ := desk.ptrs
  go_wp2_with fail
  go_region_held3 (fun w' => w'.cell? ⟨d, 1, none⟩ = some (.pointer (some ⟨bc, off4 k.z, none⟩)) ∧ w'.cell? ⟨d, 2, none⟩ = some (.pointer (some ⟨bc, off4 k.x, none⟩)) ∧ w'.cell? ⟨d, 3, none⟩ = some (.pointer (some ⟨bc, off4 k.y, none⟩))) (first | exact ⟨p1, p2, p3⟩ | exact ⟨cl.p1, cl.p2, cl.p3⟩)
    (first | (go_at_call 64; refine (left_of_put (and_any bc (off4 k.z) bc (off4 k.x) bc (off4 k.y) _ _ _ _ ((desk.drewN 1).cells.at k.z) ((desk.drewN 1).cells.free k.z) ((desk.drewN 1).cells.at k.x) ((desk.drewN 1).cells.at k.y) (sep_off _ _ _) (sep_off _ _ _))).mono ?_; rintro e w2 hR; obtain ⟨hv, hcl⟩ := hR; subst hv; have cl := (hcl.desk (desk.drewN 1)).ptrs))
  have D2 := Lib.hid (hcl.desk (desk.drewN 1))
  have hres2 := hcl.there (there_drewN hres 1) (by omega)
  have hbel2 := hcl.bel' (bel_drewN hbel 1) hge
  clear cl desk p0 p1 p2 p3 p4 hcl
  go_wp2_with fail
  refine (answer_any d bc k _ false _ D2.out).mono ?_
  rintro e w3 ⟨rfl, hb3⟩
  have hres3 := there_bel hres2 (by omega) hb3
  have hbel3 := bel_trans hbel2 hb3
  go_wp2_with (refine wpList_store_mid rfl 39 _ _ rfl (w.heap.size + 2) 0 ((c.put (ix k.z) ((c.get (ix k.x)).and (c.get (ix k.y)))).l ++ [Value.bool false]).toArray rfl rfl hres3 (by kernel_rfl) (by simp [Value.oneCell']) ?_)
  refine bodyPost_ret (v := ansV (c.put (ix k.z) ((c.get (ix k.x)).and (c.get (ix k.y)))) false) (results_cell_mid rfl _ _ (w.heap.size + 2) ((c.put (ix k.z) ((c.get (ix k.x)).and (c.get (ix k.y)))).l ++ [Value.bool false]) _ rfl (World.rangeAt_setCells_same w3 (w.heap.size + 2) 0 ((c.put (ix k.z) ((c.get (ix k.x)).and (c.get (ix k.y)))).l ++ [Value.bool false]) hres3) Try.underlying39 rfl (by kernel_rfl)) rfl (retBel rfl ?_)
  exact setCells_bel hbel3 (by omega)

set_option maxHeartbeats 1000000 in
theorem implOr_any (k : W4) (c : C4) (w : World) (hk : k.ok) : Calls Try.prog 37 #[k.v, c.v] w (RetBel (ansV (c.put (ix k.z) ((c.get (ix k.x)).or (c.get (ix k.y)))) false) w) := by
  go_enter Try.func37, Try.ntmps37
  go_wp2_with fail
  refine (open_any k c _ hk).mono ?_
  rintro e w1 ⟨d, bc, rfl, hd, hbc, desk, hb⟩
  have hres : w1.there (w.heap.size + 2) 0 17 := there_bel (there_at _ _ _ _ _ (Nat.le_refl _) (by simp)) (by omega) hb
  have hbel : Below w.heap.size w w1 := bel_trans (bel_alloc (bel_alloc (bel_alloc (bel_refl w) _) _) _) hb
  have hge : w.heap.size ≤ bc := by simp at hbc; omega
  clear hb hd hbc
  obtain ⟨p0, p1, p2, p3, p4⟩ := desk.ptrs
  go_wp2_with fail
  go_region_held3 (fun w' => w'.cell? ⟨d, 1, none⟩ = some (.pointer (some ⟨bc, off4 k.z, none⟩)) ∧ w'.cell? ⟨d, 2, none⟩ = some (.pointer (some ⟨bc, off4 k.x, none⟩)) ∧ w'.cell? ⟨d, 3, none⟩ = some (.pointer (some ⟨bc, off4 k.y, none⟩))) (first | exact ⟨p1, p2, p3⟩ | exact ⟨cl.p1, cl.p2, cl.p3⟩)
    (first | (go_at_call 65; refine (left_of_put (or_any bc (off4 k.z) bc (off4 k.x) bc (off4 k.y) _ _ _ _ ((desk.drewN 1).cells.at k.z) ((desk.drewN 1).cells.free k.z) ((desk.drewN 1).cells.at k.x) ((desk.drewN 1).cells.at k.y) (sep_off _ _ _) (sep_off _ _ _))).mono ?_; rintro e w2 hR; obtain ⟨hv, hcl⟩ := hR; subst hv; have cl := (hcl.desk (desk.drewN 1)).ptrs))
  have D2 := Lib.hid (hcl.desk (desk.drewN 1))
  have hres2 := hcl.there (there_drewN hres 1) (by omega)
  have hbel2 := hcl.bel' (bel_drewN hbel 1) hge
  clear cl desk p0 p1 p2 p3 p4 hcl
  go_wp2_with fail
  refine (answer_any d bc k _ false _ D2.out).mono ?_
  rintro e w3 ⟨rfl, hb3⟩
  have hres3 := there_bel hres2 (by omega) hb3
  have hbel3 := bel_trans hbel2 hb3
  go_wp2_with (refine wpList_store_mid rfl 39 _ _ rfl (w.heap.size + 2) 0 ((c.put (ix k.z) ((c.get (ix k.x)).or (c.get (ix k.y)))).l ++ [Value.bool false]).toArray rfl rfl hres3 (by kernel_rfl) (by simp [Value.oneCell']) ?_)
  refine bodyPost_ret (v := ansV (c.put (ix k.z) ((c.get (ix k.x)).or (c.get (ix k.y)))) false) (results_cell_mid rfl _ _ (w.heap.size + 2) ((c.put (ix k.z) ((c.get (ix k.x)).or (c.get (ix k.y)))).l ++ [Value.bool false]) _ rfl (World.rangeAt_setCells_same w3 (w.heap.size + 2) 0 ((c.put (ix k.z) ((c.get (ix k.x)).or (c.get (ix k.y)))).l ++ [Value.bool false]) hres3) Try.underlying39 rfl (by kernel_rfl)) rfl (retBel rfl ?_)
  exact setCells_bel hbel3 (by omega)

set_option maxHeartbeats 1000000 in
theorem implXor_any (k : W4) (c : C4) (w : World) (hk : k.ok) : Calls Try.prog 39 #[k.v, c.v] w (RetBel (ansV (c.put (ix k.z) ((c.get (ix k.x)).xor (c.get (ix k.y)))) false) w) := by
  go_enter Try.func39, Try.ntmps39
  go_wp2_with fail
  refine (open_any k c _ hk).mono ?_
  rintro e w1 ⟨d, bc, rfl, hd, hbc, desk, hb⟩
  have hres : w1.there (w.heap.size + 2) 0 17 := there_bel (there_at _ _ _ _ _ (Nat.le_refl _) (by simp)) (by omega) hb
  have hbel : Below w.heap.size w w1 := bel_trans (bel_alloc (bel_alloc (bel_alloc (bel_refl w) _) _) _) hb
  have hge : w.heap.size ≤ bc := by simp at hbc; omega
  clear hb hd hbc
  obtain ⟨p0, p1, p2, p3, p4⟩ := desk.ptrs
  go_wp2_with fail
  go_region_held3 (fun w' => w'.cell? ⟨d, 1, none⟩ = some (.pointer (some ⟨bc, off4 k.z, none⟩)) ∧ w'.cell? ⟨d, 2, none⟩ = some (.pointer (some ⟨bc, off4 k.x, none⟩)) ∧ w'.cell? ⟨d, 3, none⟩ = some (.pointer (some ⟨bc, off4 k.y, none⟩))) (first | exact ⟨p1, p2, p3⟩ | exact ⟨cl.p1, cl.p2, cl.p3⟩)
    (first | (go_at_call 66; refine (left_of_put (xor_any bc (off4 k.z) bc (off4 k.x) bc (off4 k.y) _ _ _ _ ((desk.drewN 1).cells.at k.z) ((desk.drewN 1).cells.free k.z) ((desk.drewN 1).cells.at k.x) ((desk.drewN 1).cells.at k.y) (sep_off _ _ _) (sep_off _ _ _))).mono ?_; rintro e w2 hR; obtain ⟨hv, hcl⟩ := hR; subst hv; have cl := (hcl.desk (desk.drewN 1)).ptrs))
  have D2 := Lib.hid (hcl.desk (desk.drewN 1))
  have hres2 := hcl.there (there_drewN hres 1) (by omega)
  have hbel2 := hcl.bel' (bel_drewN hbel 1) hge
  clear cl desk p0 p1 p2 p3 p4 hcl
  go_wp2_with fail
  refine (answer_any d bc k _ false _ D2.out).mono ?_
  rintro e w3 ⟨rfl, hb3⟩
  have hres3 := there_bel hres2 (by omega) hb3
  have hbel3 := bel_trans hbel2 hb3
  go_wp2_with (refine wpList_store_mid rfl 39 _ _ rfl (w.heap.size + 2) 0 ((c.put (ix k.z) ((c.get (ix k.x)).xor (c.get (ix k.y)))).l ++ [Value.bool false]).toArray rfl rfl hres3 (by kernel_rfl) (by simp [Value.oneCell']) ?_)
  refine bodyPost_ret (v := ansV (c.put (ix k.z) ((c.get (ix k.x)).xor (c.get (ix k.y)))) false) (results_cell_mid rfl _ _ (w.heap.size + 2) ((c.put (ix k.z) ((c.get (ix k.x)).xor (c.get (ix k.y)))).l ++ [Value.bool false]) _ rfl (World.rangeAt_setCells_same w3 (w.heap.size + 2) 0 ((c.put (ix k.z) ((c.get (ix k.x)).xor (c.get (ix k.y)))).l ++ [Value.bool false]) hres3) Try.underlying39 rfl (by kernel_rfl)) rfl (retBel rfl ?_)
  exact setCells_bel hbel3 (by omega)

set_option maxHeartbeats 1000000 in
theorem implNot_any (k : W4) (c : C4) (w : World) (hk : k.ok) : Calls Try.prog 23 #[k.v, c.v] w (RetBel (ansV (c.put (ix k.z) ((c.get (ix k.x)).not)) false) w) := by
  go_enter Try.func23, Try.ntmps23
  go_wp2_with fail
  refine (open_any k c _ hk).mono ?_
  rintro e w1 ⟨d, bc, rfl, hd, hbc, desk, hb⟩
  have hres : w1.there (w.heap.size + 2) 0 17 := there_bel (there_at _ _ _ _ _ (Nat.le_refl _) (by simp)) (by omega) hb
  have hbel : Below w.heap.size w w1 := bel_trans (bel_alloc (bel_alloc (bel_alloc (bel_refl w) _) _) _) hb
  have hge : w.heap.size ≤ bc := by simp at hbc; omega
  clear hb hd hbc
  obtain ⟨p0, p1, p2, p3, p4⟩ := desk.ptrs
  go_wp2_with fail
  go_region_held3 (fun w' => w'.cell? ⟨d, 1, none⟩ = some (.pointer (some ⟨bc, off4 k.z, none⟩)) ∧ w'.cell? ⟨d, 2, none⟩ = some (.pointer (some ⟨bc, off4 k.x, none⟩))) (first | exact ⟨p1, p2⟩ | exact ⟨cl.p1, cl.p2⟩)
    (first | (go_at_call 52; refine (left_of_put (not_any bc (off4 k.z) bc (off4 k.x) _ _ _ ((desk.drewN 1).cells.at k.z) ((desk.drewN 1).cells.free k.z) ((desk.drewN 1).cells.at k.x) (sep_off _ _ _))).mono ?_; rintro e w2 hR; obtain ⟨hv, hcl⟩ := hR; subst hv; have cl := (hcl.desk (desk.drewN 1)).ptrs))
  have D2 := Lib.hid (hcl.desk (desk.drewN 1))
  have hres2 := hcl.there (there_drewN hres 1) (by omega)
  have hbel2 := hcl.bel' (bel_drewN hbel 1) hge
  clear cl desk p0 p1 p2 p3 p4 hcl
  go_wp2_with fail
  refine (answer_any d bc k _ false _ D2.out).mono ?_
  rintro e w3 ⟨rfl, hb3⟩
  have hres3 := there_bel hres2 (by omega) hb3
  have hbel3 := bel_trans hbel2 hb3
  go_wp2_with (refine wpList_store_mid rfl 39 _ _ rfl (w.heap.size + 2) 0 ((c.put (ix k.z) ((c.get (ix k.x)).not)).l ++ [Value.bool false]).toArray rfl rfl hres3 (by kernel_rfl) (by simp [Value.oneCell']) ?_)
  refine bodyPost_ret (v := ansV (c.put (ix k.z) ((c.get (ix k.x)).not)) false) (results_cell_mid rfl _ _ (w.heap.size + 2) ((c.put (ix k.z) ((c.get (ix k.x)).not)).l ++ [Value.bool false]) _ rfl (World.rangeAt_setCells_same w3 (w.heap.size + 2) 0 ((c.put (ix k.z) ((c.get (ix k.x)).not)).l ++ [Value.bool false]) hres3) Try.underlying39 rfl (by kernel_rfl)) rfl (retBel rfl ?_)
  exact setCells_bel hbel3 (by omega)

set_option maxHeartbeats 1000000 in
theorem implSet_any (k : W4) (c : C4) (w : World) (hk : k.ok) : Calls Try.prog 27 #[k.v, c.v] w (RetBel (ansV (c.put (ix k.z) (c.get (ix k.x))) false) w) := by
  go_enter Try.func27, Try.ntmps27
  go_wp2_with fail
  refine (open_any k c _ hk).mono ?_
  rintro e w1 ⟨d, bc, rfl, hd, hbc, desk, hb⟩
  have hres : w1.there (w.heap.size + 2) 0 17 := there_bel (there_at _ _ _ _ _ (Nat.le_refl _) (by simp)) (by omega) hb
  have hbel : Below w.heap.size w w1 := bel_trans (bel_alloc (bel_alloc (bel_alloc (bel_refl w) _) _) _) hb
  have hge : w.heap.size ≤ bc := by simp at hbc; omega
  clear hb hd hbc
  obtain ⟨p0, p1, p2, p3, p4⟩ := desk.ptrs
  go_wp2_with fail
  go_region_held3 (fun w' => w'.cell? ⟨d, 1, none⟩ = some (.pointer (some ⟨bc, off4 k.z, none⟩)) ∧ w'.cell? ⟨d, 2, none⟩ = some (.pointer (some ⟨bc, off4 k.x, none⟩))) (first | exact ⟨p1, p2⟩ | exact ⟨cl.p1, cl.p2⟩)
    (first | (go_at_call 56; refine (left_of_put (set_any bc (off4 k.z) bc (off4 k.x) _ _ _ ((desk.drewN 1).cells.at k.z) ((desk.drewN 1).cells.free k.z) ((desk.drewN 1).cells.at k.x) (sep_off _ _ _))).mono ?_; rintro e w2 hR; obtain ⟨hv, hcl⟩ := hR; subst hv; have cl := (hcl.desk (desk.drewN 1)).ptrs))
  have D2 := Lib.hid (hcl.desk (desk.drewN 1))
  have hres2 := hcl.there (there_drewN hres 1) (by omega)
  have hbel2 := hcl.bel' (bel_drewN hbel 1) hge
  clear cl desk p0 p1 p2 p3 p4 hcl
  go_wp2_with fail
  refine (answer_any d bc k _ false _ D2.out).mono ?_
  rintro e w3 ⟨rfl, hb3⟩
  have hres3 := there_bel hres2 (by omega) hb3
  have hbel3 := bel_trans hbel2 hb3
  go_wp2_with (refine wpList_store_mid rfl 39 _ _ rfl (w.heap.size + 2) 0 ((c.put (ix k.z) (c.get (ix k.x))).l ++ [Value.bool false]).toArray rfl rfl hres3 (by kernel_rfl) (by simp [Value.oneCell']) ?_)
  refine bodyPost_ret (v := ansV (c.put (ix k.z) (c.get (ix k.x))) false) (results_cell_mid rfl _ _ (w.heap.size + 2) ((c.put (ix k.z) (c.get (ix k.x))).l ++ [Value.bool false]) _ rfl (World.rangeAt_setCells_same w3 (w.heap.size + 2) 0 ((c.put (ix k.z) (c.get (ix k.x))).l ++ [Value.bool false]) hres3) Try.underlying39 rfl (by kernel_rfl)) rfl (retBel rfl ?_)
  exact setCells_bel hbel3 (by omega)
end Go.Proofs.Ytnpemghjgmofmaa
