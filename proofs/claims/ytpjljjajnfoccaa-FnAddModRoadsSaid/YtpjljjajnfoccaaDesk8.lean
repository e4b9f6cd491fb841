/-
  Contracts of the thin package's functions over cells: Div, Mod, SDiv, SMod.
-/
import Derived.Test.YtpjljjajnfoccaaDeskG
import Derived.Test.YtpjljjajnfoccaaDiv8
namespace Go.Proofs.Ytpjljjajnfoccaa
open Go.RowKit
set_option linter.unusedVariables false


set_option maxHeartbeats 1000000 in
theorem implMod_any (k : W4) (c : C4) (w : World) (hk : k.ok) : Calls Try.prog 15 #[k.v, c.v] w (RetBel (ansV (c.put (ix k.z) (remN (c.get (ix k.x)) (c.get (ix k.y)))) false) w) := by
  go_enter Try.func15, Try.ntmps15
  go_wp2_with fail
  refine (open_any k c _ hk).mono ?_
  rintro e w1 ⟨d, bc, rfl, hd, hbc, desk, hb⟩
  have hres : w1.there (w.heap.size + 2) 0 17 := there_bel (there_at _ _ _ _ _ (Nat.le_refl _) (by simp)) (by omega) hb
  have hbel : Below w.heap.size w w1 := bel_trans (bel_alloc (bel_alloc (bel_alloc (bel_refl w) _) _) _) hb
  have hge : w.heap.size ≤ bc := by simp at hbc; omega
  clear hb hd hbc
  obtain ⟨p0, p1, p2, p3, p4⟩ := desk.ptrs
  go_wp2_with fail
  go_region_held3 (fun w' => w'.cell? ⟨d, 1, none⟩ = some (.pointer (some ⟨bc, off4 k.z, none⟩)) ∧ w'.cell? ⟨d, 2, none⟩ = some (.pointer (some ⟨bc, off4 k.x, none⟩)) ∧ w'.cell? ⟨d, 3, none⟩ = some (.pointer (some ⟨bc, off4 k.y, none⟩))) (first | exact ⟨p1, p2, p3⟩ | exact ⟨cl.p1, cl.p2, cl.p3⟩)
    (first | (go_at_call 29; refine (left_of_left (modInt_any bc (off4 k.z) bc (off4 k.x) bc (off4 k.y) _ _ _ _ ((desk.drewN 1).cells.at k.z) ((desk.drewN 1).cells.free k.z) ((desk.drewN 1).cells.at k.x) ((desk.drewN 1).cells.free k.x) ((desk.drewN 1).cells.at k.y) (sep_off _ _ _))).mono ?_; rintro e w2 hR; obtain ⟨hv, hcl⟩ := hR; subst hv; have cl := (hcl.desk (desk.drewN 1)).ptrs))
  have D2 := Lib.hid (hcl.desk (desk.drewN 1))
  have hres2 := hcl.there (there_drewN hres 1) (by omega)
  have hbel2 := hcl.bel' (bel_drewN hbel 1) hge
  clear cl desk p0 p1 p2 p3 p4 hcl
  go_wp2_with fail
  refine (answer_any d bc k _ false _ D2.out).mono ?_
  rintro e w3 ⟨rfl, hb3⟩
  have hres3 := there_bel hres2 (by omega) hb3
  have hbel3 := bel_trans hbel2 hb3
  go_wp2_with (refine wpList_store_mid rfl 31 _ _ rfl (w.heap.size + 2) 0 ((c.put (ix k.z) (remN (c.get (ix k.x)) (c.get (ix k.y)))).l ++ [Value.bool false]).toArray rfl rfl hres3 (by kernel_rfl) (by simp [Value.oneCell']) ?_)
  refine bodyPost_ret (v := ansV (c.put (ix k.z) (remN (c.get (ix k.x)) (c.get (ix k.y)))) false) (results_cell_mid rfl _ _ (w.heap.size + 2) ((c.put (ix k.z) (remN (c.get (ix k.x)) (c.get (ix k.y)))).l ++ [Value.bool false]) _ rfl (World.rangeAt_setCells_same w3 (w.heap.size + 2) 0 ((c.put (ix k.z) (remN (c.get (ix k.x)) (c.get (ix k.y)))).l ++ [Value.bool false]) hres3) Try.underlying31 rfl (by kernel_rfl)) rfl (retBel rfl ?_)
  exact setCells_bel hbel3 (by omega)


end Go.Proofs.Ytpjljjajnfoccaa
