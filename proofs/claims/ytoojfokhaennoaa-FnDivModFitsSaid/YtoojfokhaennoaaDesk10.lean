/-
  The contract of the thin package's DivMod over cells.
-/
import Derived.Test.YtoojfokhaennoaaDeskG
import Derived.Test.YtoojfokhaennoaaDiv9
namespace Go.Proofs.Ytoojfokhaennoaa
open Go.RowKit
set_option linter.unusedVariables false
theorem C4.put_comm (c : C4) (n m : Int) (u v : N4) (h : ix n ≠ ix m) : (c.put (ix n) u).put (ix m) v = (c.put (ix m) v).put (ix n) u := by
  rcases ix_cases n with a | a | a | a <;> rcases ix_cases m with b | b | b | b <;> first | exact absurd (a.trans b.symm) h | (rw [a, b]; rfl)
theorem off4_ne (n m : Int) (h : ix n ≠ ix m) : off4 n ≠ off4 m := by
  unfold off4
  rcases ix_cases n with a | a | a | a <;> rcases ix_cases m with b | b | b | b <;> first | exact absurd (a.trans b.symm) h | (rw [a, b]; decide)
structure CallLeft2 (W : World) (bc : Nat) (n m : Int) (u v : N4) (w' : World) : Prop where
  ne : ix n ≠ ix m
  left : Left2 W bc (off4 n) (off4 m) u v w'
theorem CallLeft2.desk {W w' : World} {d bc : Nat} {k : W4} {c : C4} {n m : Int} {u v : N4} (h : CallLeft2 W bc n m u v w') (hd : Desk W d bc k c) : Desk w' d bc k ((c.put (ix n) u).put (ix m) v) := by
  rcases h.left with ⟨W1, h1, h2⟩ | ⟨W1, h1, h2⟩
  · exact (CallLeft.of_left h2).desk ((CallLeft.of_left h1).desk hd)
  · rw [C4.put_comm _ _ _ _ _ h.ne]
    exact (CallLeft.of_left h2).desk ((CallLeft.of_left h1).desk hd)
theorem CallLeft2.there {W w' : World} {bc : Nat} {n m : Int} {u v : N4} (h : CallLeft2 W bc n m u v w') {b p l : Nat} (ht : W.there b p l) (hl : 0 < l) : w'.there b p l := by
  rcases h.left with ⟨W1, h1, h2⟩ | ⟨W1, h1, h2⟩ <;> exact (CallLeft.of_left h2).there ((CallLeft.of_left h1).there ht hl) hl
theorem CallLeft2.bel' {W w' a : World} {bc : Nat} {n m : Int} {u v : N4} (h : CallLeft2 W bc n m u v w') (k : Below a.heap.size a W) (hb : a.heap.size ≤ bc) : Below a.heap.size a w' := by
  rcases h.left with ⟨W1, h1, h2⟩ | ⟨W1, h1, h2⟩ <;> exact (CallLeft.of_left h2).bel' ((CallLeft.of_left h1).bel' k hb) hb
theorem left2_of {P : Program} {f : FuncId} {args : Array Value} {W : World} {bc : Nat} {n m : Int} {u v : N4} {r : Value} (hne : ix n ≠ ix m) (h : Calls P f args W fun e w' => e = .returned r ∧ Left2 W bc (off4 n) (off4 m) u v w') :
    Calls P f args W fun e w' => e = .returned r ∧ CallLeft2 W bc n m u v w' :=
  h.mono fun _ _ ⟨he, hl⟩ => ⟨he, hne, hl⟩

set_option maxHeartbeats 1000000 in
theorem implDivMod_any (k : W4) (c : C4) (w : World) (hk : k.ok) (hne : ix k.z ≠ ix k.m) : Calls Try.prog 30 #[k.v, c.v] w (RetBel (ansV ((c.put (ix k.z) (quoN (c.get (ix k.x)) (c.get (ix k.y)))).put (ix k.m) (remN (c.get (ix k.x)) (c.get (ix k.y)))) false) w) := by
  go_enter Try.func30, Try.ntmps30
  go_wp2_with fail
  refine (open_any k c _ hk).mono ?_
  rintro e w1 ⟨d, bc, rfl, hd, hbc, desk, hb⟩
  have hres : w1.there (w.heap.size + 2) 0 17 := there_bel (there_at _ _ _ _ _ (Nat.le_refl _) (by simp)) (by omega) hb
  have hbel : Below w.heap.size w w1 := bel_trans (bel_alloc (bel_alloc (bel_alloc (bel_refl w) _) _) _) hb
  have hge : w.heap.size ≤ bc := by simp at hbc; omega
  clear hb hd hbc
  obtain ⟨p0, p1, p2, p3, p4⟩ := desk.ptrs
  go_wp2_with fail
  go_region_held3 (fun w' => w'.cell? ⟨d, 1, none⟩ = some (.pointer (some ⟨bc, off4 k.z, none⟩)) ∧ w'.cell? ⟨d, 2, none⟩ = some (.pointer (some ⟨bc, off4 k.x, none⟩)) ∧ w'.cell? ⟨d, 3, none⟩ = some (.pointer (some ⟨bc, off4 k.y, none⟩)) ∧ w'.cell? ⟨d, 4, none⟩ = some (.pointer (some ⟨bc, off4 k.m, none⟩))) (first | exact ⟨p1, p2, p3, p4⟩ | exact ⟨cl.p1, cl.p2, cl.p3, cl.p4⟩)
    (first | (go_at_call 64; refine (left2_of hne (divModInt_any bc (off4 k.z) (off4 k.m) bc (off4 k.x) bc (off4 k.y) _ _ _ _ _ ((desk.drewN 1).cells.at k.z) ((desk.drewN 1).cells.free k.z) ((desk.drewN 1).cells.at k.m) ((desk.drewN 1).cells.free k.m) ((desk.drewN 1).cells.at k.x) ((desk.drewN 1).cells.free k.x) ((desk.drewN 1).cells.at k.y) (sep_off _ _ _) (sep_off _ _ _) (off4_ne _ _ hne) (sep_off _ _ _))).mono ?_; rintro e w2 hR; obtain ⟨hv, hcl⟩ := hR; subst hv; have cl := (hcl.desk (desk.drewN 1)).ptrs))
  have D2 := Lib.hid (hcl.desk (desk.drewN 1))
  have hres2 := hcl.there (there_drewN hres 1) (by omega)
  have hbel2 := hcl.bel' (bel_drewN hbel 1) hge
  clear cl desk p0 p1 p2 p3 p4 hcl
  go_wp2_with fail
  refine (answer_any d bc k _ false _ D2.out).mono ?_
  rintro e w3 ⟨rfl, hb3⟩
  have hres3 := there_bel hres2 (by omega) hb3
  have hbel3 := bel_trans hbel2 hb3
  go_wp2_with (refine wpList_store_mid rfl 31 _ _ rfl (w.heap.size + 2) 0 (((c.put (ix k.z) (quoN (c.get (ix k.x)) (c.get (ix k.y)))).put (ix k.m) (remN (c.get (ix k.x)) (c.get (ix k.y)))).l ++ [Value.bool false]).toArray rfl rfl hres3 (by kernel_rfl) (by simp [Value.oneCell']) ?_)
  refine bodyPost_ret (v := ansV ((c.put (ix k.z) (quoN (c.get (ix k.x)) (c.get (ix k.y)))).put (ix k.m) (remN (c.get (ix k.x)) (c.get (ix k.y)))) false) (results_cell_mid rfl _ _ (w.heap.size + 2) (((c.put (ix k.z) (quoN (c.get (ix k.x)) (c.get (ix k.y)))).put (ix k.m) (remN (c.get (ix k.x)) (c.get (ix k.y)))).l ++ [Value.bool false]) _ rfl (World.rangeAt_setCells_same w3 (w.heap.size + 2) 0 (((c.put (ix k.z) (quoN (c.get (ix k.x)) (c.get (ix k.y)))).put (ix k.m) (remN (c.get (ix k.x)) (c.get (ix k.y)))).l ++ [Value.bool false]) hres3) Try.underlying31 rfl (by kernel_rfl)) rfl (retBel rfl ?_)
  exact setCells_bel hbel3 (by omega)
end Go.Proofs.Ytoojfokhaennoaa
