/-
  How a number's four words are stored one by one; what SetBytes1 to SetBytes32 leave.
-/
import Derived.Test.YtpmhkmcikjbncaaFmtSb
import Derived.Test.YtpmhkmcikjbncaaFmtDig5
namespace Go.Proofs.YtpmhkmcikjbncaaFmt
open Go.RowKit
set_option linter.unusedVariables false
set_option linter.unusedSimpArgs false
set_option maxRecDepth 100000
set_option maxHeartbeats 4000000 in
theorem set1_any (b o : Nat) (z : N4) (g q n cap : Nat) (l : List UInt8) (w : World) (hz : At4 w b o z) (fz : Free4 w b o) (hB : BytesAt w g q l) (hl : l.length = n) (hN : 1 ≤ n) (hcap : n ≤ cap) (hne : g ≠ b) :
    Calls Tryf.prog 28 #[.pointer (some ⟨b, o, none⟩), .slice (some ⟨g, q, none⟩) n cap] w (RetLeft b o (ofN (Lib.beNat (l.take 1))) w) := by
  have hb := hz.lt
  have H := Left.start hz
  have k0 : ¬ cap = 0 := by omega
  have c1 : (1 : Int) ≤ (cap : Int) := by omega
  have n0 : (seg l 0 1).length = 1 := by rw [seg_len]; omega
  have L0 := beNat_lt (seg l 0 1)
  rw [n0] at L0
  obtain ⟨u, hu⟩ : ∃ u, l[0]? = some u := ⟨_, List.getElem?_eq_getElem (by omega)⟩
  have hc0 := hB 0 u hu
  have hp0 : (0 : Int) < (n : Int) := by omega
  clear hu
  obtain ⟨z0, z1, z2, z3⟩ := hz
  obtain ⟨f0, f1, f2, f3⟩ := fz
  have hz : At4 w b o z := ⟨z0, z1, z2, z3⟩
  have fz : Free4 w b o := ⟨f0, f1, f2, f3⟩
  go_enter Tryf.func28, Tryf.ntmps28
  go_wp2
  go_region
  go_wp2
  have H2 : Left w b o (N4.setW (N4.setW (N4.setW z 3 0#64) 2 0#64) 1 0#64) (World.setCell (World.setCell (World.setCell w ⟨b, o + 3, none⟩ (.int .u64 0)) ⟨b, o + 2, none⟩ (.int .u64 0)) ⟨b, o + 1, none⟩ (.int .u64 0)).drew := (Left.one (Left.one (Left.one H 3 (by omega) 0#64) 2 (by omega) 0#64) 1 (by omega) 0#64).drew
  clear H z0 z1 z2 z3 f0 f1 f2 f3 hc0
  revert H2
  generalize (World.setCell (World.setCell (World.setCell w ⟨b, o + 3, none⟩ (.int .u64 0)) ⟨b, o + 2, none⟩ (.int .u64 0)) ⟨b, o + 1, none⟩ (.int .u64 0)).drew = W1
  intro H
  have hne2 : ¬ b = g := fun e => hne e.symm
  have hB1 : BytesAt _ g q (seg l 0 1) := (H.bytes hB hne).cut 0 1
  obtain ⟨u0, hu0⟩ : ∃ u, l[0]? = some u := ⟨_, List.getElem?_eq_getElem (by omega)⟩
  have hc1 := H.bytes hB hne 0 u0 hu0
  rw [Nat.add_zero] at hc1
  have E1 := beNat_take1 hu0
  have u0l := u0.toNat_lt
  have hn0 : 0 < n := by omega
  have hw0 : IntKind.u64.wrap (u0.toNat : Int) = (u0.toNat : Int) := by rw [IntKind.wrap_u64]; omega
  obtain ⟨y0, y1, y2, y3⟩ := H.atz hz
  obtain ⟨x0, x1, x2, x3⟩ := H.frz fz hb
  refine wp_region_noPanic ?_
  refine wp_region_held_drew (S := (fun w9 => w9.cell? ⟨g, q, none⟩ = some (.int .u8 (u0.toNat : Int)))) (by kernel_rfl) (by exact hc1) (fun hHeld => ?_)
  refine hm_take (i := 0) (v := ?_) rfl rfl (by kernel_rfl) (by kernel_rfl) (by kernel_rfl) (fun _ _ _ h => h) rfl ?_ (by assumption) ?_
  rotate_left
  · (intro w hSw; (try dsimp only at hSw); go_simp; try with_reducible rfl)
  try simp only [Act.put, List.setIfInBounds_toArray, List.set_cons_zero, List.set_cons_succ]
  refine hm_take (i := 1) (v := ?_) rfl rfl (by kernel_rfl) (by kernel_rfl) (by kernel_rfl) (fun _ _ _ h => h) rfl ?_ (by assumption) ?_
  rotate_left
  · (intro w hSw; (try dsimp only at hSw); go_simp; try with_reducible rfl)
  try simp only [Act.put, List.setIfInBounds_toArray, List.set_cons_zero, List.set_cons_succ]
  refine hm_take (i := 2) (v := ?_) rfl rfl (by kernel_rfl) (by kernel_rfl) (by kernel_rfl) (fun _ _ _ h => h) rfl ?_ (by assumption) ?_
  rotate_left
  · (intro w hSw; (try dsimp only at hSw); go_simp; try with_reducible rfl)
  try simp only [Act.put, List.setIfInBounds_toArray, List.set_cons_zero, List.set_cons_succ]
  refine hm_take (i := 3) (v := ?_) rfl rfl (by kernel_rfl) (by kernel_rfl) (by kernel_rfl) (fun _ _ _ h => h) rfl ?_ (by assumption) ?_
  rotate_left
  · (intro w hSw; (try dsimp only at hSw); go_simp; try with_reducible rfl)
  try simp only [Act.put, List.setIfInBounds_toArray, List.set_cons_zero, List.set_cons_succ]
  refine hm_take (i := 4) (v := ?_) rfl rfl (by kernel_rfl) (by kernel_rfl) (by kernel_rfl) (fun _ _ _ h => h) rfl ?_ (by assumption) ?_
  rotate_left
  · (intro w hSw; (try dsimp only at hSw); go_simp; try with_reducible rfl)
  try simp only [Act.put, List.setIfInBounds_toArray, List.set_cons_zero, List.set_cons_succ]
  refine hm_take (i := 5) (v := ?_) rfl rfl (by kernel_rfl) (by kernel_rfl) (by kernel_rfl) (fun _ _ _ h => h) rfl ?_ (by assumption) ?_
  rotate_left
  · (intro w hSw; (try dsimp only at hSw); go_simp; try with_reducible rfl)
  try simp only [Act.put, List.setIfInBounds_toArray, List.set_cons_zero, List.set_cons_succ]
  refine hm_take (i := 6) (v := ?_) rfl rfl (by kernel_rfl) (by kernel_rfl) (by kernel_rfl) (fun _ _ _ h => h) rfl ?_ (by assumption) ?_
  rotate_left
  · (intro w hSw; (try dsimp only at hSw); go_simp; try with_reducible rfl)
  try simp only [Act.put, List.setIfInBounds_toArray, List.set_cons_zero, List.set_cons_succ]
  refine hm_call (i := 7) rfl (by kernel_rfl) rfl (fun K hK => ?_)
  (go_simp)
  refine hK.out _ _ (by (try dsimp only); first | exact bel_cell hb1 hHeld | exact (World.cell?_setCell_other _ _ _ _ (by intro e; injection e with e; first | exact hne e | exact hne2 e)).trans hHeld) (fun hHeld => ?_)
  clear hK K
  try simp only [Act.put, List.setIfInBounds_toArray, List.set_cons_zero, List.set_cons_succ]
  refine wpAnyH_done (by kernel_rfl) ?_ _
  refine NoPanic.normal ?_
  have H2 : Left w b o (N4.setW (N4.setW (N4.setW (N4.setW z 3 0#64) 2 0#64) 1 0#64) 0 (BitVec.ofNat 64 (Lib.beNat (seg l 0 1)))) (World.drew (World.setCell W1 ⟨b, o, none⟩ (.int .u64 (u0.toNat : Int)))) := by
    rw [E1, ← U_ofNat _ (by omega)]
    exact (H.one 0 (by omega) _).drew
  clear H hB1 y0 y1 y2 y3 x0 x1 x2 x3 hc1 hw0 u0l
  revert H2
  generalize World.drew (World.setCell _ _ _) = W1
  intro H
  go_wp2
  go_ret
  refine ⟨rfl, ?_⟩
  have e : (N4.setW (N4.setW (N4.setW (N4.setW z 3 0#64) 2 0#64) 1 0#64) 0 (BitVec.ofNat 64 (Lib.beNat (seg l 0 1)))) = ofN (Lib.beNat (l.take 1)) := by
    apply eq_ofN
    rw [← seg_zero]
    simp only [N4.setW, N4.toNat, if_true, if_false, reduceIte, BitVec.toNat_ofNat, show ¬ (2 : Nat) = 0 by omega, show ¬ (3 : Nat) = 0 by omega, show ¬ (1 : Nat) = 0 by omega, show ¬ (2 : Nat) = 1 by omega, show ¬ (3 : Nat) = 1 by omega, show ¬ (3 : Nat) = 2 by omega]
    omega
  rw [← e]
  exact H
set_option maxHeartbeats 4000000 in
theorem set2_any (b o : Nat) (z : N4) (g q n cap : Nat) (l : List UInt8) (w : World) (hz : At4 w b o z) (fz : Free4 w b o) (hB : BytesAt w g q l) (hl : l.length = n) (hN : 2 ≤ n) (hcap : n ≤ cap) (hne : g ≠ b) :
    Calls Tryf.prog 29 #[.pointer (some ⟨b, o, none⟩), .slice (some ⟨g, q, none⟩) n cap] w (RetLeft b o (ofN (Lib.beNat (l.take 2))) w) := by
  have hb := hz.lt
  have H := Left.start hz
  have k0 : ¬ cap = 0 := by omega
  have c2 : (2 : Int) ≤ (cap : Int) := by omega
  have n0 : (seg l 0 2).length = 2 := by rw [seg_len]; omega
  have L0 := beNat_lt (seg l 0 2)
  rw [n0] at L0
  obtain ⟨u, hu⟩ : ∃ u, l[1]? = some u := ⟨_, List.getElem?_eq_getElem (by omega)⟩
  have hc0 := hB 1 u hu
  have hp0 : (1 : Int) < (n : Int) := by omega
  clear hu
  obtain ⟨z0, z1, z2, z3⟩ := hz
  obtain ⟨f0, f1, f2, f3⟩ := fz
  have hz : At4 w b o z := ⟨z0, z1, z2, z3⟩
  have fz : Free4 w b o := ⟨f0, f1, f2, f3⟩
  go_enter Tryf.func29, Tryf.ntmps29
  go_wp2
  go_region
  go_wp2
  have H2 : Left w b o (N4.setW (N4.setW (N4.setW z 3 0#64) 2 0#64) 1 0#64) (World.setCell (World.setCell (World.setCell w ⟨b, o + 3, none⟩ (.int .u64 0)) ⟨b, o + 2, none⟩ (.int .u64 0)) ⟨b, o + 1, none⟩ (.int .u64 0)).drew := (Left.one (Left.one (Left.one H 3 (by omega) 0#64) 2 (by omega) 0#64) 1 (by omega) 0#64).drew
  clear H z0 z1 z2 z3 f0 f1 f2 f3 hc0
  revert H2
  generalize (World.setCell (World.setCell (World.setCell w ⟨b, o + 3, none⟩ (.int .u64 0)) ⟨b, o + 2, none⟩ (.int .u64 0)) ⟨b, o + 1, none⟩ (.int .u64 0)).drew = W1
  intro H
  have hne2 : ¬ b = g := fun e => hne e.symm
  have hB1 : BytesAt _ g q (seg l 0 2) := (H.bytes hB hne).cut 0 2
  have hwr : IntKind.u64.wrap ((Lib.beNat (seg l 0 2) : Nat) : Int) = ((Lib.beNat (seg l 0 2) : Nat) : Int) := by rw [IntKind.wrap_u64]; omega
  refine wp_region_noPanic ?_
  refine wp_region_held_drew (S := (fun _ => True)) (by kernel_rfl) (by all_goals exact trivial) (fun hHeld => ?_)
  refine hm_take (i := 0) (v := ?_) rfl rfl (by kernel_rfl) (by kernel_rfl) (by kernel_rfl) (fun _ _ _ h => h) rfl ?_ (by assumption) ?_
  rotate_left
  · (intro w hSw; (try dsimp only at hSw); go_simp; try with_reducible rfl)
  try simp only [Act.put, List.setIfInBounds_toArray, List.set_cons_zero, List.set_cons_succ]
  refine hm_take (i := 1) (v := ?_) rfl rfl (by kernel_rfl) (by kernel_rfl) (by kernel_rfl) (fun _ _ _ h => h) rfl ?_ (by assumption) ?_
  rotate_left
  · (intro w hSw; (try dsimp only at hSw); go_simp; try with_reducible rfl)
  try simp only [Act.put, List.setIfInBounds_toArray, List.set_cons_zero, List.set_cons_succ]
  refine hm_take (i := 2) (v := ?_) rfl rfl (by kernel_rfl) (by kernel_rfl) (by kernel_rfl) (fun _ _ _ h => h) rfl ?_ (by assumption) ?_
  rotate_left
  · (intro w hSw; (try dsimp only at hSw); go_simp; try with_reducible rfl)
  try simp only [Act.put, List.setIfInBounds_toArray, List.set_cons_zero, List.set_cons_succ]
  refine hm_take (i := 3) (v := ?_) rfl rfl (by kernel_rfl) (by kernel_rfl) (by kernel_rfl) (fun _ _ _ h => h) rfl ?_ (by assumption) ?_
  rotate_left
  · (intro w hSw; (try dsimp only at hSw); go_simp; try with_reducible rfl)
  try simp only [Act.put, List.setIfInBounds_toArray, List.set_cons_zero, List.set_cons_succ]
  refine hm_take (i := 6) (v := ?_) rfl rfl (by kernel_rfl) (by kernel_rfl) (by kernel_rfl) (fun _ _ _ h => h) rfl ?_ (by assumption) ?_
  rotate_left
  · (intro w hSw; (try dsimp only at hSw); go_simp; try with_reducible rfl)
  try simp only [Act.put, List.setIfInBounds_toArray, List.set_cons_zero, List.set_cons_succ]
  refine hm_call (i := 4) rfl (by kernel_rfl) rfl (fun K hK => ?_)
  go_simp
  (go_at_call 65; refine (rd16_any _ _ _ _ (seg l 0 2) _ n0 (by omega) (BytesAt.bel hB1 (bel_drew (bel_refl _)))).mono ?_; rintro e w1 ⟨rfl, hb1⟩; have HH := H.drew.grow hb1; obtain ⟨y0, y1, y2, y3⟩ := HH.atz hz; obtain ⟨x0, x1, x2, x3⟩ := HH.frz fz hb)
  (try go_wp2_with fail)
  refine hK.out _ _ (by (try dsimp only); all_goals exact trivial) (fun hHeld => ?_)
  clear hK K
  try simp only [Act.put, List.setIfInBounds_toArray, List.set_cons_zero, List.set_cons_succ]
  refine hm_take (i := 5) (v := ?_) rfl rfl (by kernel_rfl) (by kernel_rfl) (by kernel_rfl) (fun _ _ _ h => h) rfl ?_ (by assumption) ?_
  rotate_left
  · (intro w hSw; (try dsimp only at hSw); go_simp; try with_reducible rfl)
  try simp only [Act.put, List.setIfInBounds_toArray, List.set_cons_zero, List.set_cons_succ]
  refine hm_take (i := 7) (v := ?_) rfl rfl (by kernel_rfl) (by kernel_rfl) (by kernel_rfl) (fun _ _ _ h => h) rfl ?_ (by assumption) ?_
  rotate_left
  · (intro w hSw; (try dsimp only at hSw); go_simp; try with_reducible rfl)
  try simp only [Act.put, List.setIfInBounds_toArray, List.set_cons_zero, List.set_cons_succ]
  refine hm_call (i := 8) rfl (by kernel_rfl) rfl (fun K hK => ?_)
  (go_simp)
  refine hK.out _ _ (by (try dsimp only); all_goals exact trivial) (fun hHeld => ?_)
  clear hK K
  try simp only [Act.put, List.setIfInBounds_toArray, List.set_cons_zero, List.set_cons_succ]
  refine wpAnyH_done (by kernel_rfl) ?_ _
  refine NoPanic.normal ?_
  have H2 : Left w b o (N4.setW (N4.setW (N4.setW (N4.setW z 3 0#64) 2 0#64) 1 0#64) 0 (BitVec.ofNat 64 (Lib.beNat (seg l 0 2)))) (World.setCell w1 ⟨b, o, none⟩ (.int .u64 ((Lib.beNat (seg l 0 2) : Nat) : Int))) := by
    rw [← U_ofNat _ (by omega)]
    exact (HH.one 0 (by omega) _)
  clear H hB1 HH y0 y1 y2 y3 x0 x1 x2 x3 hb1 hwr
  revert H2
  generalize World.setCell _ _ _ = W1
  intro H
  go_wp2
  go_ret
  refine ⟨rfl, ?_⟩
  have e : (N4.setW (N4.setW (N4.setW (N4.setW z 3 0#64) 2 0#64) 1 0#64) 0 (BitVec.ofNat 64 (Lib.beNat (seg l 0 2)))) = ofN (Lib.beNat (l.take 2)) := by
    apply eq_ofN
    rw [← seg_zero]
    simp only [N4.setW, N4.toNat, if_true, if_false, reduceIte, BitVec.toNat_ofNat, show ¬ (2 : Nat) = 0 by omega, show ¬ (3 : Nat) = 0 by omega, show ¬ (1 : Nat) = 0 by omega, show ¬ (2 : Nat) = 1 by omega, show ¬ (3 : Nat) = 1 by omega, show ¬ (3 : Nat) = 2 by omega]
    omega
  rw [← e]
  exact H
set_option maxHeartbeats 4000000 in
theorem set3_any (b o : Nat) (z : N4) (g q n cap : Nat) (l : List UInt8) (w : World) (hz : At4 w b o z) (fz : Free4 w b o) (hB : BytesAt w g q l) (hl : l.length = n) (hN : 3 ≤ n) (hcap : n ≤ cap) (hne : g ≠ b) :
    Calls Tryf.prog 30 #[.pointer (some ⟨b, o, none⟩), .slice (some ⟨g, q, none⟩) n cap] w (RetLeft b o (ofN (Lib.beNat (l.take 3))) w) := by
  have hb := hz.lt
  have H := Left.start hz
  have k0 : ¬ cap = 0 := by omega
  have c3 : (3 : Int) ≤ (cap : Int) := by omega
  have n0 : (seg l 0 3).length = 3 := by rw [seg_len]; omega
  have L0 := beNat_lt (seg l 0 3)
  rw [n0] at L0
  obtain ⟨u, hu⟩ : ∃ u, l[2]? = some u := ⟨_, List.getElem?_eq_getElem (by omega)⟩
  have hc0 := hB 2 u hu
  have hp0 : (2 : Int) < (n : Int) := by omega
  clear hu
  obtain ⟨z0, z1, z2, z3⟩ := hz
  obtain ⟨f0, f1, f2, f3⟩ := fz
  have hz : At4 w b o z := ⟨z0, z1, z2, z3⟩
  have fz : Free4 w b o := ⟨f0, f1, f2, f3⟩
  go_enter Tryf.func30, Tryf.ntmps30
  go_wp2
  go_region
  go_wp2
  have H2 : Left w b o (N4.setW (N4.setW (N4.setW z 3 0#64) 2 0#64) 1 0#64) (World.setCell (World.setCell (World.setCell w ⟨b, o + 3, none⟩ (.int .u64 0)) ⟨b, o + 2, none⟩ (.int .u64 0)) ⟨b, o + 1, none⟩ (.int .u64 0)).drew := (Left.one (Left.one (Left.one H 3 (by omega) 0#64) 2 (by omega) 0#64) 1 (by omega) 0#64).drew
  clear H z0 z1 z2 z3 f0 f1 f2 f3 hc0
  revert H2
  generalize (World.setCell (World.setCell (World.setCell w ⟨b, o + 3, none⟩ (.int .u64 0)) ⟨b, o + 2, none⟩ (.int .u64 0)) ⟨b, o + 1, none⟩ (.int .u64 0)).drew = W1
  intro H
  have hne2 : ¬ b = g := fun e => hne e.symm
  have hB1 : BytesAt _ g q (seg l 0 3) := (H.bytes hB hne).cut 0 3
  have k1b : ¬ cap = 1 := by omega
  have n2b : (seg l 1 2).length = 2 := by rw [seg_len]; omega
  have L2b := beNat_lt (seg l 1 2)
  rw [n2b] at L2b
  obtain ⟨u0, hu0⟩ : ∃ u, l[0]? = some u := ⟨_, List.getElem?_eq_getElem (by omega)⟩
  have hc1 := H.bytes hB hne 0 u0 hu0
  rw [Nat.add_zero] at hc1
  have E1 := beNat_take1 hu0
  have u0l := u0.toNat_lt
  have hn0 : 0 < n := by omega
  have hw0 : IntKind.u64.wrap (u0.toNat : Int) = (u0.toNat : Int) := by rw [IntKind.wrap_u64]; omega
  have hw2 : IntKind.u64.wrap ((Lib.beNat (seg l 1 2) : Nat) : Int) = ((Lib.beNat (seg l 1 2) : Nat) : Int) := by rw [IntKind.wrap_u64]; omega
  have E3 : Lib.beNat (seg l 0 3) = u0.toNat * 65536 + Lib.beNat (seg l 1 2) := by
    rw [seg_zero, show l.take 3 = l.take 1 ++ seg l 1 2 from take_split l 1 2, beNat_append, n2b, ← seg_zero, E1]
  have hor : bits BinOp.or IntKind.u64 ((Lib.beNat (seg l 1 2) : Nat) : Int) ((u0.toNat : Int) * 65536) = ((Lib.beNat (seg l 0 3) : Nat) : Int) := by
    rw [u64_or16 _ _ (by omega) (by omega) (by omega) (by omega) (by omega), E3]
    omega
  clear E3
  have hsh : IntKind.u64.wrap ((u0.toNat : Int) * 65536) = (u0.toNat : Int) * 65536 := by rw [IntKind.wrap_u64]; omega
  have hB2 : BytesAt _ g (q + 1) (seg l 1 2) := (H.bytes hB hne).cut 1 2
  refine wp_region_noPanic ?_
  refine wp_region_held_drew (S := (fun w9 => w9.cell? ⟨g, q, none⟩ = some (.int .u8 (u0.toNat : Int)))) (by kernel_rfl) (by exact hc1) (fun hHeld => ?_)
  refine hm_take (i := 0) (v := ?_) rfl rfl (by kernel_rfl) (by kernel_rfl) (by kernel_rfl) (fun _ _ _ h => h) rfl ?_ (by assumption) ?_
  rotate_left
  · (intro w hSw; (try dsimp only at hSw); go_simp; try with_reducible rfl)
  try simp only [Act.put, List.setIfInBounds_toArray, List.set_cons_zero, List.set_cons_succ]
  refine hm_take (i := 1) (v := ?_) rfl rfl (by kernel_rfl) (by kernel_rfl) (by kernel_rfl) (fun _ _ _ h => h) rfl ?_ (by assumption) ?_
  rotate_left
  · (intro w hSw; (try dsimp only at hSw); go_simp; try with_reducible rfl)
  try simp only [Act.put, List.setIfInBounds_toArray, List.set_cons_zero, List.set_cons_succ]
  refine hm_take (i := 2) (v := ?_) rfl rfl (by kernel_rfl) (by kernel_rfl) (by kernel_rfl) (fun _ _ _ h => h) rfl ?_ (by assumption) ?_
  rotate_left
  · (intro w hSw; (try dsimp only at hSw); go_simp; try with_reducible rfl)
  try simp only [Act.put, List.setIfInBounds_toArray, List.set_cons_zero, List.set_cons_succ]
  refine hm_take (i := 3) (v := ?_) rfl rfl (by kernel_rfl) (by kernel_rfl) (by kernel_rfl) (fun _ _ _ h => h) rfl ?_ (by assumption) ?_
  rotate_left
  · (intro w hSw; (try dsimp only at hSw); go_simp; try with_reducible rfl)
  try simp only [Act.put, List.setIfInBounds_toArray, List.set_cons_zero, List.set_cons_succ]
  refine hm_take (i := 6) (v := ?_) rfl rfl (by kernel_rfl) (by kernel_rfl) (by kernel_rfl) (fun _ _ _ h => h) rfl ?_ (by assumption) ?_
  rotate_left
  · (intro w hSw; (try dsimp only at hSw); go_simp; try with_reducible rfl)
  try simp only [Act.put, List.setIfInBounds_toArray, List.set_cons_zero, List.set_cons_succ]
  refine hm_take (i := 7) (v := ?_) rfl rfl (by kernel_rfl) (by kernel_rfl) (by kernel_rfl) (fun _ _ _ h => h) rfl ?_ (by assumption) ?_
  rotate_left
  · (intro w hSw; (try dsimp only at hSw); go_simp; try with_reducible rfl)
  try simp only [Act.put, List.setIfInBounds_toArray, List.set_cons_zero, List.set_cons_succ]
  refine hm_take (i := 8) (v := ?_) rfl rfl (by kernel_rfl) (by kernel_rfl) (by kernel_rfl) (fun _ _ _ h => h) rfl ?_ (by assumption) ?_
  rotate_left
  · (intro w hSw; (try dsimp only at hSw); go_simp; try with_reducible rfl)
  try simp only [Act.put, List.setIfInBounds_toArray, List.set_cons_zero, List.set_cons_succ]
  refine hm_take (i := 9) (v := ?_) rfl rfl (by kernel_rfl) (by kernel_rfl) (by kernel_rfl) (fun _ _ _ h => h) rfl ?_ (by assumption) ?_
  rotate_left
  · (intro w hSw; (try dsimp only at hSw); go_simp; try with_reducible rfl)
  try simp only [Act.put, List.setIfInBounds_toArray, List.set_cons_zero, List.set_cons_succ]
  refine hm_take (i := 10) (v := ?_) rfl rfl (by kernel_rfl) (by kernel_rfl) (by kernel_rfl) (fun _ _ _ h => h) rfl ?_ (by assumption) ?_
  rotate_left
  · (intro w hSw; (try dsimp only at hSw); go_simp; try with_reducible rfl)
  try simp only [Act.put, List.setIfInBounds_toArray, List.set_cons_zero, List.set_cons_succ]
  refine hm_take (i := 12) (v := ?_) rfl rfl (by kernel_rfl) (by kernel_rfl) (by kernel_rfl) (fun _ _ _ h => h) rfl ?_ (by assumption) ?_
  rotate_left
  · (intro w hSw; (try dsimp only at hSw); go_simp; try with_reducible rfl)
  try simp only [Act.put, List.setIfInBounds_toArray, List.set_cons_zero, List.set_cons_succ]
  refine hm_call (i := 4) rfl (by kernel_rfl) rfl (fun K hK => ?_)
  go_simp
  (go_at_call 65; refine (rd16_any _ _ _ _ (seg l 1 2) _ n2b (by omega) (BytesAt.bel hB2 (bel_drew (bel_refl _)))).mono ?_; rintro e w1 ⟨rfl, hb1⟩; have HH := H.drew.grow hb1; obtain ⟨y0, y1, y2, y3⟩ := HH.atz hz; obtain ⟨x0, x1, x2, x3⟩ := HH.frz fz hb)
  (try go_wp2_with fail)
  refine hK.out _ _ (by (try dsimp only); first | exact bel_cell hb1 hHeld | exact (World.cell?_setCell_other _ _ _ _ (by intro e; injection e with e; first | exact hne e | exact hne2 e)).trans hHeld) (fun hHeld => ?_)
  clear hK K
  try simp only [Act.put, List.setIfInBounds_toArray, List.set_cons_zero, List.set_cons_succ]
  refine hm_take (i := 5) (v := ?_) rfl rfl (by kernel_rfl) (by kernel_rfl) (by kernel_rfl) (fun _ _ _ h => h) rfl ?_ (by assumption) ?_
  rotate_left
  · (intro w hSw; (try dsimp only at hSw); go_simp; try with_reducible rfl)
  try simp only [Act.put, List.setIfInBounds_toArray, List.set_cons_zero, List.set_cons_succ]
  refine hm_take (i := 11) (v := ?_) rfl rfl (by kernel_rfl) (by kernel_rfl) (by kernel_rfl) (fun _ _ _ h => h) rfl ?_ (by assumption) ?_
  rotate_left
  · (intro w hSw; (try dsimp only at hSw); go_simp; try with_reducible rfl)
  try simp only [Act.put, List.setIfInBounds_toArray, List.set_cons_zero, List.set_cons_succ]
  refine hm_take (i := 13) (v := ?_) rfl rfl (by kernel_rfl) (by kernel_rfl) (by kernel_rfl) (fun _ _ _ h => h) rfl ?_ (by assumption) ?_
  rotate_left
  · (intro w hSw; (try dsimp only at hSw); go_simp; try with_reducible rfl)
  try simp only [Act.put, List.setIfInBounds_toArray, List.set_cons_zero, List.set_cons_succ]
  refine hm_call (i := 14) rfl (by kernel_rfl) rfl (fun K hK => ?_)
  (go_simp)
  refine hK.out _ _ (by (try dsimp only); first | exact bel_cell hb1 hHeld | exact (World.cell?_setCell_other _ _ _ _ (by intro e; injection e with e; first | exact hne e | exact hne2 e)).trans hHeld) (fun hHeld => ?_)
  clear hK K
  try simp only [Act.put, List.setIfInBounds_toArray, List.set_cons_zero, List.set_cons_succ]
  refine wpAnyH_done (by kernel_rfl) ?_ _
  refine NoPanic.normal ?_
  have H2 : Left w b o (N4.setW (N4.setW (N4.setW (N4.setW z 3 0#64) 2 0#64) 1 0#64) 0 (BitVec.ofNat 64 (Lib.beNat (seg l 0 3)))) (World.setCell w1 ⟨b, o, none⟩ (.int .u64 ((Lib.beNat (seg l 0 3) : Nat) : Int))) := by
    rw [← U_ofNat _ (by omega)]
    exact (HH.one 0 (by omega) _)
  clear H hB1 HH y0 y1 y2 y3 x0 x1 x2 x3 hb1 hc1 hw0 u0l hw2 hor hsh hB2
  revert H2
  generalize World.setCell _ _ _ = W1
  intro H
  go_wp2
  go_ret
  refine ⟨rfl, ?_⟩
  have e : (N4.setW (N4.setW (N4.setW (N4.setW z 3 0#64) 2 0#64) 1 0#64) 0 (BitVec.ofNat 64 (Lib.beNat (seg l 0 3)))) = ofN (Lib.beNat (l.take 3)) := by
    apply eq_ofN
    rw [← seg_zero]
    simp only [N4.setW, N4.toNat, if_true, if_false, reduceIte, BitVec.toNat_ofNat, show ¬ (2 : Nat) = 0 by omega, show ¬ (3 : Nat) = 0 by omega, show ¬ (1 : Nat) = 0 by omega, show ¬ (2 : Nat) = 1 by omega, show ¬ (3 : Nat) = 1 by omega, show ¬ (3 : Nat) = 2 by omega]
    omega
  rw [← e]
  exact H
set_option maxHeartbeats 4000000 in
theorem set4_any (b o : Nat) (z : N4) (g q n cap : Nat) (l : List UInt8) (w : World) (hz : At4 w b o z) (fz : Free4 w b o) (hB : BytesAt w g q l) (hl : l.length = n) (hN : 4 ≤ n) (hcap : n ≤ cap) (hne : g ≠ b) :
    Calls Tryf.prog 31 #[.pointer (some ⟨b, o, none⟩), .slice (some ⟨g, q, none⟩) n cap] w (RetLeft b o (ofN (Lib.beNat (l.take 4))) w) := by
  have hb := hz.lt
  have H := Left.start hz
  have k0 : ¬ cap = 0 := by omega
  have c4 : (4 : Int) ≤ (cap : Int) := by omega
  have n0 : (seg l 0 4).length = 4 := by rw [seg_len]; omega
  have L0 := beNat_lt (seg l 0 4)
  rw [n0] at L0
  obtain ⟨u, hu⟩ : ∃ u, l[3]? = some u := ⟨_, List.getElem?_eq_getElem (by omega)⟩
  have hc0 := hB 3 u hu
  have hp0 : (3 : Int) < (n : Int) := by omega
  clear hu
  obtain ⟨z0, z1, z2, z3⟩ := hz
  obtain ⟨f0, f1, f2, f3⟩ := fz
  have hz : At4 w b o z := ⟨z0, z1, z2, z3⟩
  have fz : Free4 w b o := ⟨f0, f1, f2, f3⟩
  go_enter Tryf.func31, Tryf.ntmps31
  go_wp2
  go_region
  go_wp2
  have H2 : Left w b o (N4.setW (N4.setW (N4.setW z 3 0#64) 2 0#64) 1 0#64) (World.setCell (World.setCell (World.setCell w ⟨b, o + 3, none⟩ (.int .u64 0)) ⟨b, o + 2, none⟩ (.int .u64 0)) ⟨b, o + 1, none⟩ (.int .u64 0)).drew := (Left.one (Left.one (Left.one H 3 (by omega) 0#64) 2 (by omega) 0#64) 1 (by omega) 0#64).drew
  clear H z0 z1 z2 z3 f0 f1 f2 f3 hc0
  revert H2
  generalize (World.setCell (World.setCell (World.setCell w ⟨b, o + 3, none⟩ (.int .u64 0)) ⟨b, o + 2, none⟩ (.int .u64 0)) ⟨b, o + 1, none⟩ (.int .u64 0)).drew = W1
  intro H
  have hne2 : ¬ b = g := fun e => hne e.symm
  have hB1 : BytesAt _ g q (seg l 0 4) := (H.bytes hB hne).cut 0 4
  have hwr : IntKind.u64.wrap ((Lib.beNat (seg l 0 4) : Nat) : Int) = ((Lib.beNat (seg l 0 4) : Nat) : Int) := by rw [IntKind.wrap_u64]; omega
  refine wp_region_noPanic ?_
  refine wp_region_held_drew (S := (fun _ => True)) (by kernel_rfl) (by all_goals exact trivial) (fun hHeld => ?_)
  refine hm_take (i := 0) (v := ?_) rfl rfl (by kernel_rfl) (by kernel_rfl) (by kernel_rfl) (fun _ _ _ h => h) rfl ?_ (by assumption) ?_
  rotate_left
  · (intro w hSw; (try dsimp only at hSw); go_simp; try with_reducible rfl)
  try simp only [Act.put, List.setIfInBounds_toArray, List.set_cons_zero, List.set_cons_succ]
  refine hm_take (i := 1) (v := ?_) rfl rfl (by kernel_rfl) (by kernel_rfl) (by kernel_rfl) (fun _ _ _ h => h) rfl ?_ (by assumption) ?_
  rotate_left
  · (intro w hSw; (try dsimp only at hSw); go_simp; try with_reducible rfl)
  try simp only [Act.put, List.setIfInBounds_toArray, List.set_cons_zero, List.set_cons_succ]
  refine hm_take (i := 2) (v := ?_) rfl rfl (by kernel_rfl) (by kernel_rfl) (by kernel_rfl) (fun _ _ _ h => h) rfl ?_ (by assumption) ?_
  rotate_left
  · (intro w hSw; (try dsimp only at hSw); go_simp; try with_reducible rfl)
  try simp only [Act.put, List.setIfInBounds_toArray, List.set_cons_zero, List.set_cons_succ]
  refine hm_take (i := 3) (v := ?_) rfl rfl (by kernel_rfl) (by kernel_rfl) (by kernel_rfl) (fun _ _ _ h => h) rfl ?_ (by assumption) ?_
  rotate_left
  · (intro w hSw; (try dsimp only at hSw); go_simp; try with_reducible rfl)
  try simp only [Act.put, List.setIfInBounds_toArray, List.set_cons_zero, List.set_cons_succ]
  refine hm_take (i := 6) (v := ?_) rfl rfl (by kernel_rfl) (by kernel_rfl) (by kernel_rfl) (fun _ _ _ h => h) rfl ?_ (by assumption) ?_
  rotate_left
  · (intro w hSw; (try dsimp only at hSw); go_simp; try with_reducible rfl)
  try simp only [Act.put, List.setIfInBounds_toArray, List.set_cons_zero, List.set_cons_succ]
  refine hm_call (i := 4) rfl (by kernel_rfl) rfl (fun K hK => ?_)
  go_simp
  (go_at_call 66; refine (rd32_any _ _ _ _ (seg l 0 4) _ n0 (by omega) (BytesAt.bel hB1 (bel_drew (bel_refl _)))).mono ?_; rintro e w1 ⟨rfl, hb1⟩; have HH := H.drew.grow hb1; obtain ⟨y0, y1, y2, y3⟩ := HH.atz hz; obtain ⟨x0, x1, x2, x3⟩ := HH.frz fz hb)
  (try go_wp2_with fail)
  refine hK.out _ _ (by (try dsimp only); all_goals exact trivial) (fun hHeld => ?_)
  clear hK K
  try simp only [Act.put, List.setIfInBounds_toArray, List.set_cons_zero, List.set_cons_succ]
  refine hm_take (i := 5) (v := ?_) rfl rfl (by kernel_rfl) (by kernel_rfl) (by kernel_rfl) (fun _ _ _ h => h) rfl ?_ (by assumption) ?_
  rotate_left
  · (intro w hSw; (try dsimp only at hSw); go_simp; try with_reducible rfl)
  try simp only [Act.put, List.setIfInBounds_toArray, List.set_cons_zero, List.set_cons_succ]
  refine hm_take (i := 7) (v := ?_) rfl rfl (by kernel_rfl) (by kernel_rfl) (by kernel_rfl) (fun _ _ _ h => h) rfl ?_ (by assumption) ?_
  rotate_left
  · (intro w hSw; (try dsimp only at hSw); go_simp; try with_reducible rfl)
  try simp only [Act.put, List.setIfInBounds_toArray, List.set_cons_zero, List.set_cons_succ]
  refine hm_call (i := 8) rfl (by kernel_rfl) rfl (fun K hK => ?_)
  (go_simp)
  refine hK.out _ _ (by (try dsimp only); all_goals exact trivial) (fun hHeld => ?_)
  clear hK K
  try simp only [Act.put, List.setIfInBounds_toArray, List.set_cons_zero, List.set_cons_succ]
  refine wpAnyH_done (by kernel_rfl) ?_ _
  refine NoPanic.normal ?_
  have H2 : Left w b o (N4.setW (N4.setW (N4.setW (N4.setW z 3 0#64) 2 0#64) 1 0#64) 0 (BitVec.ofNat 64 (Lib.beNat (seg l 0 4)))) (World.setCell w1 ⟨b, o, none⟩ (.int .u64 ((Lib.beNat (seg l 0 4) : Nat) : Int))) := by
    rw [← U_ofNat _ (by omega)]
    exact (HH.one 0 (by omega) _)
  clear H hB1 HH y0 y1 y2 y3 x0 x1 x2 x3 hb1 hwr
  revert H2
  generalize World.setCell _ _ _ = W1
  intro H
  go_wp2
  go_ret
  refine ⟨rfl, ?_⟩
  have e : (N4.setW (N4.setW (N4.setW (N4.setW z 3 0#64) 2 0#64) 1 0#64) 0 (BitVec.ofNat 64 (Lib.beNat (seg l 0 4)))) = ofN (Lib.beNat (l.take 4)) := by
    apply eq_ofN
    rw [← seg_zero]
    simp only [N4.setW, N4.toNat, if_true, if_false, reduceIte, BitVec.toNat_ofNat, show ¬ (2 : Nat) = 0 by omega, show ¬ (3 : Nat) = 0 by omega, show ¬ (1 : Nat) = 0 by omega, show ¬ (2 : Nat) = 1 by omega, show ¬ (3 : Nat) = 1 by omega, show ¬ (3 : Nat) = 2 by omega]
    omega
  rw [← e]
  exact H
set_option maxHeartbeats 4000000 in
theorem set5_any (b o : Nat) (z : N4) (g q n cap : Nat) (l : List UInt8) (w : World) (hz : At4 w b o z) (fz : Free4 w b o) (hB : BytesAt w g q l) (hl : l.length = n) (hN : 5 ≤ n) (hcap : n ≤ cap) (hne : g ≠ b) :
    Calls Tryf.prog 32 #[.pointer (some ⟨b, o, none⟩), .slice (some ⟨g, q, none⟩) n cap] w (RetLeft b o (ofN (Lib.beNat (l.take 5))) w) := by
  have hb := hz.lt
  have H := Left.start hz
  have k0 : ¬ cap = 0 := by omega
  have c5 : (5 : Int) ≤ (cap : Int) := by omega
  have n0 : (seg l 0 5).length = 5 := by rw [seg_len]; omega
  have L0 := beNat_lt (seg l 0 5)
  rw [n0] at L0
  obtain ⟨u, hu⟩ : ∃ u, l[4]? = some u := ⟨_, List.getElem?_eq_getElem (by omega)⟩
  have hc0 := hB 4 u hu
  have hp0 : (4 : Int) < (n : Int) := by omega
  clear hu
  obtain ⟨z0, z1, z2, z3⟩ := hz
  obtain ⟨f0, f1, f2, f3⟩ := fz
  have hz : At4 w b o z := ⟨z0, z1, z2, z3⟩
  have fz : Free4 w b o := ⟨f0, f1, f2, f3⟩
  go_enter Tryf.func32, Tryf.ntmps32
  go_wp2
  go_region
  go_wp2
  have H2 : Left w b o (N4.setW (N4.setW (N4.setW z 3 0#64) 2 0#64) 1 0#64) (World.setCell (World.setCell (World.setCell w ⟨b, o + 3, none⟩ (.int .u64 0)) ⟨b, o + 2, none⟩ (.int .u64 0)) ⟨b, o + 1, none⟩ (.int .u64 0)).drew := (Left.one (Left.one (Left.one H 3 (by omega) 0#64) 2 (by omega) 0#64) 1 (by omega) 0#64).drew
  clear H z0 z1 z2 z3 f0 f1 f2 f3 hc0
  revert H2
  generalize (World.setCell (World.setCell (World.setCell w ⟨b, o + 3, none⟩ (.int .u64 0)) ⟨b, o + 2, none⟩ (.int .u64 0)) ⟨b, o + 1, none⟩ (.int .u64 0)).drew = W1
  intro H
  have hne2 : ¬ b = g := fun e => hne e.symm
  have hB1 : BytesAt _ g q (seg l 0 5) := (H.bytes hB hne).cut 0 5
  refine wp_region_noPanic ?_
  refine wp_region_held_drew (S := (fun _ => True)) (by kernel_rfl) (by all_goals exact trivial) (fun hHeld => ?_)
  refine hm_take (i := 0) (v := ?_) rfl rfl (by kernel_rfl) (by kernel_rfl) (by kernel_rfl) (fun _ _ _ h => h) rfl ?_ (by assumption) ?_
  rotate_left
  · (intro w hSw; (try dsimp only at hSw); go_simp; try with_reducible rfl)
  try simp only [Act.put, List.setIfInBounds_toArray, List.set_cons_zero, List.set_cons_succ]
  refine hm_take (i := 1) (v := ?_) rfl rfl (by kernel_rfl) (by kernel_rfl) (by kernel_rfl) (fun _ _ _ h => h) rfl ?_ (by assumption) ?_
  rotate_left
  · (intro w hSw; (try dsimp only at hSw); go_simp; try with_reducible rfl)
  try simp only [Act.put, List.setIfInBounds_toArray, List.set_cons_zero, List.set_cons_succ]
  refine hm_take (i := 2) (v := ?_) rfl rfl (by kernel_rfl) (by kernel_rfl) (by kernel_rfl) (fun _ _ _ h => h) rfl ?_ (by assumption) ?_
  rotate_left
  · (intro w hSw; (try dsimp only at hSw); go_simp; try with_reducible rfl)
  try simp only [Act.put, List.setIfInBounds_toArray, List.set_cons_zero, List.set_cons_succ]
  refine hm_take (i := 4) (v := ?_) rfl rfl (by kernel_rfl) (by kernel_rfl) (by kernel_rfl) (fun _ _ _ h => h) rfl ?_ (by assumption) ?_
  rotate_left
  · (intro w hSw; (try dsimp only at hSw); go_simp; try with_reducible rfl)
  try simp only [Act.put, List.setIfInBounds_toArray, List.set_cons_zero, List.set_cons_succ]
  refine hm_call (i := 3) rfl (by kernel_rfl) rfl (fun K hK => ?_)
  go_simp
  (go_at_call 67; refine (rd40_any _ _ _ _ (seg l 0 5) _ n0 (by omega) (BytesAt.bel hB1 (bel_drew (bel_refl _)))).mono ?_; rintro e w1 ⟨rfl, hb1⟩; have HH := H.drew.grow hb1; obtain ⟨y0, y1, y2, y3⟩ := HH.atz hz; obtain ⟨x0, x1, x2, x3⟩ := HH.frz fz hb)
  (try go_wp2_with fail)
  refine hK.out _ _ (by (try dsimp only); all_goals exact trivial) (fun hHeld => ?_)
  clear hK K
  try simp only [Act.put, List.setIfInBounds_toArray, List.set_cons_zero, List.set_cons_succ]
  refine hm_take (i := 5) (v := ?_) rfl rfl (by kernel_rfl) (by kernel_rfl) (by kernel_rfl) (fun _ _ _ h => h) rfl ?_ (by assumption) ?_
  rotate_left
  · (intro w hSw; (try dsimp only at hSw); go_simp; try with_reducible rfl)
  try simp only [Act.put, List.setIfInBounds_toArray, List.set_cons_zero, List.set_cons_succ]
  refine hm_call (i := 6) rfl (by kernel_rfl) rfl (fun K hK => ?_)
  (go_simp)
  refine hK.out _ _ (by (try dsimp only); all_goals exact trivial) (fun hHeld => ?_)
  clear hK K
  try simp only [Act.put, List.setIfInBounds_toArray, List.set_cons_zero, List.set_cons_succ]
  refine wpAnyH_done (by kernel_rfl) ?_ _
  refine NoPanic.normal ?_
  have H2 : Left w b o (N4.setW (N4.setW (N4.setW (N4.setW z 3 0#64) 2 0#64) 1 0#64) 0 (BitVec.ofNat 64 (Lib.beNat (seg l 0 5)))) (World.setCell w1 ⟨b, o, none⟩ (.int .u64 ((Lib.beNat (seg l 0 5) : Nat) : Int))) := by
    rw [← U_ofNat _ (by omega)]
    exact (HH.one 0 (by omega) _)
  clear H hB1 HH y0 y1 y2 y3 x0 x1 x2 x3 hb1
  revert H2
  generalize World.setCell _ _ _ = W1
  intro H
  go_wp2
  go_ret
  refine ⟨rfl, ?_⟩
  have e : (N4.setW (N4.setW (N4.setW (N4.setW z 3 0#64) 2 0#64) 1 0#64) 0 (BitVec.ofNat 64 (Lib.beNat (seg l 0 5)))) = ofN (Lib.beNat (l.take 5)) := by
    apply eq_ofN
    rw [← seg_zero]
    simp only [N4.setW, N4.toNat, if_true, if_false, reduceIte, BitVec.toNat_ofNat, show ¬ (2 : Nat) = 0 by omega, show ¬ (3 : Nat) = 0 by omega, show ¬ (1 : Nat) = 0 by omega, show ¬ (2 : Nat) = 1 by omega, show ¬ (3 : Nat) = 1 by omega, show ¬ (3 : Nat) = 2 by omega]
    omega
  rw [← e]
  exact H
set_option maxHeartbeats 4000000 in
theorem set6_any (b o : Nat) (z : N4) (g q n cap : Nat) (l : List UInt8) (w : World) (hz : At4 w b o z) (fz : Free4 w b o) (hB : BytesAt w g q l) (hl : l.length = n) (hN : 6 ≤ n) (hcap : n ≤ cap) (hne : g ≠ b) :
    Calls Tryf.prog 33 #[.pointer (some ⟨b, o, none⟩), .slice (some ⟨g, q, none⟩) n cap] w (RetLeft b o (ofN (Lib.beNat (l.take 6))) w) := by
  have hb := hz.lt
  have H := Left.start hz
  have k0 : ¬ cap = 0 := by omega
  have c6 : (6 : Int) ≤ (cap : Int) := by omega
  have n0 : (seg l 0 6).length = 6 := by rw [seg_len]; omega
  have L0 := beNat_lt (seg l 0 6)
  rw [n0] at L0
  obtain ⟨u, hu⟩ : ∃ u, l[5]? = some u := ⟨_, List.getElem?_eq_getElem (by omega)⟩
  have hc0 := hB 5 u hu
  have hp0 : (5 : Int) < (n : Int) := by omega
  clear hu
  obtain ⟨z0, z1, z2, z3⟩ := hz
  obtain ⟨f0, f1, f2, f3⟩ := fz
  have hz : At4 w b o z := ⟨z0, z1, z2, z3⟩
  have fz : Free4 w b o := ⟨f0, f1, f2, f3⟩
  go_enter Tryf.func33, Tryf.ntmps33
  go_wp2
  go_region
  go_wp2
  have H2 : Left w b o (N4.setW (N4.setW (N4.setW z 3 0#64) 2 0#64) 1 0#64) (World.setCell (World.setCell (World.setCell w ⟨b, o + 3, none⟩ (.int .u64 0)) ⟨b, o + 2, none⟩ (.int .u64 0)) ⟨b, o + 1, none⟩ (.int .u64 0)).drew := (Left.one (Left.one (Left.one H 3 (by omega) 0#64) 2 (by omega) 0#64) 1 (by omega) 0#64).drew
  clear H z0 z1 z2 z3 f0 f1 f2 f3 hc0
  revert H2
  generalize (World.setCell (World.setCell (World.setCell w ⟨b, o + 3, none⟩ (.int .u64 0)) ⟨b, o + 2, none⟩ (.int .u64 0)) ⟨b, o + 1, none⟩ (.int .u64 0)).drew = W1
  intro H
  have hne2 : ¬ b = g := fun e => hne e.symm
  have hB1 : BytesAt _ g q (seg l 0 6) := (H.bytes hB hne).cut 0 6
  refine wp_region_noPanic ?_
  refine wp_region_held_drew (S := (fun _ => True)) (by kernel_rfl) (by all_goals exact trivial) (fun hHeld => ?_)
  refine hm_take (i := 0) (v := ?_) rfl rfl (by kernel_rfl) (by kernel_rfl) (by kernel_rfl) (fun _ _ _ h => h) rfl ?_ (by assumption) ?_
  rotate_left
  · (intro w hSw; (try dsimp only at hSw); go_simp; try with_reducible rfl)
  try simp only [Act.put, List.setIfInBounds_toArray, List.set_cons_zero, List.set_cons_succ]
  refine hm_take (i := 1) (v := ?_) rfl rfl (by kernel_rfl) (by kernel_rfl) (by kernel_rfl) (fun _ _ _ h => h) rfl ?_ (by assumption) ?_
  rotate_left
  · (intro w hSw; (try dsimp only at hSw); go_simp; try with_reducible rfl)
  try simp only [Act.put, List.setIfInBounds_toArray, List.set_cons_zero, List.set_cons_succ]
  refine hm_take (i := 2) (v := ?_) rfl rfl (by kernel_rfl) (by kernel_rfl) (by kernel_rfl) (fun _ _ _ h => h) rfl ?_ (by assumption) ?_
  rotate_left
  · (intro w hSw; (try dsimp only at hSw); go_simp; try with_reducible rfl)
  try simp only [Act.put, List.setIfInBounds_toArray, List.set_cons_zero, List.set_cons_succ]
  refine hm_take (i := 4) (v := ?_) rfl rfl (by kernel_rfl) (by kernel_rfl) (by kernel_rfl) (fun _ _ _ h => h) rfl ?_ (by assumption) ?_
  rotate_left
  · (intro w hSw; (try dsimp only at hSw); go_simp; try with_reducible rfl)
  try simp only [Act.put, List.setIfInBounds_toArray, List.set_cons_zero, List.set_cons_succ]
  refine hm_call (i := 3) rfl (by kernel_rfl) rfl (fun K hK => ?_)
  go_simp
  (go_at_call 68; refine (rd48_any _ _ _ _ (seg l 0 6) _ n0 (by omega) (BytesAt.bel hB1 (bel_drew (bel_refl _)))).mono ?_; rintro e w1 ⟨rfl, hb1⟩; have HH := H.drew.grow hb1; obtain ⟨y0, y1, y2, y3⟩ := HH.atz hz; obtain ⟨x0, x1, x2, x3⟩ := HH.frz fz hb)
  (try go_wp2_with fail)
  refine hK.out _ _ (by (try dsimp only); all_goals exact trivial) (fun hHeld => ?_)
  clear hK K
  try simp only [Act.put, List.setIfInBounds_toArray, List.set_cons_zero, List.set_cons_succ]
  refine hm_take (i := 5) (v := ?_) rfl rfl (by kernel_rfl) (by kernel_rfl) (by kernel_rfl) (fun _ _ _ h => h) rfl ?_ (by assumption) ?_
  rotate_left
  · (intro w hSw; (try dsimp only at hSw); go_simp; try with_reducible rfl)
  try simp only [Act.put, List.setIfInBounds_toArray, List.set_cons_zero, List.set_cons_succ]
  refine hm_call (i := 6) rfl (by kernel_rfl) rfl (fun K hK => ?_)
  (go_simp)
  refine hK.out _ _ (by (try dsimp only); all_goals exact trivial) (fun hHeld => ?_)
  clear hK K
  try simp only [Act.put, List.setIfInBounds_toArray, List.set_cons_zero, List.set_cons_succ]
  refine wpAnyH_done (by kernel_rfl) ?_ _
  refine NoPanic.normal ?_
  have H2 : Left w b o (N4.setW (N4.setW (N4.setW (N4.setW z 3 0#64) 2 0#64) 1 0#64) 0 (BitVec.ofNat 64 (Lib.beNat (seg l 0 6)))) (World.setCell w1 ⟨b, o, none⟩ (.int .u64 ((Lib.beNat (seg l 0 6) : Nat) : Int))) := by
    rw [← U_ofNat _ (by omega)]
    exact (HH.one 0 (by omega) _)
  clear H hB1 HH y0 y1 y2 y3 x0 x1 x2 x3 hb1
  revert H2
  generalize World.setCell _ _ _ = W1
  intro H
  go_wp2
  go_ret
  refine ⟨rfl, ?_⟩
  have e : (N4.setW (N4.setW (N4.setW (N4.setW z 3 0#64) 2 0#64) 1 0#64) 0 (BitVec.ofNat 64 (Lib.beNat (seg l 0 6)))) = ofN (Lib.beNat (l.take 6)) := by
    apply eq_ofN
    rw [← seg_zero]
    simp only [N4.setW, N4.toNat, if_true, if_false, reduceIte, BitVec.toNat_ofNat, show ¬ (2 : Nat) = 0 by omega, show ¬ (3 : Nat) = 0 by omega, show ¬ (1 : Nat) = 0 by omega, show ¬ (2 : Nat) = 1 by omega, show ¬ (3 : Nat) = 1 by omega, show ¬ (3 : Nat) = 2 by omega]
    omega
  rw [← e]
  exact H
set_option maxHeartbeats 4000000 in
theorem set7_any (b o : Nat) (z : N4) (g q n cap : Nat) (l : List UInt8) (w : World) (hz : At4 w b o z) (fz : Free4 w b o) (hB : BytesAt w g q l) (hl : l.length = n) (hN : 7 ≤ n) (hcap : n ≤ cap) (hne : g ≠ b) :
    Calls Tryf.prog 34 #[.pointer (some ⟨b, o, none⟩), .slice (some ⟨g, q, none⟩) n cap] w (RetLeft b o (ofN (Lib.beNat (l.take 7))) w) := by
  have hb := hz.lt
  have H := Left.start hz
  have k0 : ¬ cap = 0 := by omega
  have c7 : (7 : Int) ≤ (cap : Int) := by omega
  have n0 : (seg l 0 7).length = 7 := by rw [seg_len]; omega
  have L0 := beNat_lt (seg l 0 7)
  rw [n0] at L0
  obtain ⟨u, hu⟩ : ∃ u, l[6]? = some u := ⟨_, List.getElem?_eq_getElem (by omega)⟩
  have hc0 := hB 6 u hu
  have hp0 : (6 : Int) < (n : Int) := by omega
  clear hu
  obtain ⟨z0, z1, z2, z3⟩ := hz
  obtain ⟨f0, f1, f2, f3⟩ := fz
  have hz : At4 w b o z := ⟨z0, z1, z2, z3⟩
  have fz : Free4 w b o := ⟨f0, f1, f2, f3⟩
  go_enter Tryf.func34, Tryf.ntmps34
  go_wp2
  go_region
  go_wp2
  have H2 : Left w b o (N4.setW (N4.setW (N4.setW z 3 0#64) 2 0#64) 1 0#64) (World.setCell (World.setCell (World.setCell w ⟨b, o + 3, none⟩ (.int .u64 0)) ⟨b, o + 2, none⟩ (.int .u64 0)) ⟨b, o + 1, none⟩ (.int .u64 0)).drew := (Left.one (Left.one (Left.one H 3 (by omega) 0#64) 2 (by omega) 0#64) 1 (by omega) 0#64).drew
  clear H z0 z1 z2 z3 f0 f1 f2 f3 hc0
  revert H2
  generalize (World.setCell (World.setCell (World.setCell w ⟨b, o + 3, none⟩ (.int .u64 0)) ⟨b, o + 2, none⟩ (.int .u64 0)) ⟨b, o + 1, none⟩ (.int .u64 0)).drew = W1
  intro H
  have hne2 : ¬ b = g := fun e => hne e.symm
  have hB1 : BytesAt _ g q (seg l 0 7) := (H.bytes hB hne).cut 0 7
  refine wp_region_noPanic ?_
  refine wp_region_held_drew (S := (fun _ => True)) (by kernel_rfl) (by all_goals exact trivial) (fun hHeld => ?_)
  refine hm_take (i := 0) (v := ?_) rfl rfl (by kernel_rfl) (by kernel_rfl) (by kernel_rfl) (fun _ _ _ h => h) rfl ?_ (by assumption) ?_
  rotate_left
  · (intro w hSw; (try dsimp only at hSw); go_simp; try with_reducible rfl)
  try simp only [Act.put, List.setIfInBounds_toArray, List.set_cons_zero, List.set_cons_succ]
  refine hm_take (i := 1) (v := ?_) rfl rfl (by kernel_rfl) (by kernel_rfl) (by kernel_rfl) (fun _ _ _ h => h) rfl ?_ (by assumption) ?_
  rotate_left
  · (intro w hSw; (try dsimp only at hSw); go_simp; try with_reducible rfl)
  try simp only [Act.put, List.setIfInBounds_toArray, List.set_cons_zero, List.set_cons_succ]
  refine hm_take (i := 2) (v := ?_) rfl rfl (by kernel_rfl) (by kernel_rfl) (by kernel_rfl) (fun _ _ _ h => h) rfl ?_ (by assumption) ?_
  rotate_left
  · (intro w hSw; (try dsimp only at hSw); go_simp; try with_reducible rfl)
  try simp only [Act.put, List.setIfInBounds_toArray, List.set_cons_zero, List.set_cons_succ]
  refine hm_take (i := 4) (v := ?_) rfl rfl (by kernel_rfl) (by kernel_rfl) (by kernel_rfl) (fun _ _ _ h => h) rfl ?_ (by assumption) ?_
  rotate_left
  · (intro w hSw; (try dsimp only at hSw); go_simp; try with_reducible rfl)
  try simp only [Act.put, List.setIfInBounds_toArray, List.set_cons_zero, List.set_cons_succ]
  refine hm_call (i := 3) rfl (by kernel_rfl) rfl (fun K hK => ?_)
  go_simp
  (go_at_call 69; refine (rd56_any _ _ _ _ (seg l 0 7) _ n0 (by omega) (BytesAt.bel hB1 (bel_drew (bel_refl _)))).mono ?_; rintro e w1 ⟨rfl, hb1⟩; have HH := H.drew.grow hb1; obtain ⟨y0, y1, y2, y3⟩ := HH.atz hz; obtain ⟨x0, x1, x2, x3⟩ := HH.frz fz hb)
  (try go_wp2_with fail)
  refine hK.out _ _ (by (try dsimp only); all_goals exact trivial) (fun hHeld => ?_)
  clear hK K
  try simp only [Act.put, List.setIfInBounds_toArray, List.set_cons_zero, List.set_cons_succ]
  refine hm_take (i := 5) (v := ?_) rfl rfl (by kernel_rfl) (by kernel_rfl) (by kernel_rfl) (fun _ _ _ h => h) rfl ?_ (by assumption) ?_
  rotate_left
  · (intro w hSw; (try dsimp only at hSw); go_simp; try with_reducible rfl)
  try simp only [Act.put, List.setIfInBounds_toArray, List.set_cons_zero, List.set_cons_succ]
  refine hm_call (i := 6) rfl (by kernel_rfl) rfl (fun K hK => ?_)
  (go_simp)
  refine hK.out _ _ (by (try dsimp only); all_goals exact trivial) (fun hHeld => ?_)
  clear hK K
  try simp only [Act.put, List.setIfInBounds_toArray, List.set_cons_zero, List.set_cons_succ]
  refine wpAnyH_done (by kernel_rfl) ?_ _
  refine NoPanic.normal ?_
  have H2 : Left w b o (N4.setW (N4.setW (N4.setW (N4.setW z 3 0#64) 2 0#64) 1 0#64) 0 (BitVec.ofNat 64 (Lib.beNat (seg l 0 7)))) (World.setCell w1 ⟨b, o, none⟩ (.int .u64 ((Lib.beNat (seg l 0 7) : Nat) : Int))) := by
    rw [← U_ofNat _ (by omega)]
    exact (HH.one 0 (by omega) _)
  clear H hB1 HH y0 y1 y2 y3 x0 x1 x2 x3 hb1
  revert H2
  generalize World.setCell _ _ _ = W1
  intro H
  go_wp2
  go_ret
  refine ⟨rfl, ?_⟩
  have e : (N4.setW (N4.setW (N4.setW (N4.setW z 3 0#64) 2 0#64) 1 0#64) 0 (BitVec.ofNat 64 (Lib.beNat (seg l 0 7)))) = ofN (Lib.beNat (l.take 7)) := by
    apply eq_ofN
    rw [← seg_zero]
    simp only [N4.setW, N4.toNat, if_true, if_false, reduceIte, BitVec.toNat_ofNat, show ¬ (2 : Nat) = 0 by omega, show ¬ (3 : Nat) = 0 by omega, show ¬ (1 : Nat) = 0 by omega, show ¬ (2 : Nat) = 1 by omega, show ¬ (3 : Nat) = 1 by omega, show ¬ (3 : Nat) = 2 by omega]
    omega
  rw [← e]
  exact H
set_option maxHeartbeats 4000000 in
theorem set8_any (b o : Nat) (z : N4) (g q n cap : Nat) (l : List UInt8) (w : World) (hz : At4 w b o z) (fz : Free4 w b o) (hB : BytesAt w g q l) (hl : l.length = n) (hN : 8 ≤ n) (hcap : n ≤ cap) (hne : g ≠ b) :
    Calls Tryf.prog 35 #[.pointer (some ⟨b, o, none⟩), .slice (some ⟨g, q, none⟩) n cap] w (RetLeft b o (ofN (Lib.beNat (l.take 8))) w) := by
  have hb := hz.lt
  have H := Left.start hz
  have k0 : ¬ cap = 0 := by omega
  have c8 : (8 : Int) ≤ (cap : Int) := by omega
  have n0 : (seg l 0 8).length = 8 := by rw [seg_len]; omega
  have L0 := beNat_lt (seg l 0 8)
  rw [n0] at L0
  obtain ⟨u, hu⟩ : ∃ u, l[7]? = some u := ⟨_, List.getElem?_eq_getElem (by omega)⟩
  have hc0 := hB 7 u hu
  have hp0 : (7 : Int) < (n : Int) := by omega
  clear hu
  obtain ⟨z0, z1, z2, z3⟩ := hz
  obtain ⟨f0, f1, f2, f3⟩ := fz
  have hz : At4 w b o z := ⟨z0, z1, z2, z3⟩
  have fz : Free4 w b o := ⟨f0, f1, f2, f3⟩
  go_enter Tryf.func35, Tryf.ntmps35
  go_wp2
  go_region
  go_wp2
  have H2 : Left w b o (N4.setW (N4.setW (N4.setW z 3 0#64) 2 0#64) 1 0#64) (World.setCell (World.setCell (World.setCell w ⟨b, o + 3, none⟩ (.int .u64 0)) ⟨b, o + 2, none⟩ (.int .u64 0)) ⟨b, o + 1, none⟩ (.int .u64 0)).drew := (Left.one (Left.one (Left.one H 3 (by omega) 0#64) 2 (by omega) 0#64) 1 (by omega) 0#64).drew
  clear H z0 z1 z2 z3 f0 f1 f2 f3 hc0
  revert H2
  generalize (World.setCell (World.setCell (World.setCell w ⟨b, o + 3, none⟩ (.int .u64 0)) ⟨b, o + 2, none⟩ (.int .u64 0)) ⟨b, o + 1, none⟩ (.int .u64 0)).drew = W1
  intro H
  have hne2 : ¬ b = g := fun e => hne e.symm
  have hB1 : BytesAt _ g q (seg l 0 8) := (H.bytes hB hne).cut 0 8
  refine wp_region_noPanic ?_
  refine wp_region_held_drew (S := (fun _ => True)) (by kernel_rfl) (by all_goals exact trivial) (fun hHeld => ?_)
  refine hm_take (i := 0) (v := ?_) rfl rfl (by kernel_rfl) (by kernel_rfl) (by kernel_rfl) (fun _ _ _ h => h) rfl ?_ (by assumption) ?_
  rotate_left
  · (intro w hSw; (try dsimp only at hSw); go_simp; try with_reducible rfl)
  try simp only [Act.put, List.setIfInBounds_toArray, List.set_cons_zero, List.set_cons_succ]
  refine hm_take (i := 1) (v := ?_) rfl rfl (by kernel_rfl) (by kernel_rfl) (by kernel_rfl) (fun _ _ _ h => h) rfl ?_ (by assumption) ?_
  rotate_left
  · (intro w hSw; (try dsimp only at hSw); go_simp; try with_reducible rfl)
  try simp only [Act.put, List.setIfInBounds_toArray, List.set_cons_zero, List.set_cons_succ]
  refine hm_take (i := 2) (v := ?_) rfl rfl (by kernel_rfl) (by kernel_rfl) (by kernel_rfl) (fun _ _ _ h => h) rfl ?_ (by assumption) ?_
  rotate_left
  · (intro w hSw; (try dsimp only at hSw); go_simp; try with_reducible rfl)
  try simp only [Act.put, List.setIfInBounds_toArray, List.set_cons_zero, List.set_cons_succ]
  refine hm_take (i := 3) (v := ?_) rfl rfl (by kernel_rfl) (by kernel_rfl) (by kernel_rfl) (fun _ _ _ h => h) rfl ?_ (by assumption) ?_
  rotate_left
  · (intro w hSw; (try dsimp only at hSw); go_simp; try with_reducible rfl)
  try simp only [Act.put, List.setIfInBounds_toArray, List.set_cons_zero, List.set_cons_succ]
  refine hm_take (i := 5) (v := ?_) rfl rfl (by kernel_rfl) (by kernel_rfl) (by kernel_rfl) (fun _ _ _ h => h) rfl ?_ (by assumption) ?_
  rotate_left
  · (intro w hSw; (try dsimp only at hSw); go_simp; try with_reducible rfl)
  try simp only [Act.put, List.setIfInBounds_toArray, List.set_cons_zero, List.set_cons_succ]
  refine hm_call (i := 4) rfl (by kernel_rfl) rfl (fun K hK => ?_)
  go_simp
  (go_at_call 70; refine (rd64_any _ _ _ _ (seg l 0 8) _ n0 (by omega) (BytesAt.bel hB1 (bel_drew (bel_refl _)))).mono ?_; rintro e w1 ⟨rfl, hb1⟩; have HH := H.drew.grow hb1; obtain ⟨y0, y1, y2, y3⟩ := HH.atz hz; obtain ⟨x0, x1, x2, x3⟩ := HH.frz fz hb)
  (try go_wp2_with fail)
  refine hK.out _ _ (by (try dsimp only); all_goals exact trivial) (fun hHeld => ?_)
  clear hK K
  try simp only [Act.put, List.setIfInBounds_toArray, List.set_cons_zero, List.set_cons_succ]
  refine hm_take (i := 6) (v := ?_) rfl rfl (by kernel_rfl) (by kernel_rfl) (by kernel_rfl) (fun _ _ _ h => h) rfl ?_ (by assumption) ?_
  rotate_left
  · (intro w hSw; (try dsimp only at hSw); go_simp; try with_reducible rfl)
  try simp only [Act.put, List.setIfInBounds_toArray, List.set_cons_zero, List.set_cons_succ]
  refine hm_call (i := 7) rfl (by kernel_rfl) rfl (fun K hK => ?_)
  (go_simp)
  refine hK.out _ _ (by (try dsimp only); all_goals exact trivial) (fun hHeld => ?_)
  clear hK K
  try simp only [Act.put, List.setIfInBounds_toArray, List.set_cons_zero, List.set_cons_succ]
  refine wpAnyH_done (by kernel_rfl) ?_ _
  refine NoPanic.normal ?_
  have H2 : Left w b o (N4.setW (N4.setW (N4.setW (N4.setW z 3 0#64) 2 0#64) 1 0#64) 0 (BitVec.ofNat 64 (Lib.beNat (seg l 0 8)))) (World.setCell w1 ⟨b, o, none⟩ (.int .u64 ((Lib.beNat (seg l 0 8) : Nat) : Int))) := by
    rw [← U_ofNat _ (by omega)]
    exact (HH.one 0 (by omega) _)
  clear H hB1 HH y0 y1 y2 y3 x0 x1 x2 x3 hb1
  revert H2
  generalize World.setCell _ _ _ = W1
  intro H
  go_wp2
  go_ret
  refine ⟨rfl, ?_⟩
  have e : (N4.setW (N4.setW (N4.setW (N4.setW z 3 0#64) 2 0#64) 1 0#64) 0 (BitVec.ofNat 64 (Lib.beNat (seg l 0 8)))) = ofN (Lib.beNat (l.take 8)) := by
    apply eq_ofN
    rw [← seg_zero]
    simp only [N4.setW, N4.toNat, if_true, if_false, reduceIte, BitVec.toNat_ofNat, show ¬ (2 : Nat) = 0 by omega, show ¬ (3 : Nat) = 0 by omega, show ¬ (1 : Nat) = 0 by omega, show ¬ (2 : Nat) = 1 by omega, show ¬ (3 : Nat) = 1 by omega, show ¬ (3 : Nat) = 2 by omega]
    omega
  rw [← e]
  exact H
set_option maxHeartbeats 4000000 in
theorem set9_any (b o : Nat) (z : N4) (g q n cap : Nat) (l : List UInt8) (w : World) (hz : At4 w b o z) (fz : Free4 w b o) (hB : BytesAt w g q l) (hl : l.length = n) (hN : 9 ≤ n) (hcap : n ≤ cap) (hne : g ≠ b) :
    Calls Tryf.prog 36 #[.pointer (some ⟨b, o, none⟩), .slice (some ⟨g, q, none⟩) n cap] w (RetLeft b o (ofN (Lib.beNat (l.take 9))) w) := by
  have hb := hz.lt
  have H := Left.start hz
  have k0 : ¬ cap = 0 := by omega
  have c1 : (1 : Int) ≤ (cap : Int) := by omega
  have n1 : (seg l 0 1).length = 1 := by rw [seg_len]; omega
  have L1 := beNat_lt (seg l 0 1)
  rw [n1] at L1
  have k1 : ¬ cap = 1 := by omega
  have c9 : (9 : Int) ≤ (cap : Int) := by omega
  have n0 : (seg l 1 8).length = 8 := by rw [seg_len]; omega
  have L0 := beNat_lt (seg l 1 8)
  rw [n0] at L0
  obtain ⟨u, hu⟩ : ∃ u, l[8]? = some u := ⟨_, List.getElem?_eq_getElem (by omega)⟩
  have hc0 := hB 8 u hu
  have hp0 : (8 : Int) < (n : Int) := by omega
  clear hu
  have HV : Hid (Lib.beNat (l.take 9) = Lib.beNat (seg l 1 8) + 2 ^ 64 * Lib.beNat (seg l 0 1)) := by
    show _ = _
    rw [show l.take 9 = l.take 1 ++ seg l 1 8 from take_split l 1 8, beNat_append, n0]
    rw [← seg_zero]
    omega
  obtain ⟨z0, z1, z2, z3⟩ := hz
  obtain ⟨f0, f1, f2, f3⟩ := fz
  have hz : At4 w b o z := ⟨z0, z1, z2, z3⟩
  have fz : Free4 w b o := ⟨f0, f1, f2, f3⟩
  go_enter Tryf.func36, Tryf.ntmps36
  go_wp2
  go_region
  go_wp2
  have H2 : Left w b o (N4.setW (N4.setW z 3 0#64) 2 0#64) (World.setCell (World.setCell w ⟨b, o + 3, none⟩ (.int .u64 0)) ⟨b, o + 2, none⟩ (.int .u64 0)).drew := (Left.one (Left.one H 3 (by omega) 0#64) 2 (by omega) 0#64).drew
  clear H z0 z1 z2 z3 f0 f1 f2 f3 hc0
  revert H2
  generalize (World.setCell (World.setCell w ⟨b, o + 3, none⟩ (.int .u64 0)) ⟨b, o + 2, none⟩ (.int .u64 0)).drew = W1
  intro H
  have hne2 : ¬ b = g := fun e => hne e.symm
  have hB1 : BytesAt _ g q (seg l 0 1) := (H.bytes hB hne).cut 0 1
  obtain ⟨u0, hu0⟩ : ∃ u, l[0]? = some u := ⟨_, List.getElem?_eq_getElem (by omega)⟩
  have hc1 := H.bytes hB hne 0 u0 hu0
  rw [Nat.add_zero] at hc1
  have E1 := beNat_take1 hu0
  have u0l := u0.toNat_lt
  have hn0 : 0 < n := by omega
  have hw0 : IntKind.u64.wrap (u0.toNat : Int) = (u0.toNat : Int) := by rw [IntKind.wrap_u64]; omega
  obtain ⟨y0, y1, y2, y3⟩ := H.atz hz
  obtain ⟨x0, x1, x2, x3⟩ := H.frz fz hb
  refine wp_region_noPanic ?_
  refine wp_region_held_drew (S := (fun w9 => w9.cell? ⟨g, q, none⟩ = some (.int .u8 (u0.toNat : Int)))) (by kernel_rfl) (by exact hc1) (fun hHeld => ?_)
  refine hm_take (i := 0) (v := ?_) rfl rfl (by kernel_rfl) (by kernel_rfl) (by kernel_rfl) (fun _ _ _ h => h) rfl ?_ (by assumption) ?_
  rotate_left
  · (intro w hSw; (try dsimp only at hSw); go_simp; try with_reducible rfl)
  try simp only [Act.put, List.setIfInBounds_toArray, List.set_cons_zero, List.set_cons_succ]
  refine hm_take (i := 1) (v := ?_) rfl rfl (by kernel_rfl) (by kernel_rfl) (by kernel_rfl) (fun _ _ _ h => h) rfl ?_ (by assumption) ?_
  rotate_left
  · (intro w hSw; (try dsimp only at hSw); go_simp; try with_reducible rfl)
  try simp only [Act.put, List.setIfInBounds_toArray, List.set_cons_zero, List.set_cons_succ]
  refine hm_take (i := 2) (v := ?_) rfl rfl (by kernel_rfl) (by kernel_rfl) (by kernel_rfl) (fun _ _ _ h => h) rfl ?_ (by assumption) ?_
  rotate_left
  · (intro w hSw; (try dsimp only at hSw); go_simp; try with_reducible rfl)
  try simp only [Act.put, List.setIfInBounds_toArray, List.set_cons_zero, List.set_cons_succ]
  refine hm_take (i := 3) (v := ?_) rfl rfl (by kernel_rfl) (by kernel_rfl) (by kernel_rfl) (fun _ _ _ h => h) rfl ?_ (by assumption) ?_
  rotate_left
  · (intro w hSw; (try dsimp only at hSw); go_simp; try with_reducible rfl)
  try simp only [Act.put, List.setIfInBounds_toArray, List.set_cons_zero, List.set_cons_succ]
  refine hm_take (i := 4) (v := ?_) rfl rfl (by kernel_rfl) (by kernel_rfl) (by kernel_rfl) (fun _ _ _ h => h) rfl ?_ (by assumption) ?_
  rotate_left
  · (intro w hSw; (try dsimp only at hSw); go_simp; try with_reducible rfl)
  try simp only [Act.put, List.setIfInBounds_toArray, List.set_cons_zero, List.set_cons_succ]
  refine hm_take (i := 5) (v := ?_) rfl rfl (by kernel_rfl) (by kernel_rfl) (by kernel_rfl) (fun _ _ _ h => h) rfl ?_ (by assumption) ?_
  rotate_left
  · (intro w hSw; (try dsimp only at hSw); go_simp; try with_reducible rfl)
  try simp only [Act.put, List.setIfInBounds_toArray, List.set_cons_zero, List.set_cons_succ]
  refine hm_take (i := 6) (v := ?_) rfl rfl (by kernel_rfl) (by kernel_rfl) (by kernel_rfl) (fun _ _ _ h => h) rfl ?_ (by assumption) ?_
  rotate_left
  · (intro w hSw; (try dsimp only at hSw); go_simp; try with_reducible rfl)
  try simp only [Act.put, List.setIfInBounds_toArray, List.set_cons_zero, List.set_cons_succ]
  refine hm_call (i := 7) rfl (by kernel_rfl) rfl (fun K hK => ?_)
  (go_simp)
  refine hK.out _ _ (by (try dsimp only); first | exact bel_cell hb1 hHeld | exact (World.cell?_setCell_other _ _ _ _ (by intro e; injection e with e; first | exact hne e | exact hne2 e)).trans hHeld) (fun hHeld => ?_)
  clear hK K
  try simp only [Act.put, List.setIfInBounds_toArray, List.set_cons_zero, List.set_cons_succ]
  refine wpAnyH_done (by kernel_rfl) ?_ _
  refine NoPanic.normal ?_
  have H2 : Left w b o (N4.setW (N4.setW (N4.setW z 3 0#64) 2 0#64) 1 (BitVec.ofNat 64 (Lib.beNat (seg l 0 1)))) (World.drew (World.setCell W1 ⟨b, o + 1, none⟩ (.int .u64 (u0.toNat : Int)))) := by
    rw [E1, ← U_ofNat _ (by omega)]
    exact (H.one 1 (by omega) _).drew
  clear H hB1 y0 y1 y2 y3 x0 x1 x2 x3 hc1 hw0 u0l
  revert H2
  generalize World.drew (World.setCell _ _ _) = W1
  intro H
  go_wp2
  have hB1 : BytesAt _ g (q + 1) (seg l 1 8) := (H.bytes hB hne).cut 1 8
  refine wp_region_noPanic ?_
  refine wp_region_held_drew (S := (fun _ => True)) (by kernel_rfl) (by all_goals exact trivial) (fun hHeld => ?_)
  refine hm_take (i := 0) (v := ?_) rfl rfl (by kernel_rfl) (by kernel_rfl) (by kernel_rfl) (fun _ _ _ h => h) rfl ?_ (by assumption) ?_
  rotate_left
  · (intro w hSw; (try dsimp only at hSw); go_simp; try with_reducible rfl)
  try simp only [Act.put, List.setIfInBounds_toArray, List.set_cons_zero, List.set_cons_succ]
  refine hm_take (i := 1) (v := ?_) rfl rfl (by kernel_rfl) (by kernel_rfl) (by kernel_rfl) (fun _ _ _ h => h) rfl ?_ (by assumption) ?_
  rotate_left
  · (intro w hSw; (try dsimp only at hSw); go_simp; try with_reducible rfl)
  try simp only [Act.put, List.setIfInBounds_toArray, List.set_cons_zero, List.set_cons_succ]
  refine hm_take (i := 2) (v := ?_) rfl rfl (by kernel_rfl) (by kernel_rfl) (by kernel_rfl) (fun _ _ _ h => h) rfl ?_ (by assumption) ?_
  rotate_left
  · (intro w hSw; (try dsimp only at hSw); go_simp; try with_reducible rfl)
  try simp only [Act.put, List.setIfInBounds_toArray, List.set_cons_zero, List.set_cons_succ]
  refine hm_take (i := 3) (v := ?_) rfl rfl (by kernel_rfl) (by kernel_rfl) (by kernel_rfl) (fun _ _ _ h => h) rfl ?_ (by assumption) ?_
  rotate_left
  · (intro w hSw; (try dsimp only at hSw); go_simp; try with_reducible rfl)
  try simp only [Act.put, List.setIfInBounds_toArray, List.set_cons_zero, List.set_cons_succ]
  refine hm_take (i := 5) (v := ?_) rfl rfl (by kernel_rfl) (by kernel_rfl) (by kernel_rfl) (fun _ _ _ h => h) rfl ?_ (by assumption) ?_
  rotate_left
  · (intro w hSw; (try dsimp only at hSw); go_simp; try with_reducible rfl)
  try simp only [Act.put, List.setIfInBounds_toArray, List.set_cons_zero, List.set_cons_succ]
  refine hm_call (i := 4) rfl (by kernel_rfl) rfl (fun K hK => ?_)
  go_simp
  (go_at_call 70; refine (rd64_any _ _ _ _ (seg l 1 8) _ n0 (by omega) (BytesAt.bel hB1 (bel_drew (bel_refl _)))).mono ?_; rintro e w1 ⟨rfl, hb1⟩; have HH := H.drew.grow hb1; obtain ⟨y0, y1, y2, y3⟩ := HH.atz hz; obtain ⟨x0, x1, x2, x3⟩ := HH.frz fz hb)
  (try go_wp2_with fail)
  refine hK.out _ _ (by (try dsimp only); all_goals exact trivial) (fun hHeld => ?_)
  clear hK K
  try simp only [Act.put, List.setIfInBounds_toArray, List.set_cons_zero, List.set_cons_succ]
  refine hm_take (i := 6) (v := ?_) rfl rfl (by kernel_rfl) (by kernel_rfl) (by kernel_rfl) (fun _ _ _ h => h) rfl ?_ (by assumption) ?_
  rotate_left
  · (intro w hSw; (try dsimp only at hSw); go_simp; try with_reducible rfl)
  try simp only [Act.put, List.setIfInBounds_toArray, List.set_cons_zero, List.set_cons_succ]
  refine hm_call (i := 7) rfl (by kernel_rfl) rfl (fun K hK => ?_)
  (go_simp)
  refine hK.out _ _ (by (try dsimp only); all_goals exact trivial) (fun hHeld => ?_)
  clear hK K
  try simp only [Act.put, List.setIfInBounds_toArray, List.set_cons_zero, List.set_cons_succ]
  refine wpAnyH_done (by kernel_rfl) ?_ _
  refine NoPanic.normal ?_
  have H2 : Left w b o (N4.setW (N4.setW (N4.setW (N4.setW z 3 0#64) 2 0#64) 1 (BitVec.ofNat 64 (Lib.beNat (seg l 0 1)))) 0 (BitVec.ofNat 64 (Lib.beNat (seg l 1 8)))) (World.setCell w1 ⟨b, o, none⟩ (.int .u64 ((Lib.beNat (seg l 1 8) : Nat) : Int))) := by
    rw [← U_ofNat _ (by omega)]
    exact (HH.one 0 (by omega) _)
  clear H hB1 HH y0 y1 y2 y3 x0 x1 x2 x3 hb1
  revert H2
  generalize World.setCell _ _ _ = W1
  intro H
  go_wp2
  go_ret
  refine ⟨rfl, ?_⟩
  have e : (N4.setW (N4.setW (N4.setW (N4.setW z 3 0#64) 2 0#64) 1 (BitVec.ofNat 64 (Lib.beNat (seg l 0 1)))) 0 (BitVec.ofNat 64 (Lib.beNat (seg l 1 8)))) = ofN (Lib.beNat (l.take 9)) := by
    apply eq_ofN
    rw [HV.out]
    simp only [N4.setW, N4.toNat, if_true, if_false, reduceIte, BitVec.toNat_ofNat, show ¬ (2 : Nat) = 0 by omega, show ¬ (3 : Nat) = 0 by omega, show ¬ (1 : Nat) = 0 by omega, show ¬ (2 : Nat) = 1 by omega, show ¬ (3 : Nat) = 1 by omega, show ¬ (3 : Nat) = 2 by omega]
    omega
  rw [← e]
  exact H
set_option maxHeartbeats 4000000 in
theorem set10_any (b o : Nat) (z : N4) (g q n cap : Nat) (l : List UInt8) (w : World) (hz : At4 w b o z) (fz : Free4 w b o) (hB : BytesAt w g q l) (hl : l.length = n) (hN : 10 ≤ n) (hcap : n ≤ cap) (hne : g ≠ b) :
    Calls Tryf.prog 37 #[.pointer (some ⟨b, o, none⟩), .slice (some ⟨g, q, none⟩) n cap] w (RetLeft b o (ofN (Lib.beNat (l.take 10))) w) := by
  have hb := hz.lt
  have H := Left.start hz
  have k0 : ¬ cap = 0 := by omega
  have c2 : (2 : Int) ≤ (cap : Int) := by omega
  have n1 : (seg l 0 2).length = 2 := by rw [seg_len]; omega
  have L1 := beNat_lt (seg l 0 2)
  rw [n1] at L1
  have k2 : ¬ cap = 2 := by omega
  have c10 : (10 : Int) ≤ (cap : Int) := by omega
  have n0 : (seg l 2 8).length = 8 := by rw [seg_len]; omega
  have L0 := beNat_lt (seg l 2 8)
  rw [n0] at L0
  obtain ⟨u, hu⟩ : ∃ u, l[9]? = some u := ⟨_, List.getElem?_eq_getElem (by omega)⟩
  have hc0 := hB 9 u hu
  have hp0 : (9 : Int) < (n : Int) := by omega
  clear hu
  have HV : Hid (Lib.beNat (l.take 10) = Lib.beNat (seg l 2 8) + 2 ^ 64 * Lib.beNat (seg l 0 2)) := by
    show _ = _
    rw [show l.take 10 = l.take 2 ++ seg l 2 8 from take_split l 2 8, beNat_append, n0]
    rw [← seg_zero]
    omega
  obtain ⟨z0, z1, z2, z3⟩ := hz
  obtain ⟨f0, f1, f2, f3⟩ := fz
  have hz : At4 w b o z := ⟨z0, z1, z2, z3⟩
  have fz : Free4 w b o := ⟨f0, f1, f2, f3⟩
  go_enter Tryf.func37, Tryf.ntmps37
  go_wp2
  go_region
  go_wp2
  have H2 : Left w b o (N4.setW (N4.setW z 3 0#64) 2 0#64) (World.setCell (World.setCell w ⟨b, o + 3, none⟩ (.int .u64 0)) ⟨b, o + 2, none⟩ (.int .u64 0)).drew := (Left.one (Left.one H 3 (by omega) 0#64) 2 (by omega) 0#64).drew
  clear H z0 z1 z2 z3 f0 f1 f2 f3 hc0
  revert H2
  generalize (World.setCell (World.setCell w ⟨b, o + 3, none⟩ (.int .u64 0)) ⟨b, o + 2, none⟩ (.int .u64 0)).drew = W1
  intro H
  have hne2 : ¬ b = g := fun e => hne e.symm
  have hB1 : BytesAt _ g q (seg l 0 2) := (H.bytes hB hne).cut 0 2
  have hwr : IntKind.u64.wrap ((Lib.beNat (seg l 0 2) : Nat) : Int) = ((Lib.beNat (seg l 0 2) : Nat) : Int) := by rw [IntKind.wrap_u64]; omega
  refine wp_region_noPanic ?_
  refine wp_region_held_drew (S := (fun _ => True)) (by kernel_rfl) (by all_goals exact trivial) (fun hHeld => ?_)
  refine hm_take (i := 0) (v := ?_) rfl rfl (by kernel_rfl) (by kernel_rfl) (by kernel_rfl) (fun _ _ _ h => h) rfl ?_ (by assumption) ?_
  rotate_left
  · (intro w hSw; (try dsimp only at hSw); go_simp; try with_reducible rfl)
  try simp only [Act.put, List.setIfInBounds_toArray, List.set_cons_zero, List.set_cons_succ]
  refine hm_take (i := 1) (v := ?_) rfl rfl (by kernel_rfl) (by kernel_rfl) (by kernel_rfl) (fun _ _ _ h => h) rfl ?_ (by assumption) ?_
  rotate_left
  · (intro w hSw; (try dsimp only at hSw); go_simp; try with_reducible rfl)
  try simp only [Act.put, List.setIfInBounds_toArray, List.set_cons_zero, List.set_cons_succ]
  refine hm_take (i := 2) (v := ?_) rfl rfl (by kernel_rfl) (by kernel_rfl) (by kernel_rfl) (fun _ _ _ h => h) rfl ?_ (by assumption) ?_
  rotate_left
  · (intro w hSw; (try dsimp only at hSw); go_simp; try with_reducible rfl)
  try simp only [Act.put, List.setIfInBounds_toArray, List.set_cons_zero, List.set_cons_succ]
  refine hm_take (i := 3) (v := ?_) rfl rfl (by kernel_rfl) (by kernel_rfl) (by kernel_rfl) (fun _ _ _ h => h) rfl ?_ (by assumption) ?_
  rotate_left
  · (intro w hSw; (try dsimp only at hSw); go_simp; try with_reducible rfl)
  try simp only [Act.put, List.setIfInBounds_toArray, List.set_cons_zero, List.set_cons_succ]
  refine hm_take (i := 6) (v := ?_) rfl rfl (by kernel_rfl) (by kernel_rfl) (by kernel_rfl) (fun _ _ _ h => h) rfl ?_ (by assumption) ?_
  rotate_left
  · (intro w hSw; (try dsimp only at hSw); go_simp; try with_reducible rfl)
  try simp only [Act.put, List.setIfInBounds_toArray, List.set_cons_zero, List.set_cons_succ]
  refine hm_call (i := 4) rfl (by kernel_rfl) rfl (fun K hK => ?_)
  go_simp
  (go_at_call 65; refine (rd16_any _ _ _ _ (seg l 0 2) _ n1 (by omega) (BytesAt.bel hB1 (bel_drew (bel_refl _)))).mono ?_; rintro e w1 ⟨rfl, hb1⟩; have HH := H.drew.grow hb1; obtain ⟨y0, y1, y2, y3⟩ := HH.atz hz; obtain ⟨x0, x1, x2, x3⟩ := HH.frz fz hb)
  (try go_wp2_with fail)
  refine hK.out _ _ (by (try dsimp only); all_goals exact trivial) (fun hHeld => ?_)
  clear hK K
  try simp only [Act.put, List.setIfInBounds_toArray, List.set_cons_zero, List.set_cons_succ]
  refine hm_take (i := 5) (v := ?_) rfl rfl (by kernel_rfl) (by kernel_rfl) (by kernel_rfl) (fun _ _ _ h => h) rfl ?_ (by assumption) ?_
  rotate_left
  · (intro w hSw; (try dsimp only at hSw); go_simp; try with_reducible rfl)
  try simp only [Act.put, List.setIfInBounds_toArray, List.set_cons_zero, List.set_cons_succ]
  refine hm_take (i := 7) (v := ?_) rfl rfl (by kernel_rfl) (by kernel_rfl) (by kernel_rfl) (fun _ _ _ h => h) rfl ?_ (by assumption) ?_
  rotate_left
  · (intro w hSw; (try dsimp only at hSw); go_simp; try with_reducible rfl)
  try simp only [Act.put, List.setIfInBounds_toArray, List.set_cons_zero, List.set_cons_succ]
  refine hm_call (i := 8) rfl (by kernel_rfl) rfl (fun K hK => ?_)
  (go_simp)
  refine hK.out _ _ (by (try dsimp only); all_goals exact trivial) (fun hHeld => ?_)
  clear hK K
  try simp only [Act.put, List.setIfInBounds_toArray, List.set_cons_zero, List.set_cons_succ]
  refine wpAnyH_done (by kernel_rfl) ?_ _
  refine NoPanic.normal ?_
  have H2 : Left w b o (N4.setW (N4.setW (N4.setW z 3 0#64) 2 0#64) 1 (BitVec.ofNat 64 (Lib.beNat (seg l 0 2)))) (World.setCell w1 ⟨b, o + 1, none⟩ (.int .u64 ((Lib.beNat (seg l 0 2) : Nat) : Int))) := by
    rw [← U_ofNat _ (by omega)]
    exact (HH.one 1 (by omega) _)
  clear H hB1 HH y0 y1 y2 y3 x0 x1 x2 x3 hb1 hwr
  revert H2
  generalize World.setCell _ _ _ = W1
  intro H
  go_wp2
  have hB1 : BytesAt _ g (q + 2) (seg l 2 8) := (H.bytes hB hne).cut 2 8
  refine wp_region_noPanic ?_
  refine wp_region_held_drew (S := (fun _ => True)) (by kernel_rfl) (by all_goals exact trivial) (fun hHeld => ?_)
  refine hm_take (i := 0) (v := ?_) rfl rfl (by kernel_rfl) (by kernel_rfl) (by kernel_rfl) (fun _ _ _ h => h) rfl ?_ (by assumption) ?_
  rotate_left
  · (intro w hSw; (try dsimp only at hSw); go_simp; try with_reducible rfl)
  try simp only [Act.put, List.setIfInBounds_toArray, List.set_cons_zero, List.set_cons_succ]
  refine hm_take (i := 1) (v := ?_) rfl rfl (by kernel_rfl) (by kernel_rfl) (by kernel_rfl) (fun _ _ _ h => h) rfl ?_ (by assumption) ?_
  rotate_left
  · (intro w hSw; (try dsimp only at hSw); go_simp; try with_reducible rfl)
  try simp only [Act.put, List.setIfInBounds_toArray, List.set_cons_zero, List.set_cons_succ]
  refine hm_take (i := 2) (v := ?_) rfl rfl (by kernel_rfl) (by kernel_rfl) (by kernel_rfl) (fun _ _ _ h => h) rfl ?_ (by assumption) ?_
  rotate_left
  · (intro w hSw; (try dsimp only at hSw); go_simp; try with_reducible rfl)
  try simp only [Act.put, List.setIfInBounds_toArray, List.set_cons_zero, List.set_cons_succ]
  refine hm_take (i := 3) (v := ?_) rfl rfl (by kernel_rfl) (by kernel_rfl) (by kernel_rfl) (fun _ _ _ h => h) rfl ?_ (by assumption) ?_
  rotate_left
  · (intro w hSw; (try dsimp only at hSw); go_simp; try with_reducible rfl)
  try simp only [Act.put, List.setIfInBounds_toArray, List.set_cons_zero, List.set_cons_succ]
  refine hm_take (i := 5) (v := ?_) rfl rfl (by kernel_rfl) (by kernel_rfl) (by kernel_rfl) (fun _ _ _ h => h) rfl ?_ (by assumption) ?_
  rotate_left
  · (intro w hSw; (try dsimp only at hSw); go_simp; try with_reducible rfl)
  try simp only [Act.put, List.setIfInBounds_toArray, List.set_cons_zero, List.set_cons_succ]
  refine hm_call (i := 4) rfl (by kernel_rfl) rfl (fun K hK => ?_)
  go_simp
  (go_at_call 70; refine (rd64_any _ _ _ _ (seg l 2 8) _ n0 (by omega) (BytesAt.bel hB1 (bel_drew (bel_refl _)))).mono ?_; rintro e w1 ⟨rfl, hb1⟩; have HH := H.drew.grow hb1; obtain ⟨y0, y1, y2, y3⟩ := HH.atz hz; obtain ⟨x0, x1, x2, x3⟩ := HH.frz fz hb)
  (try go_wp2_with fail)
  refine hK.out _ _ (by (try dsimp only); all_goals exact trivial) (fun hHeld => ?_)
  clear hK K
  try simp only [Act.put, List.setIfInBounds_toArray, List.set_cons_zero, List.set_cons_succ]
  refine hm_take (i := 6) (v := ?_) rfl rfl (by kernel_rfl) (by kernel_rfl) (by kernel_rfl) (fun _ _ _ h => h) rfl ?_ (by assumption) ?_
  rotate_left
  · (intro w hSw; (try dsimp only at hSw); go_simp; try with_reducible rfl)
  try simp only [Act.put, List.setIfInBounds_toArray, List.set_cons_zero, List.set_cons_succ]
  refine hm_call (i := 7) rfl (by kernel_rfl) rfl (fun K hK => ?_)
  (go_simp)
  refine hK.out _ _ (by (try dsimp only); all_goals exact trivial) (fun hHeld => ?_)
  clear hK K
  try simp only [Act.put, List.setIfInBounds_toArray, List.set_cons_zero, List.set_cons_succ]
  refine wpAnyH_done (by kernel_rfl) ?_ _
  refine NoPanic.normal ?_
  have H2 : Left w b o (N4.setW (N4.setW (N4.setW (N4.setW z 3 0#64) 2 0#64) 1 (BitVec.ofNat 64 (Lib.beNat (seg l 0 2)))) 0 (BitVec.ofNat 64 (Lib.beNat (seg l 2 8)))) (World.setCell w1 ⟨b, o, none⟩ (.int .u64 ((Lib.beNat (seg l 2 8) : Nat) : Int))) := by
    rw [← U_ofNat _ (by omega)]
    exact (HH.one 0 (by omega) _)
  clear H hB1 HH y0 y1 y2 y3 x0 x1 x2 x3 hb1
  revert H2
  generalize World.setCell _ _ _ = W1
  intro H
  go_wp2
  go_ret
  refine ⟨rfl, ?_⟩
  have e : (N4.setW (N4.setW (N4.setW (N4.setW z 3 0#64) 2 0#64) 1 (BitVec.ofNat 64 (Lib.beNat (seg l 0 2)))) 0 (BitVec.ofNat 64 (Lib.beNat (seg l 2 8)))) = ofN (Lib.beNat (l.take 10)) := by
    apply eq_ofN
    rw [HV.out]
    simp only [N4.setW, N4.toNat, if_true, if_false, reduceIte, BitVec.toNat_ofNat, show ¬ (2 : Nat) = 0 by omega, show ¬ (3 : Nat) = 0 by omega, show ¬ (1 : Nat) = 0 by omega, show ¬ (2 : Nat) = 1 by omega, show ¬ (3 : Nat) = 1 by omega, show ¬ (3 : Nat) = 2 by omega]
    omega
  rw [← e]
  exact H
set_option maxHeartbeats 4000000 in
theorem set11_any (b o : Nat) (z : N4) (g q n cap : Nat) (l : List UInt8) (w : World) (hz : At4 w b o z) (fz : Free4 w b o) (hB : BytesAt w g q l) (hl : l.length = n) (hN : 11 ≤ n) (hcap : n ≤ cap) (hne : g ≠ b) :
    Calls Tryf.prog 38 #[.pointer (some ⟨b, o, none⟩), .slice (some ⟨g, q, none⟩) n cap] w (RetLeft b o (ofN (Lib.beNat (l.take 11))) w) := by
  have hb := hz.lt
  have H := Left.start hz
  have k0 : ¬ cap = 0 := by omega
  have c3 : (3 : Int) ≤ (cap : Int) := by omega
  have n1 : (seg l 0 3).length = 3 := by rw [seg_len]; omega
  have L1 := beNat_lt (seg l 0 3)
  rw [n1] at L1
  have k3 : ¬ cap = 3 := by omega
  have c11 : (11 : Int) ≤ (cap : Int) := by omega
  have n0 : (seg l 3 8).length = 8 := by rw [seg_len]; omega
  have L0 := beNat_lt (seg l 3 8)
  rw [n0] at L0
  obtain ⟨u, hu⟩ : ∃ u, l[10]? = some u := ⟨_, List.getElem?_eq_getElem (by omega)⟩
  have hc0 := hB 10 u hu
  have hp0 : (10 : Int) < (n : Int) := by omega
  clear hu
  have HV : Hid (Lib.beNat (l.take 11) = Lib.beNat (seg l 3 8) + 2 ^ 64 * Lib.beNat (seg l 0 3)) := by
    show _ = _
    rw [show l.take 11 = l.take 3 ++ seg l 3 8 from take_split l 3 8, beNat_append, n0]
    rw [← seg_zero]
    omega
  obtain ⟨z0, z1, z2, z3⟩ := hz
  obtain ⟨f0, f1, f2, f3⟩ := fz
  have hz : At4 w b o z := ⟨z0, z1, z2, z3⟩
  have fz : Free4 w b o := ⟨f0, f1, f2, f3⟩
  go_enter Tryf.func38, Tryf.ntmps38
  go_wp2
  go_region
  go_wp2
  have H2 : Left w b o (N4.setW (N4.setW z 3 0#64) 2 0#64) (World.setCell (World.setCell w ⟨b, o + 3, none⟩ (.int .u64 0)) ⟨b, o + 2, none⟩ (.int .u64 0)).drew := (Left.one (Left.one H 3 (by omega) 0#64) 2 (by omega) 0#64).drew
  clear H z0 z1 z2 z3 f0 f1 f2 f3 hc0
  revert H2
  generalize (World.setCell (World.setCell w ⟨b, o + 3, none⟩ (.int .u64 0)) ⟨b, o + 2, none⟩ (.int .u64 0)).drew = W1
  intro H
  have hne2 : ¬ b = g := fun e => hne e.symm
  have hB1 : BytesAt _ g q (seg l 0 3) := (H.bytes hB hne).cut 0 3
  have k1b : ¬ cap = 1 := by omega
  have n2b : (seg l 1 2).length = 2 := by rw [seg_len]; omega
  have L2b := beNat_lt (seg l 1 2)
  rw [n2b] at L2b
  obtain ⟨u0, hu0⟩ : ∃ u, l[0]? = some u := ⟨_, List.getElem?_eq_getElem (by omega)⟩
  have hc1 := H.bytes hB hne 0 u0 hu0
  rw [Nat.add_zero] at hc1
  have E1 := beNat_take1 hu0
  have u0l := u0.toNat_lt
  have hn0 : 0 < n := by omega
  have hw0 : IntKind.u64.wrap (u0.toNat : Int) = (u0.toNat : Int) := by rw [IntKind.wrap_u64]; omega
  have hw2 : IntKind.u64.wrap ((Lib.beNat (seg l 1 2) : Nat) : Int) = ((Lib.beNat (seg l 1 2) : Nat) : Int) := by rw [IntKind.wrap_u64]; omega
  have E3 : Lib.beNat (seg l 0 3) = u0.toNat * 65536 + Lib.beNat (seg l 1 2) := by
    rw [seg_zero, show l.take 3 = l.take 1 ++ seg l 1 2 from take_split l 1 2, beNat_append, n2b, ← seg_zero, E1]
  have hor : bits BinOp.or IntKind.u64 ((Lib.beNat (seg l 1 2) : Nat) : Int) ((u0.toNat : Int) * 65536) = ((Lib.beNat (seg l 0 3) : Nat) : Int) := by
    rw [u64_or16 _ _ (by omega) (by omega) (by omega) (by omega) (by omega), E3]
    omega
  clear E3
  have hsh : IntKind.u64.wrap ((u0.toNat : Int) * 65536) = (u0.toNat : Int) * 65536 := by rw [IntKind.wrap_u64]; omega
  have hB2 : BytesAt _ g (q + 1) (seg l 1 2) := (H.bytes hB hne).cut 1 2
  refine wp_region_noPanic ?_
  refine wp_region_held_drew (S := (fun w9 => w9.cell? ⟨g, q, none⟩ = some (.int .u8 (u0.toNat : Int)))) (by kernel_rfl) (by exact hc1) (fun hHeld => ?_)
  refine hm_take (i := 0) (v := ?_) rfl rfl (by kernel_rfl) (by kernel_rfl) (by kernel_rfl) (fun _ _ _ h => h) rfl ?_ (by assumption) ?_
  rotate_left
  · (intro w hSw; (try dsimp only at hSw); go_simp; try with_reducible rfl)
  try simp only [Act.put, List.setIfInBounds_toArray, List.set_cons_zero, List.set_cons_succ]
  refine hm_take (i := 1) (v := ?_) rfl rfl (by kernel_rfl) (by kernel_rfl) (by kernel_rfl) (fun _ _ _ h => h) rfl ?_ (by assumption) ?_
  rotate_left
  · (intro w hSw; (try dsimp only at hSw); go_simp; try with_reducible rfl)
  try simp only [Act.put, List.setIfInBounds_toArray, List.set_cons_zero, List.set_cons_succ]
  refine hm_take (i := 2) (v := ?_) rfl rfl (by kernel_rfl) (by kernel_rfl) (by kernel_rfl) (fun _ _ _ h => h) rfl ?_ (by assumption) ?_
  rotate_left
  · (intro w hSw; (try dsimp only at hSw); go_simp; try with_reducible rfl)
  try simp only [Act.put, List.setIfInBounds_toArray, List.set_cons_zero, List.set_cons_succ]
  refine hm_take (i := 3) (v := ?_) rfl rfl (by kernel_rfl) (by kernel_rfl) (by kernel_rfl) (fun _ _ _ h => h) rfl ?_ (by assumption) ?_
  rotate_left
  · (intro w hSw; (try dsimp only at hSw); go_simp; try with_reducible rfl)
  try simp only [Act.put, List.setIfInBounds_toArray, List.set_cons_zero, List.set_cons_succ]
  refine hm_take (i := 6) (v := ?_) rfl rfl (by kernel_rfl) (by kernel_rfl) (by kernel_rfl) (fun _ _ _ h => h) rfl ?_ (by assumption) ?_
  rotate_left
  · (intro w hSw; (try dsimp only at hSw); go_simp; try with_reducible rfl)
  try simp only [Act.put, List.setIfInBounds_toArray, List.set_cons_zero, List.set_cons_succ]
  refine hm_take (i := 7) (v := ?_) rfl rfl (by kernel_rfl) (by kernel_rfl) (by kernel_rfl) (fun _ _ _ h => h) rfl ?_ (by assumption) ?_
  rotate_left
  · (intro w hSw; (try dsimp only at hSw); go_simp; try with_reducible rfl)
  try simp only [Act.put, List.setIfInBounds_toArray, List.set_cons_zero, List.set_cons_succ]
  refine hm_take (i := 8) (v := ?_) rfl rfl (by kernel_rfl) (by kernel_rfl) (by kernel_rfl) (fun _ _ _ h => h) rfl ?_ (by assumption) ?_
  rotate_left
  · (intro w hSw; (try dsimp only at hSw); go_simp; try with_reducible rfl)
  try simp only [Act.put, List.setIfInBounds_toArray, List.set_cons_zero, List.set_cons_succ]
  refine hm_take (i := 9) (v := ?_) rfl rfl (by kernel_rfl) (by kernel_rfl) (by kernel_rfl) (fun _ _ _ h => h) rfl ?_ (by assumption) ?_
  rotate_left
  · (intro w hSw; (try dsimp only at hSw); go_simp; try with_reducible rfl)
  try simp only [Act.put, List.setIfInBounds_toArray, List.set_cons_zero, List.set_cons_succ]
  refine hm_take (i := 10) (v := ?_) rfl rfl (by kernel_rfl) (by kernel_rfl) (by kernel_rfl) (fun _ _ _ h => h) rfl ?_ (by assumption) ?_
  rotate_left
  · (intro w hSw; (try dsimp only at hSw); go_simp; try with_reducible rfl)
  try simp only [Act.put, List.setIfInBounds_toArray, List.set_cons_zero, List.set_cons_succ]
  refine hm_take (i := 12) (v := ?_) rfl rfl (by kernel_rfl) (by kernel_rfl) (by kernel_rfl) (fun _ _ _ h => h) rfl ?_ (by assumption) ?_
  rotate_left
  · (intro w hSw; (try dsimp only at hSw); go_simp; try with_reducible rfl)
  try simp only [Act.put, List.setIfInBounds_toArray, List.set_cons_zero, List.set_cons_succ]
  refine hm_call (i := 4) rfl (by kernel_rfl) rfl (fun K hK => ?_)
  go_simp
  (go_at_call 65; refine (rd16_any _ _ _ _ (seg l 1 2) _ n2b (by omega) (BytesAt.bel hB2 (bel_drew (bel_refl _)))).mono ?_; rintro e w1 ⟨rfl, hb1⟩; have HH := H.drew.grow hb1; obtain ⟨y0, y1, y2, y3⟩ := HH.atz hz; obtain ⟨x0, x1, x2, x3⟩ := HH.frz fz hb)
  (try go_wp2_with fail)
  refine hK.out _ _ (by (try dsimp only); first | exact bel_cell hb1 hHeld | exact (World.cell?_setCell_other _ _ _ _ (by intro e; injection e with e; first | exact hne e | exact hne2 e)).trans hHeld) (fun hHeld => ?_)
  clear hK K
  try simp only [Act.put, List.setIfInBounds_toArray, List.set_cons_zero, List.set_cons_succ]
  refine hm_take (i := 5) (v := ?_) rfl rfl (by kernel_rfl) (by kernel_rfl) (by kernel_rfl) (fun _ _ _ h => h) rfl ?_ (by assumption) ?_
  rotate_left
  · (intro w hSw; (try dsimp only at hSw); go_simp; try with_reducible rfl)
  try simp only [Act.put, List.setIfInBounds_toArray, List.set_cons_zero, List.set_cons_succ]
  refine hm_take (i := 11) (v := ?_) rfl rfl (by kernel_rfl) (by kernel_rfl) (by kernel_rfl) (fun _ _ _ h => h) rfl ?_ (by assumption) ?_
  rotate_left
  · (intro w hSw; (try dsimp only at hSw); go_simp; try with_reducible rfl)
  try simp only [Act.put, List.setIfInBounds_toArray, List.set_cons_zero, List.set_cons_succ]
  refine hm_take (i := 13) (v := ?_) rfl rfl (by kernel_rfl) (by kernel_rfl) (by kernel_rfl) (fun _ _ _ h => h) rfl ?_ (by assumption) ?_
  rotate_left
  · (intro w hSw; (try dsimp only at hSw); go_simp; try with_reducible rfl)
  try simp only [Act.put, List.setIfInBounds_toArray, List.set_cons_zero, List.set_cons_succ]
  refine hm_call (i := 14) rfl (by kernel_rfl) rfl (fun K hK => ?_)
  (go_simp)
  refine hK.out _ _ (by (try dsimp only); first | exact bel_cell hb1 hHeld | exact (World.cell?_setCell_other _ _ _ _ (by intro e; injection e with e; first | exact hne e | exact hne2 e)).trans hHeld) (fun hHeld => ?_)
  clear hK K
  try simp only [Act.put, List.setIfInBounds_toArray, List.set_cons_zero, List.set_cons_succ]
  refine wpAnyH_done (by kernel_rfl) ?_ _
  refine NoPanic.normal ?_
  have H2 : Left w b o (N4.setW (N4.setW (N4.setW z 3 0#64) 2 0#64) 1 (BitVec.ofNat 64 (Lib.beNat (seg l 0 3)))) (World.setCell w1 ⟨b, o + 1, none⟩ (.int .u64 ((Lib.beNat (seg l 0 3) : Nat) : Int))) := by
    rw [← U_ofNat _ (by omega)]
    exact (HH.one 1 (by omega) _)
  clear H hB1 HH y0 y1 y2 y3 x0 x1 x2 x3 hb1 hc1 hw0 u0l hw2 hor hsh hB2
  revert H2
  generalize World.setCell _ _ _ = W1
  intro H
  go_wp2
  have hB1 : BytesAt _ g (q + 3) (seg l 3 8) := (H.bytes hB hne).cut 3 8
  refine wp_region_noPanic ?_
  refine wp_region_held_drew (S := (fun _ => True)) (by kernel_rfl) (by all_goals exact trivial) (fun hHeld => ?_)
  refine hm_take (i := 0) (v := ?_) rfl rfl (by kernel_rfl) (by kernel_rfl) (by kernel_rfl) (fun _ _ _ h => h) rfl ?_ (by assumption) ?_
  rotate_left
  · (intro w hSw; (try dsimp only at hSw); go_simp; try with_reducible rfl)
  try simp only [Act.put, List.setIfInBounds_toArray, List.set_cons_zero, List.set_cons_succ]
  refine hm_take (i := 1) (v := ?_) rfl rfl (by kernel_rfl) (by kernel_rfl) (by kernel_rfl) (fun _ _ _ h => h) rfl ?_ (by assumption) ?_
  rotate_left
  · (intro w hSw; (try dsimp only at hSw); go_simp; try with_reducible rfl)
  try simp only [Act.put, List.setIfInBounds_toArray, List.set_cons_zero, List.set_cons_succ]
  refine hm_take (i := 2) (v := ?_) rfl rfl (by kernel_rfl) (by kernel_rfl) (by kernel_rfl) (fun _ _ _ h => h) rfl ?_ (by assumption) ?_
  rotate_left
  · (intro w hSw; (try dsimp only at hSw); go_simp; try with_reducible rfl)
  try simp only [Act.put, List.setIfInBounds_toArray, List.set_cons_zero, List.set_cons_succ]
  refine hm_take (i := 3) (v := ?_) rfl rfl (by kernel_rfl) (by kernel_rfl) (by kernel_rfl) (fun _ _ _ h => h) rfl ?_ (by assumption) ?_
  rotate_left
  · (intro w hSw; (try dsimp only at hSw); go_simp; try with_reducible rfl)
  try simp only [Act.put, List.setIfInBounds_toArray, List.set_cons_zero, List.set_cons_succ]
  refine hm_take (i := 5) (v := ?_) rfl rfl (by kernel_rfl) (by kernel_rfl) (by kernel_rfl) (fun _ _ _ h => h) rfl ?_ (by assumption) ?_
  rotate_left
  · (intro w hSw; (try dsimp only at hSw); go_simp; try with_reducible rfl)
  try simp only [Act.put, List.setIfInBounds_toArray, List.set_cons_zero, List.set_cons_succ]
  refine hm_call (i := 4) rfl (by kernel_rfl) rfl (fun K hK => ?_)
  go_simp
  (go_at_call 70; refine (rd64_any _ _ _ _ (seg l 3 8) _ n0 (by omega) (BytesAt.bel hB1 (bel_drew (bel_refl _)))).mono ?_; rintro e w1 ⟨rfl, hb1⟩; have HH := H.drew.grow hb1; obtain ⟨y0, y1, y2, y3⟩ := HH.atz hz; obtain ⟨x0, x1, x2, x3⟩ := HH.frz fz hb)
  (try go_wp2_with fail)
  refine hK.out _ _ (by (try dsimp only); all_goals exact trivial) (fun hHeld => ?_)
  clear hK K
  try simp only [Act.put, List.setIfInBounds_toArray, List.set_cons_zero, List.set_cons_succ]
  refine hm_take (i := 6) (v := ?_) rfl rfl (by kernel_rfl) (by kernel_rfl) (by kernel_rfl) (fun _ _ _ h => h) rfl ?_ (by assumption) ?_
  rotate_left
  · (intro w hSw; (try dsimp only at hSw); go_simp; try with_reducible rfl)
  try simp only [Act.put, List.setIfInBounds_toArray, List.set_cons_zero, List.set_cons_succ]
  refine hm_call (i := 7) rfl (by kernel_rfl) rfl (fun K hK => ?_)
  (go_simp)
  refine hK.out _ _ (by (try dsimp only); all_goals exact trivial) (fun hHeld => ?_)
  clear hK K
  try simp only [Act.put, List.setIfInBounds_toArray, List.set_cons_zero, List.set_cons_succ]
  refine wpAnyH_done (by kernel_rfl) ?_ _
  refine NoPanic.normal ?_
  have H2 : Left w b o (N4.setW (N4.setW (N4.setW (N4.setW z 3 0#64) 2 0#64) 1 (BitVec.ofNat 64 (Lib.beNat (seg l 0 3)))) 0 (BitVec.ofNat 64 (Lib.beNat (seg l 3 8)))) (World.setCell w1 ⟨b, o, none⟩ (.int .u64 ((Lib.beNat (seg l 3 8) : Nat) : Int))) := by
    rw [← U_ofNat _ (by omega)]
    exact (HH.one 0 (by omega) _)
  clear H hB1 HH y0 y1 y2 y3 x0 x1 x2 x3 hb1
  revert H2
  generalize World.setCell _ _ _ = W1
  intro H
  go_wp2
  go_ret
  refine ⟨rfl, ?_⟩
  have e : (N4.setW (N4.setW (N4.setW (N4.setW z 3 0#64) 2 0#64) 1 (BitVec.ofNat 64 (Lib.beNat (seg l 0 3)))) 0 (BitVec.ofNat 64 (Lib.beNat (seg l 3 8)))) = ofN (Lib.beNat (l.take 11)) := by
    apply eq_ofN
    rw [HV.out]
    simp only [N4.setW, N4.toNat, if_true, if_false, reduceIte, BitVec.toNat_ofNat, show ¬ (2 : Nat) = 0 by omega, show ¬ (3 : Nat) = 0 by omega, show ¬ (1 : Nat) = 0 by omega, show ¬ (2 : Nat) = 1 by omega, show ¬ (3 : Nat) = 1 by omega, show ¬ (3 : Nat) = 2 by omega]
    omega
  rw [← e]
  exact H
set_option maxHeartbeats 4000000 in
theorem set12_any (b o : Nat) (z : N4) (g q n cap : Nat) (l : List UInt8) (w : World) (hz : At4 w b o z) (fz : Free4 w b o) (hB : BytesAt w g q l) (hl : l.length = n) (hN : 12 ≤ n) (hcap : n ≤ cap) (hne : g ≠ b) :
    Calls Tryf.prog 39 #[.pointer (some ⟨b, o, none⟩), .slice (some ⟨g, q, none⟩) n cap] w (RetLeft b o (ofN (Lib.beNat (l.take 12))) w) := by
  have hb := hz.lt
  have H := Left.start hz
  have k0 : ¬ cap = 0 := by omega
  have c4 : (4 : Int) ≤ (cap : Int) := by omega
  have n1 : (seg l 0 4).length = 4 := by rw [seg_len]; omega
  have L1 := beNat_lt (seg l 0 4)
  rw [n1] at L1
  have k4 : ¬ cap = 4 := by omega
  have c12 : (12 : Int) ≤ (cap : Int) := by omega
  have n0 : (seg l 4 8).length = 8 := by rw [seg_len]; omega
  have L0 := beNat_lt (seg l 4 8)
  rw [n0] at L0
  obtain ⟨u, hu⟩ : ∃ u, l[11]? = some u := ⟨_, List.getElem?_eq_getElem (by omega)⟩
  have hc0 := hB 11 u hu
  have hp0 : (11 : Int) < (n : Int) := by omega
  clear hu
  have HV : Hid (Lib.beNat (l.take 12) = Lib.beNat (seg l 4 8) + 2 ^ 64 * Lib.beNat (seg l 0 4)) := by
    show _ = _
    rw [show l.take 12 = l.take 4 ++ seg l 4 8 from take_split l 4 8, beNat_append, n0]
    rw [← seg_zero]
    omega
  obtain ⟨z0, z1, z2, z3⟩ := hz
  obtain ⟨f0, f1, f2, f3⟩ := fz
  have hz : At4 w b o z := ⟨z0, z1, z2, z3⟩
  have fz : Free4 w b o := ⟨f0, f1, f2, f3⟩
  go_enter Tryf.func39, Tryf.ntmps39
  go_wp2
  go_region
  go_wp2
  have H2 : Left w b o (N4.setW (N4.setW z 3 0#64) 2 0#64) (World.setCell (World.setCell w ⟨b, o + 3, none⟩ (.int .u64 0)) ⟨b, o + 2, none⟩ (.int .u64 0)).drew := (Left.one (Left.one H 3 (by omega) 0#64) 2 (by omega) 0#64).drew
  clear H z0 z1 z2 z3 f0 f1 f2 f3 hc0
  revert H2
  generalize (World.setCell (World.setCell w ⟨b, o + 3, none⟩ (.int .u64 0)) ⟨b, o + 2, none⟩ (.int .u64 0)).drew = W1
  intro H
  have hne2 : ¬ b = g := fun e => hne e.symm
  have hB1 : BytesAt _ g q (seg l 0 4) := (H.bytes hB hne).cut 0 4
  have hwr : IntKind.u64.wrap ((Lib.beNat (seg l 0 4) : Nat) : Int) = ((Lib.beNat (seg l 0 4) : Nat) : Int) := by rw [IntKind.wrap_u64]; omega
  refine wp_region_noPanic ?_
  refine wp_region_held_drew (S := (fun _ => True)) (by kernel_rfl) (by all_goals exact trivial) (fun hHeld => ?_)
  refine hm_take (i := 0) (v := ?_) rfl rfl (by kernel_rfl) (by kernel_rfl) (by kernel_rfl) (fun _ _ _ h => h) rfl ?_ (by assumption) ?_
  rotate_left
  · (intro w hSw; (try dsimp only at hSw); go_simp; try with_reducible rfl)
  try simp only [Act.put, List.setIfInBounds_toArray, List.set_cons_zero, List.set_cons_succ]
  refine hm_take (i := 1) (v := ?_) rfl rfl (by kernel_rfl) (by kernel_rfl) (by kernel_rfl) (fun _ _ _ h => h) rfl ?_ (by assumption) ?_
  rotate_left
  · (intro w hSw; (try dsimp only at hSw); go_simp; try with_reducible rfl)
  try simp only [Act.put, List.setIfInBounds_toArray, List.set_cons_zero, List.set_cons_succ]
  refine hm_take (i := 2) (v := ?_) rfl rfl (by kernel_rfl) (by kernel_rfl) (by kernel_rfl) (fun _ _ _ h => h) rfl ?_ (by assumption) ?_
  rotate_left
  · (intro w hSw; (try dsimp only at hSw); go_simp; try with_reducible rfl)
  try simp only [Act.put, List.setIfInBounds_toArray, List.set_cons_zero, List.set_cons_succ]
  refine hm_take (i := 3) (v := ?_) rfl rfl (by kernel_rfl) (by kernel_rfl) (by kernel_rfl) (fun _ _ _ h => h) rfl ?_ (by assumption) ?_
  rotate_left
  · (intro w hSw; (try dsimp only at hSw); go_simp; try with_reducible rfl)
  try simp only [Act.put, List.setIfInBounds_toArray, List.set_cons_zero, List.set_cons_succ]
  refine hm_take (i := 6) (v := ?_) rfl rfl (by kernel_rfl) (by kernel_rfl) (by kernel_rfl) (fun _ _ _ h => h) rfl ?_ (by assumption) ?_
  rotate_left
  · (intro w hSw; (try dsimp only at hSw); go_simp; try with_reducible rfl)
  try simp only [Act.put, List.setIfInBounds_toArray, List.set_cons_zero, List.set_cons_succ]
  refine hm_call (i := 4) rfl (by kernel_rfl) rfl (fun K hK => ?_)
  go_simp
  (go_at_call 66; refine (rd32_any _ _ _ _ (seg l 0 4) _ n1 (by omega) (BytesAt.bel hB1 (bel_drew (bel_refl _)))).mono ?_; rintro e w1 ⟨rfl, hb1⟩; have HH := H.drew.grow hb1; obtain ⟨y0, y1, y2, y3⟩ := HH.atz hz; obtain ⟨x0, x1, x2, x3⟩ := HH.frz fz hb)
  (try go_wp2_with fail)
  refine hK.out _ _ (by (try dsimp only); all_goals exact trivial) (fun hHeld => ?_)
  clear hK K
  try simp only [Act.put, List.setIfInBounds_toArray, List.set_cons_zero, List.set_cons_succ]
  refine hm_take (i := 5) (v := ?_) rfl rfl (by kernel_rfl) (by kernel_rfl) (by kernel_rfl) (fun _ _ _ h => h) rfl ?_ (by assumption) ?_
  rotate_left
  · (intro w hSw; (try dsimp only at hSw); go_simp; try with_reducible rfl)
  try simp only [Act.put, List.setIfInBounds_toArray, List.set_cons_zero, List.set_cons_succ]
  refine hm_take (i := 7) (v := ?_) rfl rfl (by kernel_rfl) (by kernel_rfl) (by kernel_rfl) (fun _ _ _ h => h) rfl ?_ (by assumption) ?_
  rotate_left
  · (intro w hSw; (try dsimp only at hSw); go_simp; try with_reducible rfl)
  try simp only [Act.put, List.setIfInBounds_toArray, List.set_cons_zero, List.set_cons_succ]
  refine hm_call (i := 8) rfl (by kernel_rfl) rfl (fun K hK => ?_)
  (go_simp)
  refine hK.out _ _ (by (try dsimp only); all_goals exact trivial) (fun hHeld => ?_)
  clear hK K
  try simp only [Act.put, List.setIfInBounds_toArray, List.set_cons_zero, List.set_cons_succ]
  refine wpAnyH_done (by kernel_rfl) ?_ _
  refine NoPanic.normal ?_
  have H2 : Left w b o (N4.setW (N4.setW (N4.setW z 3 0#64) 2 0#64) 1 (BitVec.ofNat 64 (Lib.beNat (seg l 0 4)))) (World.setCell w1 ⟨b, o + 1, none⟩ (.int .u64 ((Lib.beNat (seg l 0 4) : Nat) : Int))) := by
    rw [← U_ofNat _ (by omega)]
    exact (HH.one 1 (by omega) _)
  clear H hB1 HH y0 y1 y2 y3 x0 x1 x2 x3 hb1 hwr
  revert H2
  generalize World.setCell _ _ _ = W1
  intro H
  go_wp2
  have hB1 : BytesAt _ g (q + 4) (seg l 4 8) := (H.bytes hB hne).cut 4 8
  refine wp_region_noPanic ?_
  refine wp_region_held_drew (S := (fun _ => True)) (by kernel_rfl) (by all_goals exact trivial) (fun hHeld => ?_)
  refine hm_take (i := 0) (v := ?_) rfl rfl (by kernel_rfl) (by kernel_rfl) (by kernel_rfl) (fun _ _ _ h => h) rfl ?_ (by assumption) ?_
  rotate_left
  · (intro w hSw; (try dsimp only at hSw); go_simp; try with_reducible rfl)
  try simp only [Act.put, List.setIfInBounds_toArray, List.set_cons_zero, List.set_cons_succ]
  refine hm_take (i := 1) (v := ?_) rfl rfl (by kernel_rfl) (by kernel_rfl) (by kernel_rfl) (fun _ _ _ h => h) rfl ?_ (by assumption) ?_
  rotate_left
  · (intro w hSw; (try dsimp only at hSw); go_simp; try with_reducible rfl)
  try simp only [Act.put, List.setIfInBounds_toArray, List.set_cons_zero, List.set_cons_succ]
  refine hm_take (i := 2) (v := ?_) rfl rfl (by kernel_rfl) (by kernel_rfl) (by kernel_rfl) (fun _ _ _ h => h) rfl ?_ (by assumption) ?_
  rotate_left
  · (intro w hSw; (try dsimp only at hSw); go_simp; try with_reducible rfl)
  try simp only [Act.put, List.setIfInBounds_toArray, List.set_cons_zero, List.set_cons_succ]
  refine hm_take (i := 3) (v := ?_) rfl rfl (by kernel_rfl) (by kernel_rfl) (by kernel_rfl) (fun _ _ _ h => h) rfl ?_ (by assumption) ?_
  rotate_left
  · (intro w hSw; (try dsimp only at hSw); go_simp; try with_reducible rfl)
  try simp only [Act.put, List.setIfInBounds_toArray, List.set_cons_zero, List.set_cons_succ]
  refine hm_take (i := 5) (v := ?_) rfl rfl (by kernel_rfl) (by kernel_rfl) (by kernel_rfl) (fun _ _ _ h => h) rfl ?_ (by assumption) ?_
  rotate_left
  · (intro w hSw; (try dsimp only at hSw); go_simp; try with_reducible rfl)
  try simp only [Act.put, List.setIfInBounds_toArray, List.set_cons_zero, List.set_cons_succ]
  refine hm_call (i := 4) rfl (by kernel_rfl) rfl (fun K hK => ?_)
  go_simp
  (go_at_call 70; refine (rd64_any _ _ _ _ (seg l 4 8) _ n0 (by omega) (BytesAt.bel hB1 (bel_drew (bel_refl _)))).mono ?_; rintro e w1 ⟨rfl, hb1⟩; have HH := H.drew.grow hb1; obtain ⟨y0, y1, y2, y3⟩ := HH.atz hz; obtain ⟨x0, x1, x2, x3⟩ := HH.frz fz hb)
  (try go_wp2_with fail)
  refine hK.out _ _ (by (try dsimp only); all_goals exact trivial) (fun hHeld => ?_)
  clear hK K
  try simp only [Act.put, List.setIfInBounds_toArray, List.set_cons_zero, List.set_cons_succ]
  refine hm_take (i := 6) (v := ?_) rfl rfl (by kernel_rfl) (by kernel_rfl) (by kernel_rfl) (fun _ _ _ h => h) rfl ?_ (by assumption) ?_
  rotate_left
  · (intro w hSw; (try dsimp only at hSw); go_simp; try with_reducible rfl)
  try simp only [Act.put, List.setIfInBounds_toArray, List.set_cons_zero, List.set_cons_succ]
  refine hm_call (i := 7) rfl (by kernel_rfl) rfl (fun K hK => ?_)
  (go_simp)
  refine hK.out _ _ (by (try dsimp only); all_goals exact trivial) (fun hHeld => ?_)
  clear hK K
  try simp only [Act.put, List.setIfInBounds_toArray, List.set_cons_zero, List.set_cons_succ]
  refine wpAnyH_done (by kernel_rfl) ?_ _
  refine NoPanic.normal ?_
  have H2 : Left w b o (N4.setW (N4.setW (N4.setW (N4.setW z 3 0#64) 2 0#64) 1 (BitVec.ofNat 64 (Lib.beNat (seg l 0 4)))) 0 (BitVec.ofNat 64 (Lib.beNat (seg l 4 8)))) (World.setCell w1 ⟨b, o, none⟩ (.int .u64 ((Lib.beNat (seg l 4 8) : Nat) : Int))) := by
    rw [← U_ofNat _ (by omega)]
    exact (HH.one 0 (by omega) _)
  clear H hB1 HH y0 y1 y2 y3 x0 x1 x2 x3 hb1
  revert H2
  generalize World.setCell _ _ _ = W1
  intro H
  go_wp2
  go_ret
  refine ⟨rfl, ?_⟩
  have e : (N4.setW (N4.setW (N4.setW (N4.setW z 3 0#64) 2 0#64) 1 (BitVec.ofNat 64 (Lib.beNat (seg l 0 4)))) 0 (BitVec.ofNat 64 (Lib.beNat (seg l 4 8)))) = ofN (Lib.beNat (l.take 12)) := by
    apply eq_ofN
    rw [HV.out]
    simp only [N4.setW, N4.toNat, if_true, if_false, reduceIte, BitVec.toNat_ofNat, show ¬ (2 : Nat) = 0 by omega, show ¬ (3 : Nat) = 0 by omega, show ¬ (1 : Nat) = 0 by omega, show ¬ (2 : Nat) = 1 by omega, show ¬ (3 : Nat) = 1 by omega, show ¬ (3 : Nat) = 2 by omega]
    omega
  rw [← e]
  exact H
end Go.Proofs.YtpmhkmcikjbncaaFmt
