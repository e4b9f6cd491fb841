/-
  How a number's four words are stored one by one; what SetBytes1 to SetBytes32 leave.
-/
import Derived.Test.YtpmhkmcikjbncaaFmtSb
import Derived.Test.YtpmhkmcikjbncaaFmtDig5
namespace Go.Proofs.YtpmhkmcikjbncaaFmt
open Go.RowKit
set_option linter.unusedVariables false
set_option linter.unusedSimpArgs false
set_option maxRecDepth 100000
set_option maxHeartbeats 4000000 in
theorem set21_any (b o : Nat) (z : N4) (g q n cap : Nat) (l : List UInt8) (w : World) (hz : At4 w b o z) (fz : Free4 w b o) (hB : BytesAt w g q l) (hl : l.length = n) (hN : 21 ≤ n) (hcap : n ≤ cap) (hne : g ≠ b) :
    Calls Tryf.prog 48 #[.pointer (some ⟨b, o, none⟩), .slice (some ⟨g, q, none⟩) n cap] w (RetLeft b o (ofN (Lib.beNat (l.take 21))) w) := by
  have hb := hz.lt
  have H := Left.start hz
  have k0 : ¬ cap = 0 := by omega
  have c5 : (5 : Int) ≤ (cap : Int) := by omega
  have n2 : (seg l 0 5).length = 5 := by rw [seg_len]; omega
  have L2 := beNat_lt (seg l 0 5)
  rw [n2] at L2
  have k5 : ¬ cap = 5 := by omega
  have c13 : (13 : Int) ≤ (cap : Int) := by omega
  have n1 : (seg l 5 8).length = 8 := by rw [seg_len]; omega
  have L1 := beNat_lt (seg l 5 8)
  rw [n1] at L1
  have k13 : ¬ cap = 13 := by omega
  have c21 : (21 : Int) ≤ (cap : Int) := by omega
  have n0 : (seg l 13 8).length = 8 := by rw [seg_len]; omega
  have L0 := beNat_lt (seg l 13 8)
  rw [n0] at L0
  obtain ⟨u, hu⟩ : ∃ u, l[20]? = some u := ⟨_, List.getElem?_eq_getElem (by omega)⟩
  have hc0 := hB 20 u hu
  have hp0 : (20 : Int) < (n : Int) := by omega
  clear hu
  have HV : Hid (Lib.beNat (l.take 21) = Lib.beNat (seg l 13 8) + 2 ^ 64 * Lib.beNat (seg l 5 8) + 2 ^ 128 * Lib.beNat (seg l 0 5)) := by
    show _ = _
    rw [show l.take 21 = l.take 13 ++ seg l 13 8 from take_split l 13 8, beNat_append, n0]
    rw [show l.take 13 = l.take 5 ++ seg l 5 8 from take_split l 5 8, beNat_append, n1]
    rw [← seg_zero]
    omega
  obtain ⟨z0, z1, z2, z3⟩ := hz
  obtain ⟨f0, f1, f2, f3⟩ := fz
  have hz : At4 w b o z := ⟨z0, z1, z2, z3⟩
  have fz : Free4 w b o := ⟨f0, f1, f2, f3⟩
  go_enter Tryf.func48, Tryf.ntmps48
  go_wp2
  have H2 : Left w b o (N4.setW z 3 0#64) (World.setCell w ⟨b, o + 3, none⟩ (.int .u64 0)) := (Left.one H 3 (by omega) 0#64)
  clear H z0 z1 z2 z3 f0 f1 f2 f3 hc0
  revert H2
  generalize (World.setCell w ⟨b, o + 3, none⟩ (.int .u64 0)) = W1
  intro H
  have hne2 : ¬ b = g := fun e => hne e.symm
  have hB1 : BytesAt _ g q (seg l 0 5) := (H.bytes hB hne).cut 0 5
  refine wp_region_noPanic ?_
  refine wp_region_held_drew (S := (fun _ => True)) (by kernel_rfl) (by all_goals exact trivial) (fun hHeld => ?_)
  refine hm_take (i := 0) (v := ?_) rfl rfl (by kernel_rfl) (by kernel_rfl) (by kernel_rfl) (fun _ _ _ h => h) rfl ?_ (by assumption) ?_
  rotate_left
  · (intro w hSw; (try dsimp only at hSw); go_simp; try with_reducible rfl)
  try simp only [Act.put, List.setIfInBounds_toArray, List.set_cons_zero, List.set_cons_succ]
  refine hm_take (i := 1) (v := ?_) rfl rfl (by kernel_rfl) (by kernel_rfl) (by kernel_rfl) (fun _ _ _ h => h) rfl ?_ (by assumption) ?_
  rotate_left
  · (intro w hSw; (try dsimp only at hSw); go_simp; try with_reducible rfl)
  try simp only [Act.put, List.setIfInBounds_toArray, List.set_cons_zero, List.set_cons_succ]
  refine hm_take (i := 2) (v := ?_) rfl rfl (by kernel_rfl) (by kernel_rfl) (by kernel_rfl) (fun _ _ _ h => h) rfl ?_ (by assumption) ?_
  rotate_left
  · (intro w hSw; (try dsimp only at hSw); go_simp; try with_reducible rfl)
  try simp only [Act.put, List.setIfInBounds_toArray, List.set_cons_zero, List.set_cons_succ]
  refine hm_take (i := 4) (v := ?_) rfl rfl (by kernel_rfl) (by kernel_rfl) (by kernel_rfl) (fun _ _ _ h => h) rfl ?_ (by assumption) ?_
  rotate_left
  · (intro w hSw; (try dsimp only at hSw); go_simp; try with_reducible rfl)
  try simp only [Act.put, List.setIfInBounds_toArray, List.set_cons_zero, List.set_cons_succ]
  refine hm_call (i := 3) rfl (by kernel_rfl) rfl (fun K hK => ?_)
  go_simp
  (go_at_call 67; refine (rd40_any _ _ _ _ (seg l 0 5) _ n2 (by omega) (BytesAt.bel hB1 (bel_drew (bel_refl _)))).mono ?_; rintro e w1 ⟨rfl, hb1⟩; have HH := H.drew.grow hb1; obtain ⟨y0, y1, y2, y3⟩ := HH.atz hz; obtain ⟨x0, x1, x2, x3⟩ := HH.frz fz hb)
  (try go_wp2_with fail)
  refine hK.out _ _ (by (try dsimp only); all_goals exact trivial) (fun hHeld => ?_)
  clear hK K
  try simp only [Act.put, List.setIfInBounds_toArray, List.set_cons_zero, List.set_cons_succ]
  refine hm_take (i := 5) (v := ?_) rfl rfl (by kernel_rfl) (by kernel_rfl) (by kernel_rfl) (fun _ _ _ h => h) rfl ?_ (by assumption) ?_
  rotate_left
  · (intro w hSw; (try dsimp only at hSw); go_simp; try with_reducible rfl)
  try simp only [Act.put, List.setIfInBounds_toArray, List.set_cons_zero, List.set_cons_succ]
  refine hm_call (i := 6) rfl (by kernel_rfl) rfl (fun K hK => ?_)
  (go_simp)
  refine hK.out _ _ (by (try dsimp only); all_goals exact trivial) (fun hHeld => ?_)
  clear hK K
  try simp only [Act.put, List.setIfInBounds_toArray, List.set_cons_zero, List.set_cons_succ]
  refine wpAnyH_done (by kernel_rfl) ?_ _
  refine NoPanic.normal ?_
  have H2 : Left w b o (N4.setW (N4.setW z 3 0#64) 2 (BitVec.ofNat 64 (Lib.beNat (seg l 0 5)))) (World.setCell w1 ⟨b, o + 2, none⟩ (.int .u64 ((Lib.beNat (seg l 0 5) : Nat) : Int))) := by
    rw [← U_ofNat _ (by omega)]
    exact (HH.one 2 (by omega) _)
  clear H hB1 HH y0 y1 y2 y3 x0 x1 x2 x3 hb1
  revert H2
  generalize World.setCell _ _ _ = W1
  intro H
  go_wp2
  have hB1 : BytesAt _ g (q + 5) (seg l 5 8) := (H.bytes hB hne).cut 5 8
  refine wp_region_noPanic ?_
  refine wp_region_held_drew (S := (fun _ => True)) (by kernel_rfl) (by all_goals exact trivial) (fun hHeld => ?_)
  refine hm_take (i := 0) (v := ?_) rfl rfl (by kernel_rfl) (by kernel_rfl) (by kernel_rfl) (fun _ _ _ h => h) rfl ?_ (by assumption) ?_
  rotate_left
  · (intro w hSw; (try dsimp only at hSw); go_simp; try with_reducible rfl)
  try simp only [Act.put, List.setIfInBounds_toArray, List.set_cons_zero, List.set_cons_succ]
  refine hm_take (i := 1) (v := ?_) rfl rfl (by kernel_rfl) (by kernel_rfl) (by kernel_rfl) (fun _ _ _ h => h) rfl ?_ (by assumption) ?_
  rotate_left
  · (intro w hSw; (try dsimp only at hSw); go_simp; try with_reducible rfl)
  try simp only [Act.put, List.setIfInBounds_toArray, List.set_cons_zero, List.set_cons_succ]
  refine hm_take (i := 2) (v := ?_) rfl rfl (by kernel_rfl) (by kernel_rfl) (by kernel_rfl) (fun _ _ _ h => h) rfl ?_ (by assumption) ?_
  rotate_left
  · (intro w hSw; (try dsimp only at hSw); go_simp; try with_reducible rfl)
  try simp only [Act.put, List.setIfInBounds_toArray, List.set_cons_zero, List.set_cons_succ]
  refine hm_take (i := 3) (v := ?_) rfl rfl (by kernel_rfl) (by kernel_rfl) (by kernel_rfl) (fun _ _ _ h => h) rfl ?_ (by assumption) ?_
  rotate_left
  · (intro w hSw; (try dsimp only at hSw); go_simp; try with_reducible rfl)
  try simp only [Act.put, List.setIfInBounds_toArray, List.set_cons_zero, List.set_cons_succ]
  refine hm_take (i := 5) (v := ?_) rfl rfl (by kernel_rfl) (by kernel_rfl) (by kernel_rfl) (fun _ _ _ h => h) rfl ?_ (by assumption) ?_
  rotate_left
  · (intro w hSw; (try dsimp only at hSw); go_simp; try with_reducible rfl)
  try simp only [Act.put, List.setIfInBounds_toArray, List.set_cons_zero, List.set_cons_succ]
  refine hm_call (i := 4) rfl (by kernel_rfl) rfl (fun K hK => ?_)
  go_simp
  (go_at_call 70; refine (rd64_any _ _ _ _ (seg l 5 8) _ n1 (by omega) (BytesAt.bel hB1 (bel_drew (bel_refl _)))).mono ?_; rintro e w1 ⟨rfl, hb1⟩; have HH := H.drew.grow hb1; obtain ⟨y0, y1, y2, y3⟩ := HH.atz hz; obtain ⟨x0, x1, x2, x3⟩ := HH.frz fz hb)
  (try go_wp2_with fail)
  refine hK.out _ _ (by (try dsimp only); all_goals exact trivial) (fun hHeld => ?_)
  clear hK K
  try simp only [Act.put, List.setIfInBounds_toArray, List.set_cons_zero, List.set_cons_succ]
  refine hm_take (i := 6) (v := ?_) rfl rfl (by kernel_rfl) (by kernel_rfl) (by kernel_rfl) (fun _ _ _ h => h) rfl ?_ (by assumption) ?_
  rotate_left
  · (intro w hSw; (try dsimp only at hSw); go_simp; try with_reducible rfl)
  try simp only [Act.put, List.setIfInBounds_toArray, List.set_cons_zero, List.set_cons_succ]
  refine hm_call (i := 7) rfl (by kernel_rfl) rfl (fun K hK => ?_)
  (go_simp)
  refine hK.out _ _ (by (try dsimp only); all_goals exact trivial) (fun hHeld => ?_)
  clear hK K
  try simp only [Act.put, List.setIfInBounds_toArray, List.set_cons_zero, List.set_cons_succ]
  refine wpAnyH_done (by kernel_rfl) ?_ _
  refine NoPanic.normal ?_
  have H2 : Left w b o (N4.setW (N4.setW (N4.setW z 3 0#64) 2 (BitVec.ofNat 64 (Lib.beNat (seg l 0 5)))) 1 (BitVec.ofNat 64 (Lib.beNat (seg l 5 8)))) (World.setCell w1 ⟨b, o + 1, none⟩ (.int .u64 ((Lib.beNat (seg l 5 8) : Nat) : Int))) := by
    rw [← U_ofNat _ (by omega)]
    exact (HH.one 1 (by omega) _)
  clear H hB1 HH y0 y1 y2 y3 x0 x1 x2 x3 hb1
  revert H2
  generalize World.setCell _ _ _ = W1
  intro H
  go_wp2
  have hB1 : BytesAt _ g (q + 13) (seg l 13 8) := (H.bytes hB hne).cut 13 8
  refine wp_region_noPanic ?_
  refine wp_region_held_drew (S := (fun _ => True)) (by kernel_rfl) (by all_goals exact trivial) (fun hHeld => ?_)
  refine hm_take (i := 0) (v := ?_) rfl rfl (by kernel_rfl) (by kernel_rfl) (by kernel_rfl) (fun _ _ _ h => h) rfl ?_ (by assumption) ?_
  rotate_left
  · (intro w hSw; (try dsimp only at hSw); go_simp; try with_reducible rfl)
  try simp only [Act.put, List.setIfInBounds_toArray, List.set_cons_zero, List.set_cons_succ]
  refine hm_take (i := 1) (v := ?_) rfl rfl (by kernel_rfl) (by kernel_rfl) (by kernel_rfl) (fun _ _ _ h => h) rfl ?_ (by assumption) ?_
  rotate_left
  · (intro w hSw; (try dsimp only at hSw); go_simp; try with_reducible rfl)
  try simp only [Act.put, List.setIfInBounds_toArray, List.set_cons_zero, List.set_cons_succ]
  refine hm_take (i := 2) (v := ?_) rfl rfl (by kernel_rfl) (by kernel_rfl) (by kernel_rfl) (fun _ _ _ h => h) rfl ?_ (by assumption) ?_
  rotate_left
  · (intro w hSw; (try dsimp only at hSw); go_simp; try with_reducible rfl)
  try simp only [Act.put, List.setIfInBounds_toArray, List.set_cons_zero, List.set_cons_succ]
  refine hm_take (i := 3) (v := ?_) rfl rfl (by kernel_rfl) (by kernel_rfl) (by kernel_rfl) (fun _ _ _ h => h) rfl ?_ (by assumption) ?_
  rotate_left
  · (intro w hSw; (try dsimp only at hSw); go_simp; try with_reducible rfl)
  try simp only [Act.put, List.setIfInBounds_toArray, List.set_cons_zero, List.set_cons_succ]
  refine hm_take (i := 5) (v := ?_) rfl rfl (by kernel_rfl) (by kernel_rfl) (by kernel_rfl) (fun _ _ _ h => h) rfl ?_ (by assumption) ?_
  rotate_left
  · (intro w hSw; (try dsimp only at hSw); go_simp; try with_reducible rfl)
  try simp only [Act.put, List.setIfInBounds_toArray, List.set_cons_zero, List.set_cons_succ]
  refine hm_call (i := 4) rfl (by kernel_rfl) rfl (fun K hK => ?_)
  go_simp
  (go_at_call 70; refine (rd64_any _ _ _ _ (seg l 13 8) _ n0 (by omega) (BytesAt.bel hB1 (bel_drew (bel_refl _)))).mono ?_; rintro e w1 ⟨rfl, hb1⟩; have HH := H.drew.grow hb1; obtain ⟨y0, y1, y2, y3⟩ := HH.atz hz; obtain ⟨x0, x1, x2, x3⟩ := HH.frz fz hb)
  (try go_wp2_with fail)
  refine hK.out _ _ (by (try dsimp only); all_goals exact trivial) (fun hHeld => ?_)
  clear hK K
  try simp only [Act.put, List.setIfInBounds_toArray, List.set_cons_zero, List.set_cons_succ]
  refine hm_take (i := 6) (v := ?_) rfl rfl (by kernel_rfl) (by kernel_rfl) (by kernel_rfl) (fun _ _ _ h => h) rfl ?_ (by assumption) ?_
  rotate_left
  · (intro w hSw; (try dsimp only at hSw); go_simp; try with_reducible rfl)
  try simp only [Act.put, List.setIfInBounds_toArray, List.set_cons_zero, List.set_cons_succ]
  refine hm_call (i := 7) rfl (by kernel_rfl) rfl (fun K hK => ?_)
  (go_simp)
  refine hK.out _ _ (by (try dsimp only); all_goals exact trivial) (fun hHeld => ?_)
  clear hK K
  try simp only [Act.put, List.setIfInBounds_toArray, List.set_cons_zero, List.set_cons_succ]
  refine wpAnyH_done (by kernel_rfl) ?_ _
  refine NoPanic.normal ?_
  have H2 : Left w b o (N4.setW (N4.setW (N4.setW (N4.setW z 3 0#64) 2 (BitVec.ofNat 64 (Lib.beNat (seg l 0 5)))) 1 (BitVec.ofNat 64 (Lib.beNat (seg l 5 8)))) 0 (BitVec.ofNat 64 (Lib.beNat (seg l 13 8)))) (World.setCell w1 ⟨b, o, none⟩ (.int .u64 ((Lib.beNat (seg l 13 8) : Nat) : Int))) := by
    rw [← U_ofNat _ (by omega)]
    exact (HH.one 0 (by omega) _)
  clear H hB1 HH y0 y1 y2 y3 x0 x1 x2 x3 hb1
  revert H2
  generalize World.setCell _ _ _ = W1
  intro H
  go_wp2
  go_ret
  refine ⟨rfl, ?_⟩
  have e : (N4.setW (N4.setW (N4.setW (N4.setW z 3 0#64) 2 (BitVec.ofNat 64 (Lib.beNat (seg l 0 5)))) 1 (BitVec.ofNat 64 (Lib.beNat (seg l 5 8)))) 0 (BitVec.ofNat 64 (Lib.beNat (seg l 13 8)))) = ofN (Lib.beNat (l.take 21)) := by
    apply eq_ofN
    rw [HV.out]
    simp only [N4.setW, N4.toNat, if_true, if_false, reduceIte, BitVec.toNat_ofNat, show ¬ (2 : Nat) = 0 by omega, show ¬ (3 : Nat) = 0 by omega, show ¬ (1 : Nat) = 0 by omega, show ¬ (2 : Nat) = 1 by omega, show ¬ (3 : Nat) = 1 by omega, show ¬ (3 : Nat) = 2 by omega]
    omega
  rw [← e]
  exact H
set_option maxHeartbeats 4000000 in
theorem set22_any (b o : Nat) (z : N4) (g q n cap : Nat) (l : List UInt8) (w : World) (hz : At4 w b o z) (fz : Free4 w b o) (hB : BytesAt w g q l) (hl : l.length = n) (hN : 22 ≤ n) (hcap : n ≤ cap) (hne : g ≠ b) :
    Calls Tryf.prog 49 #[.pointer (some ⟨b, o, none⟩), .slice (some ⟨g, q, none⟩) n cap] w (RetLeft b o (ofN (Lib.beNat (l.take 22))) w) := by
  have hb := hz.lt
  have H := Left.start hz
  have k0 : ¬ cap = 0 := by omega
  have c6 : (6 : Int) ≤ (cap : Int) := by omega
  have n2 : (seg l 0 6).length = 6 := by rw [seg_len]; omega
  have L2 := beNat_lt (seg l 0 6)
  rw [n2] at L2
  have k6 : ¬ cap = 6 := by omega
  have c14 : (14 : Int) ≤ (cap : Int) := by omega
  have n1 : (seg l 6 8).length = 8 := by rw [seg_len]; omega
  have L1 := beNat_lt (seg l 6 8)
  rw [n1] at L1
  have k14 : ¬ cap = 14 := by omega
  have c22 : (22 : Int) ≤ (cap : Int) := by omega
  have n0 : (seg l 14 8).length = 8 := by rw [seg_len]; omega
  have L0 := beNat_lt (seg l 14 8)
  rw [n0] at L0
  obtain ⟨u, hu⟩ : ∃ u, l[21]? = some u := ⟨_, List.getElem?_eq_getElem (by omega)⟩
  have hc0 := hB 21 u hu
  have hp0 : (21 : Int) < (n : Int) := by omega
  clear hu
  have HV : Hid (Lib.beNat (l.take 22) = Lib.beNat (seg l 14 8) + 2 ^ 64 * Lib.beNat (seg l 6 8) + 2 ^ 128 * Lib.beNat (seg l 0 6)) := by
    show _ = _
    rw [show l.take 22 = l.take 14 ++ seg l 14 8 from take_split l 14 8, beNat_append, n0]
    rw [show l.take 14 = l.take 6 ++ seg l 6 8 from take_split l 6 8, beNat_append, n1]
    rw [← seg_zero]
    omega
  obtain ⟨z0, z1, z2, z3⟩ := hz
  obtain ⟨f0, f1, f2, f3⟩ := fz
  have hz : At4 w b o z := ⟨z0, z1, z2, z3⟩
  have fz : Free4 w b o := ⟨f0, f1, f2, f3⟩
  go_enter Tryf.func49, Tryf.ntmps49
  go_wp2
  have H2 : Left w b o (N4.setW z 3 0#64) (World.setCell w ⟨b, o + 3, none⟩ (.int .u64 0)) := (Left.one H 3 (by omega) 0#64)
  clear H z0 z1 z2 z3 f0 f1 f2 f3 hc0
  revert H2
  generalize (World.setCell w ⟨b, o + 3, none⟩ (.int .u64 0)) = W1
  intro H
  have hne2 : ¬ b = g := fun e => hne e.symm
  have hB1 : BytesAt _ g q (seg l 0 6) := (H.bytes hB hne).cut 0 6
  refine wp_region_noPanic ?_
  refine wp_region_held_drew (S := (fun _ => True)) (by kernel_rfl) (by all_goals exact trivial) (fun hHeld => ?_)
  refine hm_take (i := 0) (v := ?_) rfl rfl (by kernel_rfl) (by kernel_rfl) (by kernel_rfl) (fun _ _ _ h => h) rfl ?_ (by assumption) ?_
  rotate_left
  · (intro w hSw; (try dsimp only at hSw); go_simp; try with_reducible rfl)
  try simp only [Act.put, List.setIfInBounds_toArray, List.set_cons_zero, List.set_cons_succ]
  refine hm_take (i := 1) (v := ?_) rfl rfl (by kernel_rfl) (by kernel_rfl) (by kernel_rfl) (fun _ _ _ h => h) rfl ?_ (by assumption) ?_
  rotate_left
  · (intro w hSw; (try dsimp only at hSw); go_simp; try with_reducible rfl)
  try simp only [Act.put, List.setIfInBounds_toArray, List.set_cons_zero, List.set_cons_succ]
  refine hm_take (i := 2) (v := ?_) rfl rfl (by kernel_rfl) (by kernel_rfl) (by kernel_rfl) (fun _ _ _ h => h) rfl ?_ (by assumption) ?_
  rotate_left
  · (intro w hSw; (try dsimp only at hSw); go_simp; try with_reducible rfl)
  try simp only [Act.put, List.setIfInBounds_toArray, List.set_cons_zero, List.set_cons_succ]
  refine hm_take (i := 4) (v := ?_) rfl rfl (by kernel_rfl) (by kernel_rfl) (by kernel_rfl) (fun _ _ _ h => h) rfl ?_ (by assumption) ?_
  rotate_left
  · (intro w hSw; (try dsimp only at hSw); go_simp; try with_reducible rfl)
  try simp only [Act.put, List.setIfInBounds_toArray, List.set_cons_zero, List.set_cons_succ]
  refine hm_call (i := 3) rfl (by kernel_rfl) rfl (fun K hK => ?_)
  go_simp
  (go_at_call 68; refine (rd48_any _ _ _ _ (seg l 0 6) _ n2 (by omega) (BytesAt.bel hB1 (bel_drew (bel_refl _)))).mono ?_; rintro e w1 ⟨rfl, hb1⟩; have HH := H.drew.grow hb1; obtain ⟨y0, y1, y2, y3⟩ := HH.atz hz; obtain ⟨x0, x1, x2, x3⟩ := HH.frz fz hb)
  (try go_wp2_with fail)
  refine hK.out _ _ (by (try dsimp only); all_goals exact trivial) (fun hHeld => ?_)
  clear hK K
  try simp only [Act.put, List.setIfInBounds_toArray, List.set_cons_zero, List.set_cons_succ]
  refine hm_take (i := 5) (v := ?_) rfl rfl (by kernel_rfl) (by kernel_rfl) (by kernel_rfl) (fun _ _ _ h => h) rfl ?_ (by assumption) ?_
  rotate_left
  · (intro w hSw; (try dsimp only at hSw); go_simp; try with_reducible rfl)
  try simp only [Act.put, List.setIfInBounds_toArray, List.set_cons_zero, List.set_cons_succ]
  refine hm_call (i := 6) rfl (by kernel_rfl) rfl (fun K hK => ?_)
  (go_simp)
  refine hK.out _ _ (by (try dsimp only); all_goals exact trivial) (fun hHeld => ?_)
  clear hK K
  try simp only [Act.put, List.setIfInBounds_toArray, List.set_cons_zero, List.set_cons_succ]
  refine wpAnyH_done (by kernel_rfl) ?_ _
  refine NoPanic.normal ?_
  have H2 : Left w b o (N4.setW (N4.setW z 3 0#64) 2 (BitVec.ofNat 64 (Lib.beNat (seg l 0 6)))) (World.setCell w1 ⟨b, o + 2, none⟩ (.int .u64 ((Lib.beNat (seg l 0 6) : Nat) : Int))) := by
    rw [← U_ofNat _ (by omega)]
    exact (HH.one 2 (by omega) _)
  clear H hB1 HH y0 y1 y2 y3 x0 x1 x2 x3 hb1
  revert H2
  generalize World.setCell _ _ _ = W1
  intro H
  go_wp2
  have hB1 : BytesAt _ g (q + 6) (seg l 6 8) := (H.bytes hB hne).cut 6 8
  refine wp_region_noPanic ?_
  refine wp_region_held_drew (S := (fun _ => True)) (by kernel_rfl) (by all_goals exact trivial) (fun hHeld => ?_)
  refine hm_take (i := 0) (v := ?_) rfl rfl (by kernel_rfl) (by kernel_rfl) (by kernel_rfl) (fun _ _ _ h => h) rfl ?_ (by assumption) ?_
  rotate_left
  · (intro w hSw; (try dsimp only at hSw); go_simp; try with_reducible rfl)
  try simp only [Act.put, List.setIfInBounds_toArray, List.set_cons_zero, List.set_cons_succ]
  refine hm_take (i := 1) (v := ?_) rfl rfl (by kernel_rfl) (by kernel_rfl) (by kernel_rfl) (fun _ _ _ h => h) rfl ?_ (by assumption) ?_
  rotate_left
  · (intro w hSw; (try dsimp only at hSw); go_simp; try with_reducible rfl)
  try simp only [Act.put, List.setIfInBounds_toArray, List.set_cons_zero, List.set_cons_succ]
  refine hm_take (i := 2) (v := ?_) rfl rfl (by kernel_rfl) (by kernel_rfl) (by kernel_rfl) (fun _ _ _ h => h) rfl ?_ (by assumption) ?_
  rotate_left
  · (intro w hSw; (try dsimp only at hSw); go_simp; try with_reducible rfl)
  try simp only [Act.put, List.setIfInBounds_toArray, List.set_cons_zero, List.set_cons_succ]
  refine hm_take (i := 3) (v := ?_) rfl rfl (by kernel_rfl) (by kernel_rfl) (by kernel_rfl) (fun _ _ _ h => h) rfl ?_ (by assumption) ?_
  rotate_left
  · (intro w hSw; (try dsimp only at hSw); go_simp; try with_reducible rfl)
  try simp only [Act.put, List.setIfInBounds_toArray, List.set_cons_zero, List.set_cons_succ]
  refine hm_take (i := 5) (v := ?_) rfl rfl (by kernel_rfl) (by kernel_rfl) (by kernel_rfl) (fun _ _ _ h => h) rfl ?_ (by assumption) ?_
  rotate_left
  · (intro w hSw; (try dsimp only at hSw); go_simp; try with_reducible rfl)
  try simp only [Act.put, List.setIfInBounds_toArray, List.set_cons_zero, List.set_cons_succ]
  refine hm_call (i := 4) rfl (by kernel_rfl) rfl (fun K hK => ?_)
  go_simp
  (go_at_call 70; refine (rd64_any _ _ _ _ (seg l 6 8) _ n1 (by omega) (BytesAt.bel hB1 (bel_drew (bel_refl _)))).mono ?_; rintro e w1 ⟨rfl, hb1⟩; have HH := H.drew.grow hb1; obtain ⟨y0, y1, y2, y3⟩ := HH.atz hz; obtain ⟨x0, x1, x2, x3⟩ := HH.frz fz hb)
  (try go_wp2_with fail)
  refine hK.out _ _ (by (try dsimp only); all_goals exact trivial) (fun hHeld => ?_)
  clear hK K
  try simp only [Act.put, List.setIfInBounds_toArray, List.set_cons_zero, List.set_cons_succ]
  refine hm_take (i := 6) (v := ?_) rfl rfl (by kernel_rfl) (by kernel_rfl) (by kernel_rfl) (fun _ _ _ h => h) rfl ?_ (by assumption) ?_
  rotate_left
  · (intro w hSw; (try dsimp only at hSw); go_simp; try with_reducible rfl)
  try simp only [Act.put, List.setIfInBounds_toArray, List.set_cons_zero, List.set_cons_succ]
  refine hm_call (i := 7) rfl (by kernel_rfl) rfl (fun K hK => ?_)
  (go_simp)
  refine hK.out _ _ (by (try dsimp only); all_goals exact trivial) (fun hHeld => ?_)
  clear hK K
  try simp only [Act.put, List.setIfInBounds_toArray, List.set_cons_zero, List.set_cons_succ]
  refine wpAnyH_done (by kernel_rfl) ?_ _
  refine NoPanic.normal ?_
  have H2 : Left w b o (N4.setW (N4.setW (N4.setW z 3 0#64) 2 (BitVec.ofNat 64 (Lib.beNat (seg l 0 6)))) 1 (BitVec.ofNat 64 (Lib.beNat (seg l 6 8)))) (World.setCell w1 ⟨b, o + 1, none⟩ (.int .u64 ((Lib.beNat (seg l 6 8) : Nat) : Int))) := by
    rw [← U_ofNat _ (by omega)]
    exact (HH.one 1 (by omega) _)
  clear H hB1 HH y0 y1 y2 y3 x0 x1 x2 x3 hb1
  revert H2
  generalize World.setCell _ _ _ = W1
  intro H
  go_wp2
  have hB1 : BytesAt _ g (q + 14) (seg l 14 8) := (H.bytes hB hne).cut 14 8
  refine wp_region_noPanic ?_
  refine wp_region_held_drew (S := (fun _ => True)) (by kernel_rfl) (by all_goals exact trivial) (fun hHeld => ?_)
  refine hm_take (i := 0) (v := ?_) rfl rfl (by kernel_rfl) (by kernel_rfl) (by kernel_rfl) (fun _ _ _ h => h) rfl ?_ (by assumption) ?_
  rotate_left
  · (intro w hSw; (try dsimp only at hSw); go_simp; try with_reducible rfl)
  try simp only [Act.put, List.setIfInBounds_toArray, List.set_cons_zero, List.set_cons_succ]
  refine hm_take (i := 1) (v := ?_) rfl rfl (by kernel_rfl) (by kernel_rfl) (by kernel_rfl) (fun _ _ _ h => h) rfl ?_ (by assumption) ?_
  rotate_left
  · (intro w hSw; (try dsimp only at hSw); go_simp; try with_reducible rfl)
  try simp only [Act.put, List.setIfInBounds_toArray, List.set_cons_zero, List.set_cons_succ]
  refine hm_take (i := 2) (v := ?_) rfl rfl (by kernel_rfl) (by kernel_rfl) (by kernel_rfl) (fun _ _ _ h => h) rfl ?_ (by assumption) ?_
  rotate_left
  · (intro w hSw; (try dsimp only at hSw); go_simp; try with_reducible rfl)
  try simp only [Act.put, List.setIfInBounds_toArray, List.set_cons_zero, List.set_cons_succ]
  refine hm_take (i := 3) (v := ?_) rfl rfl (by kernel_rfl) (by kernel_rfl) (by kernel_rfl) (fun _ _ _ h => h) rfl ?_ (by assumption) ?_
  rotate_left
  · (intro w hSw; (try dsimp only at hSw); go_simp; try with_reducible rfl)
  try simp only [Act.put, List.setIfInBounds_toArray, List.set_cons_zero, List.set_cons_succ]
  refine hm_take (i := 5) (v := ?_) rfl rfl (by kernel_rfl) (by kernel_rfl) (by kernel_rfl) (fun _ _ _ h => h) rfl ?_ (by assumption) ?_
  rotate_left
  · (intro w hSw; (try dsimp only at hSw); go_simp; try with_reducible rfl)
  try simp only [Act.put, List.setIfInBounds_toArray, List.set_cons_zero, List.set_cons_succ]
  refine hm_call (i := 4) rfl (by kernel_rfl) rfl (fun K hK => ?_)
  go_simp
  (go_at_call 70; refine (rd64_any _ _ _ _ (seg l 14 8) _ n0 (by omega) (BytesAt.bel hB1 (bel_drew (bel_refl _)))).mono ?_; rintro e w1 ⟨rfl, hb1⟩; have HH := H.drew.grow hb1; obtain ⟨y0, y1, y2, y3⟩ := HH.atz hz; obtain ⟨x0, x1, x2, x3⟩ := HH.frz fz hb)
  (try go_wp2_with fail)
  refine hK.out _ _ (by (try dsimp only); all_goals exact trivial) (fun hHeld => ?_)
  clear hK K
  try simp only [Act.put, List.setIfInBounds_toArray, List.set_cons_zero, List.set_cons_succ]
  refine hm_take (i := 6) (v := ?_) rfl rfl (by kernel_rfl) (by kernel_rfl) (by kernel_rfl) (fun _ _ _ h => h) rfl ?_ (by assumption) ?_
  rotate_left
  · (intro w hSw; (try dsimp only at hSw); go_simp; try with_reducible rfl)
  try simp only [Act.put, List.setIfInBounds_toArray, List.set_cons_zero, List.set_cons_succ]
  refine hm_call (i := 7) rfl (by kernel_rfl) rfl (fun K hK => ?_)
  (go_simp)
  refine hK.out _ _ (by (try dsimp only); all_goals exact trivial) (fun hHeld => ?_)
  clear hK K
  try simp only [Act.put, List.setIfInBounds_toArray, List.set_cons_zero, List.set_cons_succ]
  refine wpAnyH_done (by kernel_rfl) ?_ _
  refine NoPanic.normal ?_
  have H2 : Left w b o (N4.setW (N4.setW (N4.setW (N4.setW z 3 0#64) 2 (BitVec.ofNat 64 (Lib.beNat (seg l 0 6)))) 1 (BitVec.ofNat 64 (Lib.beNat (seg l 6 8)))) 0 (BitVec.ofNat 64 (Lib.beNat (seg l 14 8)))) (World.setCell w1 ⟨b, o, none⟩ (.int .u64 ((Lib.beNat (seg l 14 8) : Nat) : Int))) := by
    rw [← U_ofNat _ (by omega)]
    exact (HH.one 0 (by omega) _)
  clear H hB1 HH y0 y1 y2 y3 x0 x1 x2 x3 hb1
  revert H2
  generalize World.setCell _ _ _ = W1
  intro H
  go_wp2
  go_ret
  refine ⟨rfl, ?_⟩
  have e : (N4.setW (N4.setW (N4.setW (N4.setW z 3 0#64) 2 (BitVec.ofNat 64 (Lib.beNat (seg l 0 6)))) 1 (BitVec.ofNat 64 (Lib.beNat (seg l 6 8)))) 0 (BitVec.ofNat 64 (Lib.beNat (seg l 14 8)))) = ofN (Lib.beNat (l.take 22)) := by
    apply eq_ofN
    rw [HV.out]
    simp only [N4.setW, N4.toNat, if_true, if_false, reduceIte, BitVec.toNat_ofNat, show ¬ (2 : Nat) = 0 by omega, show ¬ (3 : Nat) = 0 by omega, show ¬ (1 : Nat) = 0 by omega, show ¬ (2 : Nat) = 1 by omega, show ¬ (3 : Nat) = 1 by omega, show ¬ (3 : Nat) = 2 by omega]
    omega
  rw [← e]
  exact H
set_option maxHeartbeats 4000000 in
theorem set23_any (b o : Nat) (z : N4) (g q n cap : Nat) (l : List UInt8) (w : World) (hz : At4 w b o z) (fz : Free4 w b o) (hB : BytesAt w g q l) (hl : l.length = n) (hN : 23 ≤ n) (hcap : n ≤ cap) (hne : g ≠ b) :
    Calls Tryf.prog 50 #[.pointer (some ⟨b, o, none⟩), .slice (some ⟨g, q, none⟩) n cap] w (RetLeft b o (ofN (Lib.beNat (l.take 23))) w) := by
  have hb := hz.lt
  have H := Left.start hz
  have k0 : ¬ cap = 0 := by omega
  have c7 : (7 : Int) ≤ (cap : Int) := by omega
  have n2 : (seg l 0 7).length = 7 := by rw [seg_len]; omega
  have L2 := beNat_lt (seg l 0 7)
  rw [n2] at L2
  have k7 : ¬ cap = 7 := by omega
  have c15 : (15 : Int) ≤ (cap : Int) := by omega
  have n1 : (seg l 7 8).length = 8 := by rw [seg_len]; omega
  have L1 := beNat_lt (seg l 7 8)
  rw [n1] at L1
  have k15 : ¬ cap = 15 := by omega
  have c23 : (23 : Int) ≤ (cap : Int) := by omega
  have n0 : (seg l 15 8).length = 8 := by rw [seg_len]; omega
  have L0 := beNat_lt (seg l 15 8)
  rw [n0] at L0
  obtain ⟨u, hu⟩ : ∃ u, l[22]? = some u := ⟨_, List.getElem?_eq_getElem (by omega)⟩
  have hc0 := hB 22 u hu
  have hp0 : (22 : Int) < (n : Int) := by omega
  clear hu
  have HV : Hid (Lib.beNat (l.take 23) = Lib.beNat (seg l 15 8) + 2 ^ 64 * Lib.beNat (seg l 7 8) + 2 ^ 128 * Lib.beNat (seg l 0 7)) := by
    show _ = _
    rw [show l.take 23 = l.take 15 ++ seg l 15 8 from take_split l 15 8, beNat_append, n0]
    rw [show l.take 15 = l.take 7 ++ seg l 7 8 from take_split l 7 8, beNat_append, n1]
    rw [← seg_zero]
    omega
  obtain ⟨z0, z1, z2, z3⟩ := hz
  obtain ⟨f0, f1, f2, f3⟩ := fz
  have hz : At4 w b o z := ⟨z0, z1, z2, z3⟩
  have fz : Free4 w b o := ⟨f0, f1, f2, f3⟩
  go_enter Tryf.func50, Tryf.ntmps50
  go_wp2
  have H2 : Left w b o (N4.setW z 3 0#64) (World.setCell w ⟨b, o + 3, none⟩ (.int .u64 0)) := (Left.one H 3 (by omega) 0#64)
  clear H z0 z1 z2 z3 f0 f1 f2 f3 hc0
  revert H2
  generalize (World.setCell w ⟨b, o + 3, none⟩ (.int .u64 0)) = W1
  intro H
  have hne2 : ¬ b = g := fun e => hne e.symm
  have hB1 : BytesAt _ g q (seg l 0 7) := (H.bytes hB hne).cut 0 7
  refine wp_region_noPanic ?_
  refine wp_region_held_drew (S := (fun _ => True)) (by kernel_rfl) (by all_goals exact trivial) (fun hHeld => ?_)
  refine hm_take (i := 0) (v := ?_) rfl rfl (by kernel_rfl) (by kernel_rfl) (by kernel_rfl) (fun _ _ _ h => h) rfl ?_ (by assumption) ?_
  rotate_left
  · (intro w hSw; (try dsimp only at hSw); go_simp; try with_reducible rfl)
  try simp only [Act.put, List.setIfInBounds_toArray, List.set_cons_zero, List.set_cons_succ]
  refine hm_take (i := 1) (v := ?_) rfl rfl (by kernel_rfl) (by kernel_rfl) (by kernel_rfl) (fun _ _ _ h => h) rfl ?_ (by assumption) ?_
  rotate_left
  · (intro w hSw; (try dsimp only at hSw); go_simp; try with_reducible rfl)
  try simp only [Act.put, List.setIfInBounds_toArray, List.set_cons_zero, List.set_cons_succ]
  refine hm_take (i := 2) (v := ?_) rfl rfl (by kernel_rfl) (by kernel_rfl) (by kernel_rfl) (fun _ _ _ h => h) rfl ?_ (by assumption) ?_
  rotate_left
  · (intro w hSw; (try dsimp only at hSw); go_simp; try with_reducible rfl)
  try simp only [Act.put, List.setIfInBounds_toArray, List.set_cons_zero, List.set_cons_succ]
  refine hm_take (i := 4) (v := ?_) rfl rfl (by kernel_rfl) (by kernel_rfl) (by kernel_rfl) (fun _ _ _ h => h) rfl ?_ (by assumption) ?_
  rotate_left
  · (intro w hSw; (try dsimp only at hSw); go_simp; try with_reducible rfl)
  try simp only [Act.put, List.setIfInBounds_toArray, List.set_cons_zero, List.set_cons_succ]
  refine hm_call (i := 3) rfl (by kernel_rfl) rfl (fun K hK => ?_)
  go_simp
  (go_at_call 69; refine (rd56_any _ _ _ _ (seg l 0 7) _ n2 (by omega) (BytesAt.bel hB1 (bel_drew (bel_refl _)))).mono ?_; rintro e w1 ⟨rfl, hb1⟩; have HH := H.drew.grow hb1; obtain ⟨y0, y1, y2, y3⟩ := HH.atz hz; obtain ⟨x0, x1, x2, x3⟩ := HH.frz fz hb)
  (try go_wp2_with fail)
  refine hK.out _ _ (by (try dsimp only); all_goals exact trivial) (fun hHeld => ?_)
  clear hK K
  try simp only [Act.put, List.setIfInBounds_toArray, List.set_cons_zero, List.set_cons_succ]
  refine hm_take (i := 5) (v := ?_) rfl rfl (by kernel_rfl) (by kernel_rfl) (by kernel_rfl) (fun _ _ _ h => h) rfl ?_ (by assumption) ?_
  rotate_left
  · (intro w hSw; (try dsimp only at hSw); go_simp; try with_reducible rfl)
  try simp only [Act.put, List.setIfInBounds_toArray, List.set_cons_zero, List.set_cons_succ]
  refine hm_call (i := 6) rfl (by kernel_rfl) rfl (fun K hK => ?_)
  (go_simp)
  refine hK.out _ _ (by (try dsimp only); all_goals exact trivial) (fun hHeld => ?_)
  clear hK K
  try simp only [Act.put, List.setIfInBounds_toArray, List.set_cons_zero, List.set_cons_succ]
  refine wpAnyH_done (by kernel_rfl) ?_ _
  refine NoPanic.normal ?_
  have H2 : Left w b o (N4.setW (N4.setW z 3 0#64) 2 (BitVec.ofNat 64 (Lib.beNat (seg l 0 7)))) (World.setCell w1 ⟨b, o + 2, none⟩ (.int .u64 ((Lib.beNat (seg l 0 7) : Nat) : Int))) := by
    rw [← U_ofNat _ (by omega)]
    exact (HH.one 2 (by omega) _)
  clear H hB1 HH y0 y1 y2 y3 x0 x1 x2 x3 hb1
  revert H2
  generalize World.setCell _ _ _ = W1
  intro H
  go_wp2
  have hB1 : BytesAt _ g (q + 7) (seg l 7 8) := (H.bytes hB hne).cut 7 8
  refine wp_region_noPanic ?_
  refine wp_region_held_drew (S := (fun _ => True)) (by kernel_rfl) (by all_goals exact trivial) (fun hHeld => ?_)
  refine hm_take (i := 0) (v := ?_) rfl rfl (by kernel_rfl) (by kernel_rfl) (by kernel_rfl) (fun _ _ _ h => h) rfl ?_ (by assumption) ?_
  rotate_left
  · (intro w hSw; (try dsimp only at hSw); go_simp; try with_reducible rfl)
  try simp only [Act.put, List.setIfInBounds_toArray, List.set_cons_zero, List.set_cons_succ]
  refine hm_take (i := 1) (v := ?_) rfl rfl (by kernel_rfl) (by kernel_rfl) (by kernel_rfl) (fun _ _ _ h => h) rfl ?_ (by assumption) ?_
  rotate_left
  · (intro w hSw; (try dsimp only at hSw); go_simp; try with_reducible rfl)
  try simp only [Act.put, List.setIfInBounds_toArray, List.set_cons_zero, List.set_cons_succ]
  refine hm_take (i := 2) (v := ?_) rfl rfl (by kernel_rfl) (by kernel_rfl) (by kernel_rfl) (fun _ _ _ h => h) rfl ?_ (by assumption) ?_
  rotate_left
  · (intro w hSw; (try dsimp only at hSw); go_simp; try with_reducible rfl)
  try simp only [Act.put, List.setIfInBounds_toArray, List.set_cons_zero, List.set_cons_succ]
  refine hm_take (i := 3) (v := ?_) rfl rfl (by kernel_rfl) (by kernel_rfl) (by kernel_rfl) (fun _ _ _ h => h) rfl ?_ (by assumption) ?_
  rotate_left
  · (intro w hSw; (try dsimp only at hSw); go_simp; try with_reducible rfl)
  try simp only [Act.put, List.setIfInBounds_toArray, List.set_cons_zero, List.set_cons_succ]
  refine hm_take (i := 5) (v := ?_) rfl rfl (by kernel_rfl) (by kernel_rfl) (by kernel_rfl) (fun _ _ _ h => h) rfl ?_ (by assumption) ?_
  rotate_left
  · (intro w hSw; (try dsimp only at hSw); go_simp; try with_reducible rfl)
  try simp only [Act.put, List.setIfInBounds_toArray, List.set_cons_zero, List.set_cons_succ]
  refine hm_call (i := 4) rfl (by kernel_rfl) rfl (fun K hK => ?_)
  go_simp
  (go_at_call 70; refine (rd64_any _ _ _ _ (seg l 7 8) _ n1 (by omega) (BytesAt.bel hB1 (bel_drew (bel_refl _)))).mono ?_; rintro e w1 ⟨rfl, hb1⟩; have HH := H.drew.grow hb1; obtain ⟨y0, y1, y2, y3⟩ := HH.atz hz; obtain ⟨x0, x1, x2, x3⟩ := HH.frz fz hb)
  (try go_wp2_with fail)
  refine hK.out _ _ (by (try dsimp only); all_goals exact trivial) (fun hHeld => ?_)
  clear hK K
  try simp only [Act.put, List.setIfInBounds_toArray, List.set_cons_zero, List.set_cons_succ]
  refine hm_take (i := 6) (v := ?_) rfl rfl (by kernel_rfl) (by kernel_rfl) (by kernel_rfl) (fun _ _ _ h => h) rfl ?_ (by assumption) ?_
  rotate_left
  · (intro w hSw; (try dsimp only at hSw); go_simp; try with_reducible rfl)
  try simp only [Act.put, List.setIfInBounds_toArray, List.set_cons_zero, List.set_cons_succ]
  refine hm_call (i := 7) rfl (by kernel_rfl) rfl (fun K hK => ?_)
  (go_simp)
  refine hK.out _ _ (by (try dsimp only); all_goals exact trivial) (fun hHeld => ?_)
  clear hK K
  try simp only [Act.put, List.setIfInBounds_toArray, List.set_cons_zero, List.set_cons_succ]
  refine wpAnyH_done (by kernel_rfl) ?_ _
  refine NoPanic.normal ?_
  have H2 : Left w b o (N4.setW (N4.setW (N4.setW z 3 0#64) 2 (BitVec.ofNat 64 (Lib.beNat (seg l 0 7)))) 1 (BitVec.ofNat 64 (Lib.beNat (seg l 7 8)))) (World.setCell w1 ⟨b, o + 1, none⟩ (.int .u64 ((Lib.beNat (seg l 7 8) : Nat) : Int))) := by
    rw [← U_ofNat _ (by omega)]
    exact (HH.one 1 (by omega) _)
  clear H hB1 HH y0 y1 y2 y3 x0 x1 x2 x3 hb1
  revert H2
  generalize World.setCell _ _ _ = W1
  intro H
  go_wp2
  have hB1 : BytesAt _ g (q + 15) (seg l 15 8) := (H.bytes hB hne).cut 15 8
  refine wp_region_noPanic ?_
  refine wp_region_held_drew (S := (fun _ => True)) (by kernel_rfl) (by all_goals exact trivial) (fun hHeld => ?_)
  refine hm_take (i := 0) (v := ?_) rfl rfl (by kernel_rfl) (by kernel_rfl) (by kernel_rfl) (fun _ _ _ h => h) rfl ?_ (by assumption) ?_
  rotate_left
  · (intro w hSw; (try dsimp only at hSw); go_simp; try with_reducible rfl)
  try simp only [Act.put, List.setIfInBounds_toArray, List.set_cons_zero, List.set_cons_succ]
  refine hm_take (i := 1) (v := ?_) rfl rfl (by kernel_rfl) (by kernel_rfl) (by kernel_rfl) (fun _ _ _ h => h) rfl ?_ (by assumption) ?_
  rotate_left
  · (intro w hSw; (try dsimp only at hSw); go_simp; try with_reducible rfl)
  try simp only [Act.put, List.setIfInBounds_toArray, List.set_cons_zero, List.set_cons_succ]
  refine hm_take (i := 2) (v := ?_) rfl rfl (by kernel_rfl) (by kernel_rfl) (by kernel_rfl) (fun _ _ _ h => h) rfl ?_ (by assumption) ?_
  rotate_left
  · (intro w hSw; (try dsimp only at hSw); go_simp; try with_reducible rfl)
  try simp only [Act.put, List.setIfInBounds_toArray, List.set_cons_zero, List.set_cons_succ]
  refine hm_take (i := 3) (v := ?_) rfl rfl (by kernel_rfl) (by kernel_rfl) (by kernel_rfl) (fun _ _ _ h => h) rfl ?_ (by assumption) ?_
  rotate_left
  · (intro w hSw; (try dsimp only at hSw); go_simp; try with_reducible rfl)
  try simp only [Act.put, List.setIfInBounds_toArray, List.set_cons_zero, List.set_cons_succ]
  refine hm_take (i := 5) (v := ?_) rfl rfl (by kernel_rfl) (by kernel_rfl) (by kernel_rfl) (fun _ _ _ h => h) rfl ?_ (by assumption) ?_
  rotate_left
  · (intro w hSw; (try dsimp only at hSw); go_simp; try with_reducible rfl)
  try simp only [Act.put, List.setIfInBounds_toArray, List.set_cons_zero, List.set_cons_succ]
  refine hm_call (i := 4) rfl (by kernel_rfl) rfl (fun K hK => ?_)
  go_simp
  (go_at_call 70; refine (rd64_any _ _ _ _ (seg l 15 8) _ n0 (by omega) (BytesAt.bel hB1 (bel_drew (bel_refl _)))).mono ?_; rintro e w1 ⟨rfl, hb1⟩; have HH := H.drew.grow hb1; obtain ⟨y0, y1, y2, y3⟩ := HH.atz hz; obtain ⟨x0, x1, x2, x3⟩ := HH.frz fz hb)
  (try go_wp2_with fail)
  refine hK.out _ _ (by (try dsimp only); all_goals exact trivial) (fun hHeld => ?_)
  clear hK K
  try simp only [Act.put, List.setIfInBounds_toArray, List.set_cons_zero, List.set_cons_succ]
  refine hm_take (i := 6) (v := ?_) rfl rfl (by kernel_rfl) (by kernel_rfl) (by kernel_rfl) (fun _ _ _ h => h) rfl ?_ (by assumption) ?_
  rotate_left
  · (intro w hSw; (try dsimp only at hSw); go_simp; try with_reducible rfl)
  try simp only [Act.put, List.setIfInBounds_toArray, List.set_cons_zero, List.set_cons_succ]
  refine hm_call (i := 7) rfl (by kernel_rfl) rfl (fun K hK => ?_)
  (go_simp)
  refine hK.out _ _ (by (try dsimp only); all_goals exact trivial) (fun hHeld => ?_)
  clear hK K
  try simp only [Act.put, List.setIfInBounds_toArray, List.set_cons_zero, List.set_cons_succ]
  refine wpAnyH_done (by kernel_rfl) ?_ _
  refine NoPanic.normal ?_
  have H2 : Left w b o (N4.setW (N4.setW (N4.setW (N4.setW z 3 0#64) 2 (BitVec.ofNat 64 (Lib.beNat (seg l 0 7)))) 1 (BitVec.ofNat 64 (Lib.beNat (seg l 7 8)))) 0 (BitVec.ofNat 64 (Lib.beNat (seg l 15 8)))) (World.setCell w1 ⟨b, o, none⟩ (.int .u64 ((Lib.beNat (seg l 15 8) : Nat) : Int))) := by
    rw [← U_ofNat _ (by omega)]
    exact (HH.one 0 (by omega) _)
  clear H hB1 HH y0 y1 y2 y3 x0 x1 x2 x3 hb1
  revert H2
  generalize World.setCell _ _ _ = W1
  intro H
  go_wp2
  go_ret
  refine ⟨rfl, ?_⟩
  have e : (N4.setW (N4.setW (N4.setW (N4.setW z 3 0#64) 2 (BitVec.ofNat 64 (Lib.beNat (seg l 0 7)))) 1 (BitVec.ofNat 64 (Lib.beNat (seg l 7 8)))) 0 (BitVec.ofNat 64 (Lib.beNat (seg l 15 8)))) = ofN (Lib.beNat (l.take 23)) := by
    apply eq_ofN
    rw [HV.out]
    simp only [N4.setW, N4.toNat, if_true, if_false, reduceIte, BitVec.toNat_ofNat, show ¬ (2 : Nat) = 0 by omega, show ¬ (3 : Nat) = 0 by omega, show ¬ (1 : Nat) = 0 by omega, show ¬ (2 : Nat) = 1 by omega, show ¬ (3 : Nat) = 1 by omega, show ¬ (3 : Nat) = 2 by omega]
    omega
  rw [← e]
  exact H
set_option maxHeartbeats 4000000 in
theorem set24_any (b o : Nat) (z : N4) (g q n cap : Nat) (l : List UInt8) (w : World) (hz : At4 w b o z) (fz : Free4 w b o) (hB : BytesAt w g q l) (hl : l.length = n) (hN : 24 ≤ n) (hcap : n ≤ cap) (hne : g ≠ b) :
    Calls Tryf.prog 51 #[.pointer (some ⟨b, o, none⟩), .slice (some ⟨g, q, none⟩) n cap] w (RetLeft b o (ofN (Lib.beNat (l.take 24))) w) := by
  have hb := hz.lt
  have H := Left.start hz
  have k0 : ¬ cap = 0 := by omega
  have c8 : (8 : Int) ≤ (cap : Int) := by omega
  have n2 : (seg l 0 8).length = 8 := by rw [seg_len]; omega
  have L2 := beNat_lt (seg l 0 8)
  rw [n2] at L2
  have k8 : ¬ cap = 8 := by omega
  have c16 : (16 : Int) ≤ (cap : Int) := by omega
  have n1 : (seg l 8 8).length = 8 := by rw [seg_len]; omega
  have L1 := beNat_lt (seg l 8 8)
  rw [n1] at L1
  have k16 : ¬ cap = 16 := by omega
  have c24 : (24 : Int) ≤ (cap : Int) := by omega
  have n0 : (seg l 16 8).length = 8 := by rw [seg_len]; omega
  have L0 := beNat_lt (seg l 16 8)
  rw [n0] at L0
  obtain ⟨u, hu⟩ : ∃ u, l[23]? = some u := ⟨_, List.getElem?_eq_getElem (by omega)⟩
  have hc0 := hB 23 u hu
  have hp0 : (23 : Int) < (n : Int) := by omega
  clear hu
  have HV : Hid (Lib.beNat (l.take 24) = Lib.beNat (seg l 16 8) + 2 ^ 64 * Lib.beNat (seg l 8 8) + 2 ^ 128 * Lib.beNat (seg l 0 8)) := by
    show _ = _
    rw [show l.take 24 = l.take 16 ++ seg l 16 8 from take_split l 16 8, beNat_append, n0]
    rw [show l.take 16 = l.take 8 ++ seg l 8 8 from take_split l 8 8, beNat_append, n1]
    rw [← seg_zero]
    omega
  obtain ⟨z0, z1, z2, z3⟩ := hz
  obtain ⟨f0, f1, f2, f3⟩ := fz
  have hz : At4 w b o z := ⟨z0, z1, z2, z3⟩
  have fz : Free4 w b o := ⟨f0, f1, f2, f3⟩
  go_enter Tryf.func51, Tryf.ntmps51
  go_wp2
  have H2 : Left w b o (N4.setW z 3 0#64) (World.setCell w ⟨b, o + 3, none⟩ (.int .u64 0)) := (Left.one H 3 (by omega) 0#64)
  clear H z0 z1 z2 z3 f0 f1 f2 f3 hc0
  revert H2
  generalize (World.setCell w ⟨b, o + 3, none⟩ (.int .u64 0)) = W1
  intro H
  have hne2 : ¬ b = g := fun e => hne e.symm
  have hB1 : BytesAt _ g q (seg l 0 8) := (H.bytes hB hne).cut 0 8
  refine wp_region_noPanic ?_
  refine wp_region_held_drew (S := (fun _ => True)) (by kernel_rfl) (by all_goals exact trivial) (fun hHeld => ?_)
  refine hm_take (i := 0) (v := ?_) rfl rfl (by kernel_rfl) (by kernel_rfl) (by kernel_rfl) (fun _ _ _ h => h) rfl ?_ (by assumption) ?_
  rotate_left
  · (intro w hSw; (try dsimp only at hSw); go_simp; try with_reducible rfl)
  try simp only [Act.put, List.setIfInBounds_toArray, List.set_cons_zero, List.set_cons_succ]
  refine hm_take (i := 1) (v := ?_) rfl rfl (by kernel_rfl) (by kernel_rfl) (by kernel_rfl) (fun _ _ _ h => h) rfl ?_ (by assumption) ?_
  rotate_left
  · (intro w hSw; (try dsimp only at hSw); go_simp; try with_reducible rfl)
  try simp only [Act.put, List.setIfInBounds_toArray, List.set_cons_zero, List.set_cons_succ]
  refine hm_take (i := 2) (v := ?_) rfl rfl (by kernel_rfl) (by kernel_rfl) (by kernel_rfl) (fun _ _ _ h => h) rfl ?_ (by assumption) ?_
  rotate_left
  · (intro w hSw; (try dsimp only at hSw); go_simp; try with_reducible rfl)
  try simp only [Act.put, List.setIfInBounds_toArray, List.set_cons_zero, List.set_cons_succ]
  refine hm_take (i := 3) (v := ?_) rfl rfl (by kernel_rfl) (by kernel_rfl) (by kernel_rfl) (fun _ _ _ h => h) rfl ?_ (by assumption) ?_
  rotate_left
  · (intro w hSw; (try dsimp only at hSw); go_simp; try with_reducible rfl)
  try simp only [Act.put, List.setIfInBounds_toArray, List.set_cons_zero, List.set_cons_succ]
  refine hm_take (i := 5) (v := ?_) rfl rfl (by kernel_rfl) (by kernel_rfl) (by kernel_rfl) (fun _ _ _ h => h) rfl ?_ (by assumption) ?_
  rotate_left
  · (intro w hSw; (try dsimp only at hSw); go_simp; try with_reducible rfl)
  try simp only [Act.put, List.setIfInBounds_toArray, List.set_cons_zero, List.set_cons_succ]
  refine hm_call (i := 4) rfl (by kernel_rfl) rfl (fun K hK => ?_)
  go_simp
  (go_at_call 70; refine (rd64_any _ _ _ _ (seg l 0 8) _ n2 (by omega) (BytesAt.bel hB1 (bel_drew (bel_refl _)))).mono ?_; rintro e w1 ⟨rfl, hb1⟩; have HH := H.drew.grow hb1; obtain ⟨y0, y1, y2, y3⟩ := HH.atz hz; obtain ⟨x0, x1, x2, x3⟩ := HH.frz fz hb)
  (try go_wp2_with fail)
  refine hK.out _ _ (by (try dsimp only); all_goals exact trivial) (fun hHeld => ?_)
  clear hK K
  try simp only [Act.put, List.setIfInBounds_toArray, List.set_cons_zero, List.set_cons_succ]
  refine hm_take (i := 6) (v := ?_) rfl rfl (by kernel_rfl) (by kernel_rfl) (by kernel_rfl) (fun _ _ _ h => h) rfl ?_ (by assumption) ?_
  rotate_left
  · (intro w hSw; (try dsimp only at hSw); go_simp; try with_reducible rfl)
  try simp only [Act.put, List.setIfInBounds_toArray, List.set_cons_zero, List.set_cons_succ]
  refine hm_call (i := 7) rfl (by kernel_rfl) rfl (fun K hK => ?_)
  (go_simp)
  refine hK.out _ _ (by (try dsimp only); all_goals exact trivial) (fun hHeld => ?_)
  clear hK K
  try simp only [Act.put, List.setIfInBounds_toArray, List.set_cons_zero, List.set_cons_succ]
  refine wpAnyH_done (by kernel_rfl) ?_ _
  refine NoPanic.normal ?_
  have H2 : Left w b o (N4.setW (N4.setW z 3 0#64) 2 (BitVec.ofNat 64 (Lib.beNat (seg l 0 8)))) (World.setCell w1 ⟨b, o + 2, none⟩ (.int .u64 ((Lib.beNat (seg l 0 8) : Nat) : Int))) := by
    rw [← U_ofNat _ (by omega)]
    exact (HH.one 2 (by omega) _)
  clear H hB1 HH y0 y1 y2 y3 x0 x1 x2 x3 hb1
  revert H2
  generalize World.setCell _ _ _ = W1
  intro H
  go_wp2
  have hB1 : BytesAt _ g (q + 8) (seg l 8 8) := (H.bytes hB hne).cut 8 8
  refine wp_region_noPanic ?_
  refine wp_region_held_drew (S := (fun _ => True)) (by kernel_rfl) (by all_goals exact trivial) (fun hHeld => ?_)
  refine hm_take (i := 0) (v := ?_) rfl rfl (by kernel_rfl) (by kernel_rfl) (by kernel_rfl) (fun _ _ _ h => h) rfl ?_ (by assumption) ?_
  rotate_left
  · (intro w hSw; (try dsimp only at hSw); go_simp; try with_reducible rfl)
  try simp only [Act.put, List.setIfInBounds_toArray, List.set_cons_zero, List.set_cons_succ]
  refine hm_take (i := 1) (v := ?_) rfl rfl (by kernel_rfl) (by kernel_rfl) (by kernel_rfl) (fun _ _ _ h => h) rfl ?_ (by assumption) ?_
  rotate_left
  · (intro w hSw; (try dsimp only at hSw); go_simp; try with_reducible rfl)
  try simp only [Act.put, List.setIfInBounds_toArray, List.set_cons_zero, List.set_cons_succ]
  refine hm_take (i := 2) (v := ?_) rfl rfl (by kernel_rfl) (by kernel_rfl) (by kernel_rfl) (fun _ _ _ h => h) rfl ?_ (by assumption) ?_
  rotate_left
  · (intro w hSw; (try dsimp only at hSw); go_simp; try with_reducible rfl)
  try simp only [Act.put, List.setIfInBounds_toArray, List.set_cons_zero, List.set_cons_succ]
  refine hm_take (i := 3) (v := ?_) rfl rfl (by kernel_rfl) (by kernel_rfl) (by kernel_rfl) (fun _ _ _ h => h) rfl ?_ (by assumption) ?_
  rotate_left
  · (intro w hSw; (try dsimp only at hSw); go_simp; try with_reducible rfl)
  try simp only [Act.put, List.setIfInBounds_toArray, List.set_cons_zero, List.set_cons_succ]
  refine hm_take (i := 5) (v := ?_) rfl rfl (by kernel_rfl) (by kernel_rfl) (by kernel_rfl) (fun _ _ _ h => h) rfl ?_ (by assumption) ?_
  rotate_left
  · (intro w hSw; (try dsimp only at hSw); go_simp; try with_reducible rfl)
  try simp only [Act.put, List.setIfInBounds_toArray, List.set_cons_zero, List.set_cons_succ]
  refine hm_call (i := 4) rfl (by kernel_rfl) rfl (fun K hK => ?_)
  go_simp
  (go_at_call 70; refine (rd64_any _ _ _ _ (seg l 8 8) _ n1 (by omega) (BytesAt.bel hB1 (bel_drew (bel_refl _)))).mono ?_; rintro e w1 ⟨rfl, hb1⟩; have HH := H.drew.grow hb1; obtain ⟨y0, y1, y2, y3⟩ := HH.atz hz; obtain ⟨x0, x1, x2, x3⟩ := HH.frz fz hb)
  (try go_wp2_with fail)
  refine hK.out _ _ (by (try dsimp only); all_goals exact trivial) (fun hHeld => ?_)
  clear hK K
  try simp only [Act.put, List.setIfInBounds_toArray, List.set_cons_zero, List.set_cons_succ]
  refine hm_take (i := 6) (v := ?_) rfl rfl (by kernel_rfl) (by kernel_rfl) (by kernel_rfl) (fun _ _ _ h => h) rfl ?_ (by assumption) ?_
  rotate_left
  · (intro w hSw; (try dsimp only at hSw); go_simp; try with_reducible rfl)
  try simp only [Act.put, List.setIfInBounds_toArray, List.set_cons_zero, List.set_cons_succ]
  refine hm_call (i := 7) rfl (by kernel_rfl) rfl (fun K hK => ?_)
  (go_simp)
  refine hK.out _ _ (by (try dsimp only); all_goals exact trivial) (fun hHeld => ?_)
  clear hK K
  try simp only [Act.put, List.setIfInBounds_toArray, List.set_cons_zero, List.set_cons_succ]
  refine wpAnyH_done (by kernel_rfl) ?_ _
  refine NoPanic.normal ?_
  have H2 : Left w b o (N4.setW (N4.setW (N4.setW z 3 0#64) 2 (BitVec.ofNat 64 (Lib.beNat (seg l 0 8)))) 1 (BitVec.ofNat 64 (Lib.beNat (seg l 8 8)))) (World.setCell w1 ⟨b, o + 1, none⟩ (.int .u64 ((Lib.beNat (seg l 8 8) : Nat) : Int))) := by
    rw [← U_ofNat _ (by omega)]
    exact (HH.one 1 (by omega) _)
  clear H hB1 HH y0 y1 y2 y3 x0 x1 x2 x3 hb1
  revert H2
  generalize World.setCell _ _ _ = W1
  intro H
  go_wp2
  have hB1 : BytesAt _ g (q + 16) (seg l 16 8) := (H.bytes hB hne).cut 16 8
  refine wp_region_noPanic ?_
  refine wp_region_held_drew (S := (fun _ => True)) (by kernel_rfl) (by all_goals exact trivial) (fun hHeld => ?_)
  refine hm_take (i := 0) (v := ?_) rfl rfl (by kernel_rfl) (by kernel_rfl) (by kernel_rfl) (fun _ _ _ h => h) rfl ?_ (by assumption) ?_
  rotate_left
  · (intro w hSw; (try dsimp only at hSw); go_simp; try with_reducible rfl)
  try simp only [Act.put, List.setIfInBounds_toArray, List.set_cons_zero, List.set_cons_succ]
  refine hm_take (i := 1) (v := ?_) rfl rfl (by kernel_rfl) (by kernel_rfl) (by kernel_rfl) (fun _ _ _ h => h) rfl ?_ (by assumption) ?_
  rotate_left
  · (intro w hSw; (try dsimp only at hSw); go_simp; try with_reducible rfl)
  try simp only [Act.put, List.setIfInBounds_toArray, List.set_cons_zero, List.set_cons_succ]
  refine hm_take (i := 2) (v := ?_) rfl rfl (by kernel_rfl) (by kernel_rfl) (by kernel_rfl) (fun _ _ _ h => h) rfl ?_ (by assumption) ?_
  rotate_left
  · (intro w hSw; (try dsimp only at hSw); go_simp; try with_reducible rfl)
  try simp only [Act.put, List.setIfInBounds_toArray, List.set_cons_zero, List.set_cons_succ]
  refine hm_take (i := 3) (v := ?_) rfl rfl (by kernel_rfl) (by kernel_rfl) (by kernel_rfl) (fun _ _ _ h => h) rfl ?_ (by assumption) ?_
  rotate_left
  · (intro w hSw; (try dsimp only at hSw); go_simp; try with_reducible rfl)
  try simp only [Act.put, List.setIfInBounds_toArray, List.set_cons_zero, List.set_cons_succ]
  refine hm_take (i := 5) (v := ?_) rfl rfl (by kernel_rfl) (by kernel_rfl) (by kernel_rfl) (fun _ _ _ h => h) rfl ?_ (by assumption) ?_
  rotate_left
  · (intro w hSw; (try dsimp only at hSw); go_simp; try with_reducible rfl)
  try simp only [Act.put, List.setIfInBounds_toArray, List.set_cons_zero, List.set_cons_succ]
  refine hm_call (i := 4) rfl (by kernel_rfl) rfl (fun K hK => ?_)
  go_simp
  (go_at_call 70; refine (rd64_any _ _ _ _ (seg l 16 8) _ n0 (by omega) (BytesAt.bel hB1 (bel_drew (bel_refl _)))).mono ?_; rintro e w1 ⟨rfl, hb1⟩; have HH := H.drew.grow hb1; obtain ⟨y0, y1, y2, y3⟩ := HH.atz hz; obtain ⟨x0, x1, x2, x3⟩ := HH.frz fz hb)
  (try go_wp2_with fail)
  refine hK.out _ _ (by (try dsimp only); all_goals exact trivial) (fun hHeld => ?_)
  clear hK K
  try simp only [Act.put, List.setIfInBounds_toArray, List.set_cons_zero, List.set_cons_succ]
  refine hm_take (i := 6) (v := ?_) rfl rfl (by kernel_rfl) (by kernel_rfl) (by kernel_rfl) (fun _ _ _ h => h) rfl ?_ (by assumption) ?_
  rotate_left
  · (intro w hSw; (try dsimp only at hSw); go_simp; try with_reducible rfl)
  try simp only [Act.put, List.setIfInBounds_toArray, List.set_cons_zero, List.set_cons_succ]
  refine hm_call (i := 7) rfl (by kernel_rfl) rfl (fun K hK => ?_)
  (go_simp)
  refine hK.out _ _ (by (try dsimp only); all_goals exact trivial) (fun hHeld => ?_)
  clear hK K
  try simp only [Act.put, List.setIfInBounds_toArray, List.set_cons_zero, List.set_cons_succ]
  refine wpAnyH_done (by kernel_rfl) ?_ _
  refine NoPanic.normal ?_
  have H2 : Left w b o (N4.setW (N4.setW (N4.setW (N4.setW z 3 0#64) 2 (BitVec.ofNat 64 (Lib.beNat (seg l 0 8)))) 1 (BitVec.ofNat 64 (Lib.beNat (seg l 8 8)))) 0 (BitVec.ofNat 64 (Lib.beNat (seg l 16 8)))) (World.setCell w1 ⟨b, o, none⟩ (.int .u64 ((Lib.beNat (seg l 16 8) : Nat) : Int))) := by
    rw [← U_ofNat _ (by omega)]
    exact (HH.one 0 (by omega) _)
  clear H hB1 HH y0 y1 y2 y3 x0 x1 x2 x3 hb1
  revert H2
  generalize World.setCell _ _ _ = W1
  intro H
  go_wp2
  go_ret
  refine ⟨rfl, ?_⟩
  have e : (N4.setW (N4.setW (N4.setW (N4.setW z 3 0#64) 2 (BitVec.ofNat 64 (Lib.beNat (seg l 0 8)))) 1 (BitVec.ofNat 64 (Lib.beNat (seg l 8 8)))) 0 (BitVec.ofNat 64 (Lib.beNat (seg l 16 8)))) = ofN (Lib.beNat (l.take 24)) := by
    apply eq_ofN
    rw [HV.out]
    simp only [N4.setW, N4.toNat, if_true, if_false, reduceIte, BitVec.toNat_ofNat, show ¬ (2 : Nat) = 0 by omega, show ¬ (3 : Nat) = 0 by omega, show ¬ (1 : Nat) = 0 by omega, show ¬ (2 : Nat) = 1 by omega, show ¬ (3 : Nat) = 1 by omega, show ¬ (3 : Nat) = 2 by omega]
    omega
  rw [← e]
  exact H
set_option maxHeartbeats 4000000 in
theorem set25_any (b o : Nat) (z : N4) (g q n cap : Nat) (l : List UInt8) (w : World) (hz : At4 w b o z) (fz : Free4 w b o) (hB : BytesAt w g q l) (hl : l.length = n) (hN : 25 ≤ n) (hcap : n ≤ cap) (hne : g ≠ b) :
    Calls Tryf.prog 52 #[.pointer (some ⟨b, o, none⟩), .slice (some ⟨g, q, none⟩) n cap] w (RetLeft b o (ofN (Lib.beNat (l.take 25))) w) := by
  have hb := hz.lt
  have H := Left.start hz
  have k0 : ¬ cap = 0 := by omega
  have c1 : (1 : Int) ≤ (cap : Int) := by omega
  have n3 : (seg l 0 1).length = 1 := by rw [seg_len]; omega
  have L3 := beNat_lt (seg l 0 1)
  rw [n3] at L3
  have k1 : ¬ cap = 1 := by omega
  have c9 : (9 : Int) ≤ (cap : Int) := by omega
  have n2 : (seg l 1 8).length = 8 := by rw [seg_len]; omega
  have L2 := beNat_lt (seg l 1 8)
  rw [n2] at L2
  have k9 : ¬ cap = 9 := by omega
  have c17 : (17 : Int) ≤ (cap : Int) := by omega
  have n1 : (seg l 9 8).length = 8 := by rw [seg_len]; omega
  have L1 := beNat_lt (seg l 9 8)
  rw [n1] at L1
  have k17 : ¬ cap = 17 := by omega
  have c25 : (25 : Int) ≤ (cap : Int) := by omega
  have n0 : (seg l 17 8).length = 8 := by rw [seg_len]; omega
  have L0 := beNat_lt (seg l 17 8)
  rw [n0] at L0
  obtain ⟨u, hu⟩ : ∃ u, l[24]? = some u := ⟨_, List.getElem?_eq_getElem (by omega)⟩
  have hc0 := hB 24 u hu
  have hp0 : (24 : Int) < (n : Int) := by omega
  clear hu
  have HV : Hid (Lib.beNat (l.take 25) = Lib.beNat (seg l 17 8) + 2 ^ 64 * Lib.beNat (seg l 9 8) + 2 ^ 128 * Lib.beNat (seg l 1 8) + 2 ^ 192 * Lib.beNat (seg l 0 1)) := by
    show _ = _
    rw [show l.take 25 = l.take 17 ++ seg l 17 8 from take_split l 17 8, beNat_append, n0]
    rw [show l.take 17 = l.take 9 ++ seg l 9 8 from take_split l 9 8, beNat_append, n1]
    rw [show l.take 9 = l.take 1 ++ seg l 1 8 from take_split l 1 8, beNat_append, n2]
    rw [← seg_zero]
    omega
  obtain ⟨z0, z1, z2, z3⟩ := hz
  obtain ⟨f0, f1, f2, f3⟩ := fz
  have hz : At4 w b o z := ⟨z0, z1, z2, z3⟩
  have fz : Free4 w b o := ⟨f0, f1, f2, f3⟩
  go_enter Tryf.func52, Tryf.ntmps52
  go_wp2
  clear z0 z1 z2 z3 f0 f1 f2 f3 hc0
  have hne2 : ¬ b = g := fun e => hne e.symm
  have hB1 : BytesAt _ g q (seg l 0 1) := (H.bytes hB hne).cut 0 1
  obtain ⟨u0, hu0⟩ : ∃ u, l[0]? = some u := ⟨_, List.getElem?_eq_getElem (by omega)⟩
  have hc1 := H.bytes hB hne 0 u0 hu0
  rw [Nat.add_zero] at hc1
  have E1 := beNat_take1 hu0
  have u0l := u0.toNat_lt
  have hn0 : 0 < n := by omega
  have hw0 : IntKind.u64.wrap (u0.toNat : Int) = (u0.toNat : Int) := by rw [IntKind.wrap_u64]; omega
  obtain ⟨y0, y1, y2, y3⟩ := H.atz hz
  obtain ⟨x0, x1, x2, x3⟩ := H.frz fz hb
  refine wp_region_noPanic ?_
  refine wp_region_held_drew (S := (fun w9 => w9.cell? ⟨g, q, none⟩ = some (.int .u8 (u0.toNat : Int)))) (by kernel_rfl) (by exact hc1) (fun hHeld => ?_)
  refine hm_take (i := 0) (v := ?_) rfl rfl (by kernel_rfl) (by kernel_rfl) (by kernel_rfl) (fun _ _ _ h => h) rfl ?_ (by assumption) ?_
  rotate_left
  · (intro w hSw; (try dsimp only at hSw); go_simp; try with_reducible rfl)
  try simp only [Act.put, List.setIfInBounds_toArray, List.set_cons_zero, List.set_cons_succ]
  refine hm_take (i := 1) (v := ?_) rfl rfl (by kernel_rfl) (by kernel_rfl) (by kernel_rfl) (fun _ _ _ h => h) rfl ?_ (by assumption) ?_
  rotate_left
  · (intro w hSw; (try dsimp only at hSw); go_simp; try with_reducible rfl)
  try simp only [Act.put, List.setIfInBounds_toArray, List.set_cons_zero, List.set_cons_succ]
  refine hm_take (i := 2) (v := ?_) rfl rfl (by kernel_rfl) (by kernel_rfl) (by kernel_rfl) (fun _ _ _ h => h) rfl ?_ (by assumption) ?_
  rotate_left
  · (intro w hSw; (try dsimp only at hSw); go_simp; try with_reducible rfl)
  try simp only [Act.put, List.setIfInBounds_toArray, List.set_cons_zero, List.set_cons_succ]
  refine hm_take (i := 3) (v := ?_) rfl rfl (by kernel_rfl) (by kernel_rfl) (by kernel_rfl) (fun _ _ _ h => h) rfl ?_ (by assumption) ?_
  rotate_left
  · (intro w hSw; (try dsimp only at hSw); go_simp; try with_reducible rfl)
  try simp only [Act.put, List.setIfInBounds_toArray, List.set_cons_zero, List.set_cons_succ]
  refine hm_take (i := 4) (v := ?_) rfl rfl (by kernel_rfl) (by kernel_rfl) (by kernel_rfl) (fun _ _ _ h => h) rfl ?_ (by assumption) ?_
  rotate_left
  · (intro w hSw; (try dsimp only at hSw); go_simp; try with_reducible rfl)
  try simp only [Act.put, List.setIfInBounds_toArray, List.set_cons_zero, List.set_cons_succ]
  refine hm_take (i := 5) (v := ?_) rfl rfl (by kernel_rfl) (by kernel_rfl) (by kernel_rfl) (fun _ _ _ h => h) rfl ?_ (by assumption) ?_
  rotate_left
  · (intro w hSw; (try dsimp only at hSw); go_simp; try with_reducible rfl)
  try simp only [Act.put, List.setIfInBounds_toArray, List.set_cons_zero, List.set_cons_succ]
  refine hm_take (i := 6) (v := ?_) rfl rfl (by kernel_rfl) (by kernel_rfl) (by kernel_rfl) (fun _ _ _ h => h) rfl ?_ (by assumption) ?_
  rotate_left
  · (intro w hSw; (try dsimp only at hSw); go_simp; try with_reducible rfl)
  try simp only [Act.put, List.setIfInBounds_toArray, List.set_cons_zero, List.set_cons_succ]
  refine hm_call (i := 7) rfl (by kernel_rfl) rfl (fun K hK => ?_)
  (go_simp)
  refine hK.out _ _ (by (try dsimp only); first | exact bel_cell hb1 hHeld | exact (World.cell?_setCell_other _ _ _ _ (by intro e; injection e with e; first | exact hne e | exact hne2 e)).trans hHeld) (fun hHeld => ?_)
  clear hK K
  try simp only [Act.put, List.setIfInBounds_toArray, List.set_cons_zero, List.set_cons_succ]
  refine wpAnyH_done (by kernel_rfl) ?_ _
  refine NoPanic.normal ?_
  have H2 : Left w b o (N4.setW z 3 (BitVec.ofNat 64 (Lib.beNat (seg l 0 1)))) (World.drew (World.setCell w ⟨b, o + 3, none⟩ (.int .u64 (u0.toNat : Int)))) := by
    rw [E1, ← U_ofNat _ (by omega)]
    exact (H.one 3 (by omega) _).drew
  clear H hB1 y0 y1 y2 y3 x0 x1 x2 x3 hc1 hw0 u0l
  revert H2
  generalize World.drew (World.setCell _ _ _) = W1
  intro H
  go_wp2
  have hB1 : BytesAt _ g (q + 1) (seg l 1 8) := (H.bytes hB hne).cut 1 8
  refine wp_region_noPanic ?_
  refine wp_region_held_drew (S := (fun _ => True)) (by kernel_rfl) (by all_goals exact trivial) (fun hHeld => ?_)
  refine hm_take (i := 0) (v := ?_) rfl rfl (by kernel_rfl) (by kernel_rfl) (by kernel_rfl) (fun _ _ _ h => h) rfl ?_ (by assumption) ?_
  rotate_left
  · (intro w hSw; (try dsimp only at hSw); go_simp; try with_reducible rfl)
  try simp only [Act.put, List.setIfInBounds_toArray, List.set_cons_zero, List.set_cons_succ]
  refine hm_take (i := 1) (v := ?_) rfl rfl (by kernel_rfl) (by kernel_rfl) (by kernel_rfl) (fun _ _ _ h => h) rfl ?_ (by assumption) ?_
  rotate_left
  · (intro w hSw; (try dsimp only at hSw); go_simp; try with_reducible rfl)
  try simp only [Act.put, List.setIfInBounds_toArray, List.set_cons_zero, List.set_cons_succ]
  refine hm_take (i := 2) (v := ?_) rfl rfl (by kernel_rfl) (by kernel_rfl) (by kernel_rfl) (fun _ _ _ h => h) rfl ?_ (by assumption) ?_
  rotate_left
  · (intro w hSw; (try dsimp only at hSw); go_simp; try with_reducible rfl)
  try simp only [Act.put, List.setIfInBounds_toArray, List.set_cons_zero, List.set_cons_succ]
  refine hm_take (i := 3) (v := ?_) rfl rfl (by kernel_rfl) (by kernel_rfl) (by kernel_rfl) (fun _ _ _ h => h) rfl ?_ (by assumption) ?_
  rotate_left
  · (intro w hSw; (try dsimp only at hSw); go_simp; try with_reducible rfl)
  try simp only [Act.put, List.setIfInBounds_toArray, List.set_cons_zero, List.set_cons_succ]
  refine hm_take (i := 5) (v := ?_) rfl rfl (by kernel_rfl) (by kernel_rfl) (by kernel_rfl) (fun _ _ _ h => h) rfl ?_ (by assumption) ?_
  rotate_left
  · (intro w hSw; (try dsimp only at hSw); go_simp; try with_reducible rfl)
  try simp only [Act.put, List.setIfInBounds_toArray, List.set_cons_zero, List.set_cons_succ]
  refine hm_call (i := 4) rfl (by kernel_rfl) rfl (fun K hK => ?_)
  go_simp
  (go_at_call 70; refine (rd64_any _ _ _ _ (seg l 1 8) _ n2 (by omega) (BytesAt.bel hB1 (bel_drew (bel_refl _)))).mono ?_; rintro e w1 ⟨rfl, hb1⟩; have HH := H.drew.grow hb1; obtain ⟨y0, y1, y2, y3⟩ := HH.atz hz; obtain ⟨x0, x1, x2, x3⟩ := HH.frz fz hb)
  (try go_wp2_with fail)
  refine hK.out _ _ (by (try dsimp only); all_goals exact trivial) (fun hHeld => ?_)
  clear hK K
  try simp only [Act.put, List.setIfInBounds_toArray, List.set_cons_zero, List.set_cons_succ]
  refine hm_take (i := 6) (v := ?_) rfl rfl (by kernel_rfl) (by kernel_rfl) (by kernel_rfl) (fun _ _ _ h => h) rfl ?_ (by assumption) ?_
  rotate_left
  · (intro w hSw; (try dsimp only at hSw); go_simp; try with_reducible rfl)
  try simp only [Act.put, List.setIfInBounds_toArray, List.set_cons_zero, List.set_cons_succ]
  refine hm_call (i := 7) rfl (by kernel_rfl) rfl (fun K hK => ?_)
  (go_simp)
  refine hK.out _ _ (by (try dsimp only); all_goals exact trivial) (fun hHeld => ?_)
  clear hK K
  try simp only [Act.put, List.setIfInBounds_toArray, List.set_cons_zero, List.set_cons_succ]
  refine wpAnyH_done (by kernel_rfl) ?_ _
  refine NoPanic.normal ?_
  have H2 : Left w b o (N4.setW (N4.setW z 3 (BitVec.ofNat 64 (Lib.beNat (seg l 0 1)))) 2 (BitVec.ofNat 64 (Lib.beNat (seg l 1 8)))) (World.setCell w1 ⟨b, o + 2, none⟩ (.int .u64 ((Lib.beNat (seg l 1 8) : Nat) : Int))) := by
    rw [← U_ofNat _ (by omega)]
    exact (HH.one 2 (by omega) _)
  clear H hB1 HH y0 y1 y2 y3 x0 x1 x2 x3 hb1
  revert H2
  generalize World.setCell _ _ _ = W1
  intro H
  go_wp2
  have hB1 : BytesAt _ g (q + 9) (seg l 9 8) := (H.bytes hB hne).cut 9 8
  refine wp_region_noPanic ?_
  refine wp_region_held_drew (S := (fun _ => True)) (by kernel_rfl) (by all_goals exact trivial) (fun hHeld => ?_)
  refine hm_take (i := 0) (v := ?_) rfl rfl (by kernel_rfl) (by kernel_rfl) (by kernel_rfl) (fun _ _ _ h => h) rfl ?_ (by assumption) ?_
  rotate_left
  · (intro w hSw; (try dsimp only at hSw); go_simp; try with_reducible rfl)
  try simp only [Act.put, List.setIfInBounds_toArray, List.set_cons_zero, List.set_cons_succ]
  refine hm_take (i := 1) (v := ?_) rfl rfl (by kernel_rfl) (by kernel_rfl) (by kernel_rfl) (fun _ _ _ h => h) rfl ?_ (by assumption) ?_
  rotate_left
  · (intro w hSw; (try dsimp only at hSw); go_simp; try with_reducible rfl)
  try simp only [Act.put, List.setIfInBounds_toArray, List.set_cons_zero, List.set_cons_succ]
  refine hm_take (i := 2) (v := ?_) rfl rfl (by kernel_rfl) (by kernel_rfl) (by kernel_rfl) (fun _ _ _ h => h) rfl ?_ (by assumption) ?_
  rotate_left
  · (intro w hSw; (try dsimp only at hSw); go_simp; try with_reducible rfl)
  try simp only [Act.put, List.setIfInBounds_toArray, List.set_cons_zero, List.set_cons_succ]
  refine hm_take (i := 3) (v := ?_) rfl rfl (by kernel_rfl) (by kernel_rfl) (by kernel_rfl) (fun _ _ _ h => h) rfl ?_ (by assumption) ?_
  rotate_left
  · (intro w hSw; (try dsimp only at hSw); go_simp; try with_reducible rfl)
  try simp only [Act.put, List.setIfInBounds_toArray, List.set_cons_zero, List.set_cons_succ]
  refine hm_take (i := 5) (v := ?_) rfl rfl (by kernel_rfl) (by kernel_rfl) (by kernel_rfl) (fun _ _ _ h => h) rfl ?_ (by assumption) ?_
  rotate_left
  · (intro w hSw; (try dsimp only at hSw); go_simp; try with_reducible rfl)
  try simp only [Act.put, List.setIfInBounds_toArray, List.set_cons_zero, List.set_cons_succ]
  refine hm_call (i := 4) rfl (by kernel_rfl) rfl (fun K hK => ?_)
  go_simp
  (go_at_call 70; refine (rd64_any _ _ _ _ (seg l 9 8) _ n1 (by omega) (BytesAt.bel hB1 (bel_drew (bel_refl _)))).mono ?_; rintro e w1 ⟨rfl, hb1⟩; have HH := H.drew.grow hb1; obtain ⟨y0, y1, y2, y3⟩ := HH.atz hz; obtain ⟨x0, x1, x2, x3⟩ := HH.frz fz hb)
  (try go_wp2_with fail)
  refine hK.out _ _ (by (try dsimp only); all_goals exact trivial) (fun hHeld => ?_)
  clear hK K
  try simp only [Act.put, List.setIfInBounds_toArray, List.set_cons_zero, List.set_cons_succ]
  refine hm_take (i := 6) (v := ?_) rfl rfl (by kernel_rfl) (by kernel_rfl) (by kernel_rfl) (fun _ _ _ h => h) rfl ?_ (by assumption) ?_
  rotate_left
  · (intro w hSw; (try dsimp only at hSw); go_simp; try with_reducible rfl)
  try simp only [Act.put, List.setIfInBounds_toArray, List.set_cons_zero, List.set_cons_succ]
  refine hm_call (i := 7) rfl (by kernel_rfl) rfl (fun K hK => ?_)
  (go_simp)
  refine hK.out _ _ (by (try dsimp only); all_goals exact trivial) (fun hHeld => ?_)
  clear hK K
  try simp only [Act.put, List.setIfInBounds_toArray, List.set_cons_zero, List.set_cons_succ]
  refine wpAnyH_done (by kernel_rfl) ?_ _
  refine NoPanic.normal ?_
  have H2 : Left w b o (N4.setW (N4.setW (N4.setW z 3 (BitVec.ofNat 64 (Lib.beNat (seg l 0 1)))) 2 (BitVec.ofNat 64 (Lib.beNat (seg l 1 8)))) 1 (BitVec.ofNat 64 (Lib.beNat (seg l 9 8)))) (World.setCell w1 ⟨b, o + 1, none⟩ (.int .u64 ((Lib.beNat (seg l 9 8) : Nat) : Int))) := by
    rw [← U_ofNat _ (by omega)]
    exact (HH.one 1 (by omega) _)
  clear H hB1 HH y0 y1 y2 y3 x0 x1 x2 x3 hb1
  revert H2
  generalize World.setCell _ _ _ = W1
  intro H
  go_wp2
  have hB1 : BytesAt _ g (q + 17) (seg l 17 8) := (H.bytes hB hne).cut 17 8
  refine wp_region_noPanic ?_
  refine wp_region_held_drew (S := (fun _ => True)) (by kernel_rfl) (by all_goals exact trivial) (fun hHeld => ?_)
  refine hm_take (i := 0) (v := ?_) rfl rfl (by kernel_rfl) (by kernel_rfl) (by kernel_rfl) (fun _ _ _ h => h) rfl ?_ (by assumption) ?_
  rotate_left
  · (intro w hSw; (try dsimp only at hSw); go_simp; try with_reducible rfl)
  try simp only [Act.put, List.setIfInBounds_toArray, List.set_cons_zero, List.set_cons_succ]
  refine hm_take (i := 1) (v := ?_) rfl rfl (by kernel_rfl) (by kernel_rfl) (by kernel_rfl) (fun _ _ _ h => h) rfl ?_ (by assumption) ?_
  rotate_left
  · (intro w hSw; (try dsimp only at hSw); go_simp; try with_reducible rfl)
  try simp only [Act.put, List.setIfInBounds_toArray, List.set_cons_zero, List.set_cons_succ]
  refine hm_take (i := 2) (v := ?_) rfl rfl (by kernel_rfl) (by kernel_rfl) (by kernel_rfl) (fun _ _ _ h => h) rfl ?_ (by assumption) ?_
  rotate_left
  · (intro w hSw; (try dsimp only at hSw); go_simp; try with_reducible rfl)
  try simp only [Act.put, List.setIfInBounds_toArray, List.set_cons_zero, List.set_cons_succ]
  refine hm_take (i := 3) (v := ?_) rfl rfl (by kernel_rfl) (by kernel_rfl) (by kernel_rfl) (fun _ _ _ h => h) rfl ?_ (by assumption) ?_
  rotate_left
  · (intro w hSw; (try dsimp only at hSw); go_simp; try with_reducible rfl)
  try simp only [Act.put, List.setIfInBounds_toArray, List.set_cons_zero, List.set_cons_succ]
  refine hm_take (i := 5) (v := ?_) rfl rfl (by kernel_rfl) (by kernel_rfl) (by kernel_rfl) (fun _ _ _ h => h) rfl ?_ (by assumption) ?_
  rotate_left
  · (intro w hSw; (try dsimp only at hSw); go_simp; try with_reducible rfl)
  try simp only [Act.put, List.setIfInBounds_toArray, List.set_cons_zero, List.set_cons_succ]
  refine hm_call (i := 4) rfl (by kernel_rfl) rfl (fun K hK => ?_)
  go_simp
  (go_at_call 70; refine (rd64_any _ _ _ _ (seg l 17 8) _ n0 (by omega) (BytesAt.bel hB1 (bel_drew (bel_refl _)))).mono ?_; rintro e w1 ⟨rfl, hb1⟩; have HH := H.drew.grow hb1; obtain ⟨y0, y1, y2, y3⟩ := HH.atz hz; obtain ⟨x0, x1, x2, x3⟩ := HH.frz fz hb)
  (try go_wp2_with fail)
  refine hK.out _ _ (by (try dsimp only); all_goals exact trivial) (fun hHeld => ?_)
  clear hK K
  try simp only [Act.put, List.setIfInBounds_toArray, List.set_cons_zero, List.set_cons_succ]
  refine hm_take (i := 6) (v := ?_) rfl rfl (by kernel_rfl) (by kernel_rfl) (by kernel_rfl) (fun _ _ _ h => h) rfl ?_ (by assumption) ?_
  rotate_left
  · (intro w hSw; (try dsimp only at hSw); go_simp; try with_reducible rfl)
  try simp only [Act.put, List.setIfInBounds_toArray, List.set_cons_zero, List.set_cons_succ]
  refine hm_call (i := 7) rfl (by kernel_rfl) rfl (fun K hK => ?_)
  (go_simp)
  refine hK.out _ _ (by (try dsimp only); all_goals exact trivial) (fun hHeld => ?_)
  clear hK K
  try simp only [Act.put, List.setIfInBounds_toArray, List.set_cons_zero, List.set_cons_succ]
  refine wpAnyH_done (by kernel_rfl) ?_ _
  refine NoPanic.normal ?_
  have H2 : Left w b o (N4.setW (N4.setW (N4.setW (N4.setW z 3 (BitVec.ofNat 64 (Lib.beNat (seg l 0 1)))) 2 (BitVec.ofNat 64 (Lib.beNat (seg l 1 8)))) 1 (BitVec.ofNat 64 (Lib.beNat (seg l 9 8)))) 0 (BitVec.ofNat 64 (Lib.beNat (seg l 17 8)))) (World.setCell w1 ⟨b, o, none⟩ (.int .u64 ((Lib.beNat (seg l 17 8) : Nat) : Int))) := by
    rw [← U_ofNat _ (by omega)]
    exact (HH.one 0 (by omega) _)
  clear H hB1 HH y0 y1 y2 y3 x0 x1 x2 x3 hb1
  revert H2
  generalize World.setCell _ _ _ = W1
  intro H
  go_wp2
  go_ret
  refine ⟨rfl, ?_⟩
  have e : (N4.setW (N4.setW (N4.setW (N4.setW z 3 (BitVec.ofNat 64 (Lib.beNat (seg l 0 1)))) 2 (BitVec.ofNat 64 (Lib.beNat (seg l 1 8)))) 1 (BitVec.ofNat 64 (Lib.beNat (seg l 9 8)))) 0 (BitVec.ofNat 64 (Lib.beNat (seg l 17 8)))) = ofN (Lib.beNat (l.take 25)) := by
    apply eq_ofN
    rw [HV.out]
    simp only [N4.setW, N4.toNat, if_true, if_false, reduceIte, BitVec.toNat_ofNat, show ¬ (2 : Nat) = 0 by omega, show ¬ (3 : Nat) = 0 by omega, show ¬ (1 : Nat) = 0 by omega, show ¬ (2 : Nat) = 1 by omega, show ¬ (3 : Nat) = 1 by omega, show ¬ (3 : Nat) = 2 by omega]
    omega
  rw [← e]
  exact H
set_option maxHeartbeats 4000000 in
theorem set26_any (b o : Nat) (z : N4) (g q n cap : Nat) (l : List UInt8) (w : World) (hz : At4 w b o z) (fz : Free4 w b o) (hB : BytesAt w g q l) (hl : l.length = n) (hN : 26 ≤ n) (hcap : n ≤ cap) (hne : g ≠ b) :
    Calls Tryf.prog 53 #[.pointer (some ⟨b, o, none⟩), .slice (some ⟨g, q, none⟩) n cap] w (RetLeft b o (ofN (Lib.beNat (l.take 26))) w) := by
  have hb := hz.lt
  have H := Left.start hz
  have k0 : ¬ cap = 0 := by omega
  have c2 : (2 : Int) ≤ (cap : Int) := by omega
  have n3 : (seg l 0 2).length = 2 := by rw [seg_len]; omega
  have L3 := beNat_lt (seg l 0 2)
  rw [n3] at L3
  have k2 : ¬ cap = 2 := by omega
  have c10 : (10 : Int) ≤ (cap : Int) := by omega
  have n2 : (seg l 2 8).length = 8 := by rw [seg_len]; omega
  have L2 := beNat_lt (seg l 2 8)
  rw [n2] at L2
  have k10 : ¬ cap = 10 := by omega
  have c18 : (18 : Int) ≤ (cap : Int) := by omega
  have n1 : (seg l 10 8).length = 8 := by rw [seg_len]; omega
  have L1 := beNat_lt (seg l 10 8)
  rw [n1] at L1
  have k18 : ¬ cap = 18 := by omega
  have c26 : (26 : Int) ≤ (cap : Int) := by omega
  have n0 : (seg l 18 8).length = 8 := by rw [seg_len]; omega
  have L0 := beNat_lt (seg l 18 8)
  rw [n0] at L0
  obtain ⟨u, hu⟩ : ∃ u, l[25]? = some u := ⟨_, List.getElem?_eq_getElem (by omega)⟩
  have hc0 := hB 25 u hu
  have hp0 : (25 : Int) < (n : Int) := by omega
  clear hu
  have HV : Hid (Lib.beNat (l.take 26) = Lib.beNat (seg l 18 8) + 2 ^ 64 * Lib.beNat (seg l 10 8) + 2 ^ 128 * Lib.beNat (seg l 2 8) + 2 ^ 192 * Lib.beNat (seg l 0 2)) := by
    show _ = _
    rw [show l.take 26 = l.take 18 ++ seg l 18 8 from take_split l 18 8, beNat_append, n0]
    rw [show l.take 18 = l.take 10 ++ seg l 10 8 from take_split l 10 8, beNat_append, n1]
    rw [show l.take 10 = l.take 2 ++ seg l 2 8 from take_split l 2 8, beNat_append, n2]
    rw [← seg_zero]
    omega
  obtain ⟨z0, z1, z2, z3⟩ := hz
  obtain ⟨f0, f1, f2, f3⟩ := fz
  have hz : At4 w b o z := ⟨z0, z1, z2, z3⟩
  have fz : Free4 w b o := ⟨f0, f1, f2, f3⟩
  go_enter Tryf.func53, Tryf.ntmps53
  go_wp2
  clear z0 z1 z2 z3 f0 f1 f2 f3 hc0
  have hne2 : ¬ b = g := fun e => hne e.symm
  have hB1 : BytesAt _ g q (seg l 0 2) := (H.bytes hB hne).cut 0 2
  have hwr : IntKind.u64.wrap ((Lib.beNat (seg l 0 2) : Nat) : Int) = ((Lib.beNat (seg l 0 2) : Nat) : Int) := by rw [IntKind.wrap_u64]; omega
  refine wp_region_noPanic ?_
  refine wp_region_held_drew (S := (fun _ => True)) (by kernel_rfl) (by all_goals exact trivial) (fun hHeld => ?_)
  refine hm_take (i := 0) (v := ?_) rfl rfl (by kernel_rfl) (by kernel_rfl) (by kernel_rfl) (fun _ _ _ h => h) rfl ?_ (by assumption) ?_
  rotate_left
  · (intro w hSw; (try dsimp only at hSw); go_simp; try with_reducible rfl)
  try simp only [Act.put, List.setIfInBounds_toArray, List.set_cons_zero, List.set_cons_succ]
  refine hm_take (i := 1) (v := ?_) rfl rfl (by kernel_rfl) (by kernel_rfl) (by kernel_rfl) (fun _ _ _ h => h) rfl ?_ (by assumption) ?_
  rotate_left
  · (intro w hSw; (try dsimp only at hSw); go_simp; try with_reducible rfl)
  try simp only [Act.put, List.setIfInBounds_toArray, List.set_cons_zero, List.set_cons_succ]
  refine hm_take (i := 2) (v := ?_) rfl rfl (by kernel_rfl) (by kernel_rfl) (by kernel_rfl) (fun _ _ _ h => h) rfl ?_ (by assumption) ?_
  rotate_left
  · (intro w hSw; (try dsimp only at hSw); go_simp; try with_reducible rfl)
  try simp only [Act.put, List.setIfInBounds_toArray, List.set_cons_zero, List.set_cons_succ]
  refine hm_take (i := 3) (v := ?_) rfl rfl (by kernel_rfl) (by kernel_rfl) (by kernel_rfl) (fun _ _ _ h => h) rfl ?_ (by assumption) ?_
  rotate_left
  · (intro w hSw; (try dsimp only at hSw); go_simp; try with_reducible rfl)
  try simp only [Act.put, List.setIfInBounds_toArray, List.set_cons_zero, List.set_cons_succ]
  refine hm_take (i := 6) (v := ?_) rfl rfl (by kernel_rfl) (by kernel_rfl) (by kernel_rfl) (fun _ _ _ h => h) rfl ?_ (by assumption) ?_
  rotate_left
  · (intro w hSw; (try dsimp only at hSw); go_simp; try with_reducible rfl)
  try simp only [Act.put, List.setIfInBounds_toArray, List.set_cons_zero, List.set_cons_succ]
  refine hm_call (i := 4) rfl (by kernel_rfl) rfl (fun K hK => ?_)
  go_simp
  (go_at_call 65; refine (rd16_any _ _ _ _ (seg l 0 2) _ n3 (by omega) (BytesAt.bel hB1 (bel_drew (bel_refl _)))).mono ?_; rintro e w1 ⟨rfl, hb1⟩; have HH := H.drew.grow hb1; obtain ⟨y0, y1, y2, y3⟩ := HH.atz hz; obtain ⟨x0, x1, x2, x3⟩ := HH.frz fz hb)
  (try go_wp2_with fail)
  refine hK.out _ _ (by (try dsimp only); all_goals exact trivial) (fun hHeld => ?_)
  clear hK K
  try simp only [Act.put, List.setIfInBounds_toArray, List.set_cons_zero, List.set_cons_succ]
  refine hm_take (i := 5) (v := ?_) rfl rfl (by kernel_rfl) (by kernel_rfl) (by kernel_rfl) (fun _ _ _ h => h) rfl ?_ (by assumption) ?_
  rotate_left
  · (intro w hSw; (try dsimp only at hSw); go_simp; try with_reducible rfl)
  try simp only [Act.put, List.setIfInBounds_toArray, List.set_cons_zero, List.set_cons_succ]
  refine hm_take (i := 7) (v := ?_) rfl rfl (by kernel_rfl) (by kernel_rfl) (by kernel_rfl) (fun _ _ _ h => h) rfl ?_ (by assumption) ?_
  rotate_left
  · (intro w hSw; (try dsimp only at hSw); go_simp; try with_reducible rfl)
  try simp only [Act.put, List.setIfInBounds_toArray, List.set_cons_zero, List.set_cons_succ]
  refine hm_call (i := 8) rfl (by kernel_rfl) rfl (fun K hK => ?_)
  (go_simp)
  refine hK.out _ _ (by (try dsimp only); all_goals exact trivial) (fun hHeld => ?_)
  clear hK K
  try simp only [Act.put, List.setIfInBounds_toArray, List.set_cons_zero, List.set_cons_succ]
  refine wpAnyH_done (by kernel_rfl) ?_ _
  refine NoPanic.normal ?_
  have H2 : Left w b o (N4.setW z 3 (BitVec.ofNat 64 (Lib.beNat (seg l 0 2)))) (World.setCell w1 ⟨b, o + 3, none⟩ (.int .u64 ((Lib.beNat (seg l 0 2) : Nat) : Int))) := by
    rw [← U_ofNat _ (by omega)]
    exact (HH.one 3 (by omega) _)
  clear H hB1 HH y0 y1 y2 y3 x0 x1 x2 x3 hb1 hwr
  revert H2
  generalize World.setCell _ _ _ = W1
  intro H
  go_wp2
  have hB1 : BytesAt _ g (q + 2) (seg l 2 8) := (H.bytes hB hne).cut 2 8
  refine wp_region_noPanic ?_
  refine wp_region_held_drew (S := (fun _ => True)) (by kernel_rfl) (by all_goals exact trivial) (fun hHeld => ?_)
  refine hm_take (i := 0) (v := ?_) rfl rfl (by kernel_rfl) (by kernel_rfl) (by kernel_rfl) (fun _ _ _ h => h) rfl ?_ (by assumption) ?_
  rotate_left
  · (intro w hSw; (try dsimp only at hSw); go_simp; try with_reducible rfl)
  try simp only [Act.put, List.setIfInBounds_toArray, List.set_cons_zero, List.set_cons_succ]
  refine hm_take (i := 1) (v := ?_) rfl rfl (by kernel_rfl) (by kernel_rfl) (by kernel_rfl) (fun _ _ _ h => h) rfl ?_ (by assumption) ?_
  rotate_left
  · (intro w hSw; (try dsimp only at hSw); go_simp; try with_reducible rfl)
  try simp only [Act.put, List.setIfInBounds_toArray, List.set_cons_zero, List.set_cons_succ]
  refine hm_take (i := 2) (v := ?_) rfl rfl (by kernel_rfl) (by kernel_rfl) (by kernel_rfl) (fun _ _ _ h => h) rfl ?_ (by assumption) ?_
  rotate_left
  · (intro w hSw; (try dsimp only at hSw); go_simp; try with_reducible rfl)
  try simp only [Act.put, List.setIfInBounds_toArray, List.set_cons_zero, List.set_cons_succ]
  refine hm_take (i := 3) (v := ?_) rfl rfl (by kernel_rfl) (by kernel_rfl) (by kernel_rfl) (fun _ _ _ h => h) rfl ?_ (by assumption) ?_
  rotate_left
  · (intro w hSw; (try dsimp only at hSw); go_simp; try with_reducible rfl)
  try simp only [Act.put, List.setIfInBounds_toArray, List.set_cons_zero, List.set_cons_succ]
  refine hm_take (i := 5) (v := ?_) rfl rfl (by kernel_rfl) (by kernel_rfl) (by kernel_rfl) (fun _ _ _ h => h) rfl ?_ (by assumption) ?_
  rotate_left
  · (intro w hSw; (try dsimp only at hSw); go_simp; try with_reducible rfl)
  try simp only [Act.put, List.setIfInBounds_toArray, List.set_cons_zero, List.set_cons_succ]
  refine hm_call (i := 4) rfl (by kernel_rfl) rfl (fun K hK => ?_)
  go_simp
  (go_at_call 70; refine (rd64_any _ _ _ _ (seg l 2 8) _ n2 (by omega) (BytesAt.bel hB1 (bel_drew (bel_refl _)))).mono ?_; rintro e w1 ⟨rfl, hb1⟩; have HH := H.drew.grow hb1; obtain ⟨y0, y1, y2, y3⟩ := HH.atz hz; obtain ⟨x0, x1, x2, x3⟩ := HH.frz fz hb)
  (try go_wp2_with fail)
  refine hK.out _ _ (by (try dsimp only); all_goals exact trivial) (fun hHeld => ?_)
  clear hK K
  try simp only [Act.put, List.setIfInBounds_toArray, List.set_cons_zero, List.set_cons_succ]
  refine hm_take (i := 6) (v := ?_) rfl rfl (by kernel_rfl) (by kernel_rfl) (by kernel_rfl) (fun _ _ _ h => h) rfl ?_ (by assumption) ?_
  rotate_left
  · (intro w hSw; (try dsimp only at hSw); go_simp; try with_reducible rfl)
  try simp only [Act.put, List.setIfInBounds_toArray, List.set_cons_zero, List.set_cons_succ]
  refine hm_call (i := 7) rfl (by kernel_rfl) rfl (fun K hK => ?_)
  (go_simp)
  refine hK.out _ _ (by (try dsimp only); all_goals exact trivial) (fun hHeld => ?_)
  clear hK K
  try simp only [Act.put, List.setIfInBounds_toArray, List.set_cons_zero, List.set_cons_succ]
  refine wpAnyH_done (by kernel_rfl) ?_ _
  refine NoPanic.normal ?_
  have H2 : Left w b o (N4.setW (N4.setW z 3 (BitVec.ofNat 64 (Lib.beNat (seg l 0 2)))) 2 (BitVec.ofNat 64 (Lib.beNat (seg l 2 8)))) (World.setCell w1 ⟨b, o + 2, none⟩ (.int .u64 ((Lib.beNat (seg l 2 8) : Nat) : Int))) := by
    rw [← U_ofNat _ (by omega)]
    exact (HH.one 2 (by omega) _)
  clear H hB1 HH y0 y1 y2 y3 x0 x1 x2 x3 hb1
  revert H2
  generalize World.setCell _ _ _ = W1
  intro H
  go_wp2
  have hB1 : BytesAt _ g (q + 10) (seg l 10 8) := (H.bytes hB hne).cut 10 8
  refine wp_region_noPanic ?_
  refine wp_region_held_drew (S := (fun _ => True)) (by kernel_rfl) (by all_goals exact trivial) (fun hHeld => ?_)
  refine hm_take (i := 0) (v := ?_) rfl rfl (by kernel_rfl) (by kernel_rfl) (by kernel_rfl) (fun _ _ _ h => h) rfl ?_ (by assumption) ?_
  rotate_left
  · (intro w hSw; (try dsimp only at hSw); go_simp; try with_reducible rfl)
  try simp only [Act.put, List.setIfInBounds_toArray, List.set_cons_zero, List.set_cons_succ]
  refine hm_take (i := 1) (v := ?_) rfl rfl (by kernel_rfl) (by kernel_rfl) (by kernel_rfl) (fun _ _ _ h => h) rfl ?_ (by assumption) ?_
  rotate_left
  · (intro w hSw; (try dsimp only at hSw); go_simp; try with_reducible rfl)
  try simp only [Act.put, List.setIfInBounds_toArray, List.set_cons_zero, List.set_cons_succ]
  refine hm_take (i := 2) (v := ?_) rfl rfl (by kernel_rfl) (by kernel_rfl) (by kernel_rfl) (fun _ _ _ h => h) rfl ?_ (by assumption) ?_
  rotate_left
  · (intro w hSw; (try dsimp only at hSw); go_simp; try with_reducible rfl)
  try simp only [Act.put, List.setIfInBounds_toArray, List.set_cons_zero, List.set_cons_succ]
  refine hm_take (i := 3) (v := ?_) rfl rfl (by kernel_rfl) (by kernel_rfl) (by kernel_rfl) (fun _ _ _ h => h) rfl ?_ (by assumption) ?_
  rotate_left
  · (intro w hSw; (try dsimp only at hSw); go_simp; try with_reducible rfl)
  try simp only [Act.put, List.setIfInBounds_toArray, List.set_cons_zero, List.set_cons_succ]
  refine hm_take (i := 5) (v := ?_) rfl rfl (by kernel_rfl) (by kernel_rfl) (by kernel_rfl) (fun _ _ _ h => h) rfl ?_ (by assumption) ?_
  rotate_left
  · (intro w hSw; (try dsimp only at hSw); go_simp; try with_reducible rfl)
  try simp only [Act.put, List.setIfInBounds_toArray, List.set_cons_zero, List.set_cons_succ]
  refine hm_call (i := 4) rfl (by kernel_rfl) rfl (fun K hK => ?_)
  go_simp
  (go_at_call 70; refine (rd64_any _ _ _ _ (seg l 10 8) _ n1 (by omega) (BytesAt.bel hB1 (bel_drew (bel_refl _)))).mono ?_; rintro e w1 ⟨rfl, hb1⟩; have HH := H.drew.grow hb1; obtain ⟨y0, y1, y2, y3⟩ := HH.atz hz; obtain ⟨x0, x1, x2, x3⟩ := HH.frz fz hb)
  (try go_wp2_with fail)
  refine hK.out _ _ (by (try dsimp only); all_goals exact trivial) (fun hHeld => ?_)
  clear hK K
  try simp only [Act.put, List.setIfInBounds_toArray, List.set_cons_zero, List.set_cons_succ]
  refine hm_take (i := 6) (v := ?_) rfl rfl (by kernel_rfl) (by kernel_rfl) (by kernel_rfl) (fun _ _ _ h => h) rfl ?_ (by assumption) ?_
  rotate_left
  · (intro w hSw; (try dsimp only at hSw); go_simp; try with_reducible rfl)
  try simp only [Act.put, List.setIfInBounds_toArray, List.set_cons_zero, List.set_cons_succ]
  refine hm_call (i := 7) rfl (by kernel_rfl) rfl (fun K hK => ?_)
  (go_simp)
  refine hK.out _ _ (by (try dsimp only); all_goals exact trivial) (fun hHeld => ?_)
  clear hK K
  try simp only [Act.put, List.setIfInBounds_toArray, List.set_cons_zero, List.set_cons_succ]
  refine wpAnyH_done (by kernel_rfl) ?_ _
  refine NoPanic.normal ?_
  have H2 : Left w b o (N4.setW (N4.setW (N4.setW z 3 (BitVec.ofNat 64 (Lib.beNat (seg l 0 2)))) 2 (BitVec.ofNat 64 (Lib.beNat (seg l 2 8)))) 1 (BitVec.ofNat 64 (Lib.beNat (seg l 10 8)))) (World.setCell w1 ⟨b, o + 1, none⟩ (.int .u64 ((Lib.beNat (seg l 10 8) : Nat) : Int))) := by
    rw [← U_ofNat _ (by omega)]
    exact (HH.one 1 (by omega) _)
  clear H hB1 HH y0 y1 y2 y3 x0 x1 x2 x3 hb1
  revert H2
  generalize World.setCell _ _ _ = W1
  intro H
  go_wp2
  have hB1 : BytesAt _ g (q + 18) (seg l 18 8) := (H.bytes hB hne).cut 18 8
  refine wp_region_noPanic ?_
  refine wp_region_held_drew (S := (fun _ => True)) (by kernel_rfl) (by all_goals exact trivial) (fun hHeld => ?_)
  refine hm_take (i := 0) (v := ?_) rfl rfl (by kernel_rfl) (by kernel_rfl) (by kernel_rfl) (fun _ _ _ h => h) rfl ?_ (by assumption) ?_
  rotate_left
  · (intro w hSw; (try dsimp only at hSw); go_simp; try with_reducible rfl)
  try simp only [Act.put, List.setIfInBounds_toArray, List.set_cons_zero, List.set_cons_succ]
  refine hm_take (i := 1) (v := ?_) rfl rfl (by kernel_rfl) (by kernel_rfl) (by kernel_rfl) (fun _ _ _ h => h) rfl ?_ (by assumption) ?_
  rotate_left
  · (intro w hSw; (try dsimp only at hSw); go_simp; try with_reducible rfl)
  try simp only [Act.put, List.setIfInBounds_toArray, List.set_cons_zero, List.set_cons_succ]
  refine hm_take (i := 2) (v := ?_) rfl rfl (by kernel_rfl) (by kernel_rfl) (by kernel_rfl) (fun _ _ _ h => h) rfl ?_ (by assumption) ?_
  rotate_left
  · (intro w hSw; (try dsimp only at hSw); go_simp; try with_reducible rfl)
  try simp only [Act.put, List.setIfInBounds_toArray, List.set_cons_zero, List.set_cons_succ]
  refine hm_take (i := 3) (v := ?_) rfl rfl (by kernel_rfl) (by kernel_rfl) (by kernel_rfl) (fun _ _ _ h => h) rfl ?_ (by assumption) ?_
  rotate_left
  · (intro w hSw; (try dsimp only at hSw); go_simp; try with_reducible rfl)
  try simp only [Act.put, List.setIfInBounds_toArray, List.set_cons_zero, List.set_cons_succ]
  refine hm_take (i := 5) (v := ?_) rfl rfl (by kernel_rfl) (by kernel_rfl) (by kernel_rfl) (fun _ _ _ h => h) rfl ?_ (by assumption) ?_
  rotate_left
  · (intro w hSw; (try dsimp only at hSw); go_simp; try with_reducible rfl)
  try simp only [Act.put, List.setIfInBounds_toArray, List.set_cons_zero, List.set_cons_succ]
  refine hm_call (i := 4) rfl (by kernel_rfl) rfl (fun K hK => ?_)
  go_simp
  (go_at_call 70; refine (rd64_any _ _ _ _ (seg l 18 8) _ n0 (by omega) (BytesAt.bel hB1 (bel_drew (bel_refl _)))).mono ?_; rintro e w1 ⟨rfl, hb1⟩; have HH := H.drew.grow hb1; obtain ⟨y0, y1, y2, y3⟩ := HH.atz hz; obtain ⟨x0, x1, x2, x3⟩ := HH.frz fz hb)
  (try go_wp2_with fail)
  refine hK.out _ _ (by (try dsimp only); all_goals exact trivial) (fun hHeld => ?_)
  clear hK K
  try simp only [Act.put, List.setIfInBounds_toArray, List.set_cons_zero, List.set_cons_succ]
  refine hm_take (i := 6) (v := ?_) rfl rfl (by kernel_rfl) (by kernel_rfl) (by kernel_rfl) (fun _ _ _ h => h) rfl ?_ (by assumption) ?_
  rotate_left
  · (intro w hSw; (try dsimp only at hSw); go_simp; try with_reducible rfl)
  try simp only [Act.put, List.setIfInBounds_toArray, List.set_cons_zero, List.set_cons_succ]
  refine hm_call (i := 7) rfl (by kernel_rfl) rfl (fun K hK => ?_)
  (go_simp)
  refine hK.out _ _ (by (try dsimp only); all_goals exact trivial) (fun hHeld => ?_)
  clear hK K
  try simp only [Act.put, List.setIfInBounds_toArray, List.set_cons_zero, List.set_cons_succ]
  refine wpAnyH_done (by kernel_rfl) ?_ _
  refine NoPanic.normal ?_
  have H2 : Left w b o (N4.setW (N4.setW (N4.setW (N4.setW z 3 (BitVec.ofNat 64 (Lib.beNat (seg l 0 2)))) 2 (BitVec.ofNat 64 (Lib.beNat (seg l 2 8)))) 1 (BitVec.ofNat 64 (Lib.beNat (seg l 10 8)))) 0 (BitVec.ofNat 64 (Lib.beNat (seg l 18 8)))) (World.setCell w1 ⟨b, o, none⟩ (.int .u64 ((Lib.beNat (seg l 18 8) : Nat) : Int))) := by
    rw [← U_ofNat _ (by omega)]
    exact (HH.one 0 (by omega) _)
  clear H hB1 HH y0 y1 y2 y3 x0 x1 x2 x3 hb1
  revert H2
  generalize World.setCell _ _ _ = W1
  intro H
  go_wp2
  go_ret
  refine ⟨rfl, ?_⟩
  have e : (N4.setW (N4.setW (N4.setW (N4.setW z 3 (BitVec.ofNat 64 (Lib.beNat (seg l 0 2)))) 2 (BitVec.ofNat 64 (Lib.beNat (seg l 2 8)))) 1 (BitVec.ofNat 64 (Lib.beNat (seg l 10 8)))) 0 (BitVec.ofNat 64 (Lib.beNat (seg l 18 8)))) = ofN (Lib.beNat (l.take 26)) := by
    apply eq_ofN
    rw [HV.out]
    simp only [N4.setW, N4.toNat, if_true, if_false, reduceIte, BitVec.toNat_ofNat, show ¬ (2 : Nat) = 0 by omega, show ¬ (3 : Nat) = 0 by omega, show ¬ (1 : Nat) = 0 by omega, show ¬ (2 : Nat) = 1 by omega, show ¬ (3 : Nat) = 1 by omega, show ¬ (3 : Nat) = 2 by omega]
    omega
  rw [← e]
  exact H
set_option maxHeartbeats 4000000 in
theorem set27_any (b o : Nat) (z : N4) (g q n cap : Nat) (l : List UInt8) (w : World) (hz : At4 w b o z) (fz : Free4 w b o) (hB : BytesAt w g q l) (hl : l.length = n) (hN : 27 ≤ n) (hcap : n ≤ cap) (hne : g ≠ b) :
    Calls Tryf.prog 54 #[.pointer (some ⟨b, o, none⟩), .slice (some ⟨g, q, none⟩) n cap] w (RetLeft b o (ofN (Lib.beNat (l.take 27))) w) := by
  have hb := hz.lt
  have H := Left.start hz
  have k0 : ¬ cap = 0 := by omega
  have c3 : (3 : Int) ≤ (cap : Int) := by omega
  have n3 : (seg l 0 3).length = 3 := by rw [seg_len]; omega
  have L3 := beNat_lt (seg l 0 3)
  rw [n3] at L3
  have k3 : ¬ cap = 3 := by omega
  have c11 : (11 : Int) ≤ (cap : Int) := by omega
  have n2 : (seg l 3 8).length = 8 := by rw [seg_len]; omega
  have L2 := beNat_lt (seg l 3 8)
  rw [n2] at L2
  have k11 : ¬ cap = 11 := by omega
  have c19 : (19 : Int) ≤ (cap : Int) := by omega
  have n1 : (seg l 11 8).length = 8 := by rw [seg_len]; omega
  have L1 := beNat_lt (seg l 11 8)
  rw [n1] at L1
  have k19 : ¬ cap = 19 := by omega
  have c27 : (27 : Int) ≤ (cap : Int) := by omega
  have n0 : (seg l 19 8).length = 8 := by rw [seg_len]; omega
  have L0 := beNat_lt (seg l 19 8)
  rw [n0] at L0
  obtain ⟨u, hu⟩ : ∃ u, l[26]? = some u := ⟨_, List.getElem?_eq_getElem (by omega)⟩
  have hc0 := hB 26 u hu
  have hp0 : (26 : Int) < (n : Int) := by omega
  clear hu
  have HV : Hid (Lib.beNat (l.take 27) = Lib.beNat (seg l 19 8) + 2 ^ 64 * Lib.beNat (seg l 11 8) + 2 ^ 128 * Lib.beNat (seg l 3 8) + 2 ^ 192 * Lib.beNat (seg l 0 3)) := by
    show _ = _
    rw [show l.take 27 = l.take 19 ++ seg l 19 8 from take_split l 19 8, beNat_append, n0]
    rw [show l.take 19 = l.take 11 ++ seg l 11 8 from take_split l 11 8, beNat_append, n1]
    rw [show l.take 11 = l.take 3 ++ seg l 3 8 from take_split l 3 8, beNat_append, n2]
    rw [← seg_zero]
    omega
  obtain ⟨z0, z1, z2, z3⟩ := hz
  obtain ⟨f0, f1, f2, f3⟩ := fz
  have hz : At4 w b o z := ⟨z0, z1, z2, z3⟩
  have fz : Free4 w b o := ⟨f0, f1, f2, f3⟩
  go_enter Tryf.func54, Tryf.ntmps54
  go_wp2
  clear z0 z1 z2 z3 f0 f1 f2 f3 hc0
  have hne2 : ¬ b = g := fun e => hne e.symm
  have hB1 : BytesAt _ g q (seg l 0 3) := (H.bytes hB hne).cut 0 3
  have k1b : ¬ cap = 1 := by omega
  have n2b : (seg l 1 2).length = 2 := by rw [seg_len]; omega
  have L2b := beNat_lt (seg l 1 2)
  rw [n2b] at L2b
  obtain ⟨u0, hu0⟩ : ∃ u, l[0]? = some u := ⟨_, List.getElem?_eq_getElem (by omega)⟩
  have hc1 := H.bytes hB hne 0 u0 hu0
  rw [Nat.add_zero] at hc1
  have E1 := beNat_take1 hu0
  have u0l := u0.toNat_lt
  have hn0 : 0 < n := by omega
  have hw0 : IntKind.u64.wrap (u0.toNat : Int) = (u0.toNat : Int) := by rw [IntKind.wrap_u64]; omega
  have hw2 : IntKind.u64.wrap ((Lib.beNat (seg l 1 2) : Nat) : Int) = ((Lib.beNat (seg l 1 2) : Nat) : Int) := by rw [IntKind.wrap_u64]; omega
  have E3 : Lib.beNat (seg l 0 3) = u0.toNat * 65536 + Lib.beNat (seg l 1 2) := by
    rw [seg_zero, show l.take 3 = l.take 1 ++ seg l 1 2 from take_split l 1 2, beNat_append, n2b, ← seg_zero, E1]
  have hor : bits BinOp.or IntKind.u64 ((Lib.beNat (seg l 1 2) : Nat) : Int) ((u0.toNat : Int) * 65536) = ((Lib.beNat (seg l 0 3) : Nat) : Int) := by
    rw [u64_or16 _ _ (by omega) (by omega) (by omega) (by omega) (by omega), E3]
    omega
  clear E3
  have hsh : IntKind.u64.wrap ((u0.toNat : Int) * 65536) = (u0.toNat : Int) * 65536 := by rw [IntKind.wrap_u64]; omega
  have hB2 : BytesAt _ g (q + 1) (seg l 1 2) := (H.bytes hB hne).cut 1 2
  refine wp_region_noPanic ?_
  refine wp_region_held_drew (S := (fun w9 => w9.cell? ⟨g, q, none⟩ = some (.int .u8 (u0.toNat : Int)))) (by kernel_rfl) (by exact hc1) (fun hHeld => ?_)
  refine hm_take (i := 0) (v := ?_) rfl rfl (by kernel_rfl) (by kernel_rfl) (by kernel_rfl) (fun _ _ _ h => h) rfl ?_ (by assumption) ?_
  rotate_left
  · (intro w hSw; (try dsimp only at hSw); go_simp; try with_reducible rfl)
  try simp only [Act.put, List.setIfInBounds_toArray, List.set_cons_zero, List.set_cons_succ]
  refine hm_take (i := 1) (v := ?_) rfl rfl (by kernel_rfl) (by kernel_rfl) (by kernel_rfl) (fun _ _ _ h => h) rfl ?_ (by assumption) ?_
  rotate_left
  · (intro w hSw; (try dsimp only at hSw); go_simp; try with_reducible rfl)
  try simp only [Act.put, List.setIfInBounds_toArray, List.set_cons_zero, List.set_cons_succ]
  refine hm_take (i := 2) (v := ?_) rfl rfl (by kernel_rfl) (by kernel_rfl) (by kernel_rfl) (fun _ _ _ h => h) rfl ?_ (by assumption) ?_
  rotate_left
  · (intro w hSw; (try dsimp only at hSw); go_simp; try with_reducible rfl)
  try simp only [Act.put, List.setIfInBounds_toArray, List.set_cons_zero, List.set_cons_succ]
  refine hm_take (i := 3) (v := ?_) rfl rfl (by kernel_rfl) (by kernel_rfl) (by kernel_rfl) (fun _ _ _ h => h) rfl ?_ (by assumption) ?_
  rotate_left
  · (intro w hSw; (try dsimp only at hSw); go_simp; try with_reducible rfl)
  try simp only [Act.put, List.setIfInBounds_toArray, List.set_cons_zero, List.set_cons_succ]
  refine hm_take (i := 6) (v := ?_) rfl rfl (by kernel_rfl) (by kernel_rfl) (by kernel_rfl) (fun _ _ _ h => h) rfl ?_ (by assumption) ?_
  rotate_left
  · (intro w hSw; (try dsimp only at hSw); go_simp; try with_reducible rfl)
  try simp only [Act.put, List.setIfInBounds_toArray, List.set_cons_zero, List.set_cons_succ]
  refine hm_take (i := 7) (v := ?_) rfl rfl (by kernel_rfl) (by kernel_rfl) (by kernel_rfl) (fun _ _ _ h => h) rfl ?_ (by assumption) ?_
  rotate_left
  · (intro w hSw; (try dsimp only at hSw); go_simp; try with_reducible rfl)
  try simp only [Act.put, List.setIfInBounds_toArray, List.set_cons_zero, List.set_cons_succ]
  refine hm_take (i := 8) (v := ?_) rfl rfl (by kernel_rfl) (by kernel_rfl) (by kernel_rfl) (fun _ _ _ h => h) rfl ?_ (by assumption) ?_
  rotate_left
  · (intro w hSw; (try dsimp only at hSw); go_simp; try with_reducible rfl)
  try simp only [Act.put, List.setIfInBounds_toArray, List.set_cons_zero, List.set_cons_succ]
  refine hm_take (i := 9) (v := ?_) rfl rfl (by kernel_rfl) (by kernel_rfl) (by kernel_rfl) (fun _ _ _ h => h) rfl ?_ (by assumption) ?_
  rotate_left
  · (intro w hSw; (try dsimp only at hSw); go_simp; try with_reducible rfl)
  try simp only [Act.put, List.setIfInBounds_toArray, List.set_cons_zero, List.set_cons_succ]
  refine hm_take (i := 10) (v := ?_) rfl rfl (by kernel_rfl) (by kernel_rfl) (by kernel_rfl) (fun _ _ _ h => h) rfl ?_ (by assumption) ?_
  rotate_left
  · (intro w hSw; (try dsimp only at hSw); go_simp; try with_reducible rfl)
  try simp only [Act.put, List.setIfInBounds_toArray, List.set_cons_zero, List.set_cons_succ]
  refine hm_take (i := 12) (v := ?_) rfl rfl (by kernel_rfl) (by kernel_rfl) (by kernel_rfl) (fun _ _ _ h => h) rfl ?_ (by assumption) ?_
  rotate_left
  · (intro w hSw; (try dsimp only at hSw); go_simp; try with_reducible rfl)
  try simp only [Act.put, List.setIfInBounds_toArray, List.set_cons_zero, List.set_cons_succ]
  refine hm_call (i := 4) rfl (by kernel_rfl) rfl (fun K hK => ?_)
  go_simp
  (go_at_call 65; refine (rd16_any _ _ _ _ (seg l 1 2) _ n2b (by omega) (BytesAt.bel hB2 (bel_drew (bel_refl _)))).mono ?_; rintro e w1 ⟨rfl, hb1⟩; have HH := H.drew.grow hb1; obtain ⟨y0, y1, y2, y3⟩ := HH.atz hz; obtain ⟨x0, x1, x2, x3⟩ := HH.frz fz hb)
  (try go_wp2_with fail)
  refine hK.out _ _ (by (try dsimp only); first | exact bel_cell hb1 hHeld | exact (World.cell?_setCell_other _ _ _ _ (by intro e; injection e with e; first | exact hne e | exact hne2 e)).trans hHeld) (fun hHeld => ?_)
  clear hK K
  try simp only [Act.put, List.setIfInBounds_toArray, List.set_cons_zero, List.set_cons_succ]
  refine hm_take (i := 5) (v := ?_) rfl rfl (by kernel_rfl) (by kernel_rfl) (by kernel_rfl) (fun _ _ _ h => h) rfl ?_ (by assumption) ?_
  rotate_left
  · (intro w hSw; (try dsimp only at hSw); go_simp; try with_reducible rfl)
  try simp only [Act.put, List.setIfInBounds_toArray, List.set_cons_zero, List.set_cons_succ]
  refine hm_take (i := 11) (v := ?_) rfl rfl (by kernel_rfl) (by kernel_rfl) (by kernel_rfl) (fun _ _ _ h => h) rfl ?_ (by assumption) ?_
  rotate_left
  · (intro w hSw; (try dsimp only at hSw); go_simp; try with_reducible rfl)
  try simp only [Act.put, List.setIfInBounds_toArray, List.set_cons_zero, List.set_cons_succ]
  refine hm_take (i := 13) (v := ?_) rfl rfl (by kernel_rfl) (by kernel_rfl) (by kernel_rfl) (fun _ _ _ h => h) rfl ?_ (by assumption) ?_
  rotate_left
  · (intro w hSw; (try dsimp only at hSw); go_simp; try with_reducible rfl)
  try simp only [Act.put, List.setIfInBounds_toArray, List.set_cons_zero, List.set_cons_succ]
  refine hm_call (i := 14) rfl (by kernel_rfl) rfl (fun K hK => ?_)
  (go_simp)
  refine hK.out _ _ (by (try dsimp only); first | exact bel_cell hb1 hHeld | exact (World.cell?_setCell_other _ _ _ _ (by intro e; injection e with e; first | exact hne e | exact hne2 e)).trans hHeld) (fun hHeld => ?_)
  clear hK K
  try simp only [Act.put, List.setIfInBounds_toArray, List.set_cons_zero, List.set_cons_succ]
  refine wpAnyH_done (by kernel_rfl) ?_ _
  refine NoPanic.normal ?_
  have H2 : Left w b o (N4.setW z 3 (BitVec.ofNat 64 (Lib.beNat (seg l 0 3)))) (World.setCell w1 ⟨b, o + 3, none⟩ (.int .u64 ((Lib.beNat (seg l 0 3) : Nat) : Int))) := by
    rw [← U_ofNat _ (by omega)]
    exact (HH.one 3 (by omega) _)
  clear H hB1 HH y0 y1 y2 y3 x0 x1 x2 x3 hb1 hc1 hw0 u0l hw2 hor hsh hB2
  revert H2
  generalize World.setCell _ _ _ = W1
  intro H
  go_wp2
  have hB1 : BytesAt _ g (q + 3) (seg l 3 8) := (H.bytes hB hne).cut 3 8
  refine wp_region_noPanic ?_
  refine wp_region_held_drew (S := (fun _ => True)) (by kernel_rfl) (by all_goals exact trivial) (fun hHeld => ?_)
  refine hm_take (i := 0) (v := ?_) rfl rfl (by kernel_rfl) (by kernel_rfl) (by kernel_rfl) (fun _ _ _ h => h) rfl ?_ (by assumption) ?_
  rotate_left
  · (intro w hSw; (try dsimp only at hSw); go_simp; try with_reducible rfl)
  try simp only [Act.put, List.setIfInBounds_toArray, List.set_cons_zero, List.set_cons_succ]
  refine hm_take (i := 1) (v := ?_) rfl rfl (by kernel_rfl) (by kernel_rfl) (by kernel_rfl) (fun _ _ _ h => h) rfl ?_ (by assumption) ?_
  rotate_left
  · (intro w hSw; (try dsimp only at hSw); go_simp; try with_reducible rfl)
  try simp only [Act.put, List.setIfInBounds_toArray, List.set_cons_zero, List.set_cons_succ]
  refine hm_take (i := 2) (v := ?_) rfl rfl (by kernel_rfl) (by kernel_rfl) (by kernel_rfl) (fun _ _ _ h => h) rfl ?_ (by assumption) ?_
  rotate_left
  · (intro w hSw; (try dsimp only at hSw); go_simp; try with_reducible rfl)
  try simp only [Act.put, List.setIfInBounds_toArray, List.set_cons_zero, List.set_cons_succ]
  refine hm_take (i := 3) (v := ?_) rfl rfl (by kernel_rfl) (by kernel_rfl) (by kernel_rfl) (fun _ _ _ h => h) rfl ?_ (by assumption) ?_
  rotate_left
  · (intro w hSw; (try dsimp only at hSw); go_simp; try with_reducible rfl)
  try simp only [Act.put, List.setIfInBounds_toArray, List.set_cons_zero, List.set_cons_succ]
  refine hm_take (i := 5) (v := ?_) rfl rfl (by kernel_rfl) (by kernel_rfl) (by kernel_rfl) (fun _ _ _ h => h) rfl ?_ (by assumption) ?_
  rotate_left
  · (intro w hSw; (try dsimp only at hSw); go_simp; try with_reducible rfl)
  try simp only [Act.put, List.setIfInBounds_toArray, List.set_cons_zero, List.set_cons_succ]
  refine hm_call (i := 4) rfl (by kernel_rfl) rfl (fun K hK => ?_)
  go_simp
  (go_at_call 70; refine (rd64_any _ _ _ _ (seg l 3 8) _ n2 (by omega) (BytesAt.bel hB1 (bel_drew (bel_refl _)))).mono ?_; rintro e w1 ⟨rfl, hb1⟩; have HH := H.drew.grow hb1; obtain ⟨y0, y1, y2, y3⟩ := HH.atz hz; obtain ⟨x0, x1, x2, x3⟩ := HH.frz fz hb)
  (try go_wp2_with fail)
  refine hK.out _ _ (by (try dsimp only); all_goals exact trivial) (fun hHeld => ?_)
  clear hK K
  try simp only [Act.put, List.setIfInBounds_toArray, List.set_cons_zero, List.set_cons_succ]
  refine hm_take (i := 6) (v := ?_) rfl rfl (by kernel_rfl) (by kernel_rfl) (by kernel_rfl) (fun _ _ _ h => h) rfl ?_ (by assumption) ?_
  rotate_left
  · (intro w hSw; (try dsimp only at hSw); go_simp; try with_reducible rfl)
  try simp only [Act.put, List.setIfInBounds_toArray, List.set_cons_zero, List.set_cons_succ]
  refine hm_call (i := 7) rfl (by kernel_rfl) rfl (fun K hK => ?_)
  (go_simp)
  refine hK.out _ _ (by (try dsimp only); all_goals exact trivial) (fun hHeld => ?_)
  clear hK K
  try simp only [Act.put, List.setIfInBounds_toArray, List.set_cons_zero, List.set_cons_succ]
  refine wpAnyH_done (by kernel_rfl) ?_ _
  refine NoPanic.normal ?_
  have H2 : Left w b o (N4.setW (N4.setW z 3 (BitVec.ofNat 64 (Lib.beNat (seg l 0 3)))) 2 (BitVec.ofNat 64 (Lib.beNat (seg l 3 8)))) (World.setCell w1 ⟨b, o + 2, none⟩ (.int .u64 ((Lib.beNat (seg l 3 8) : Nat) : Int))) := by
    rw [← U_ofNat _ (by omega)]
    exact (HH.one 2 (by omega) _)
  clear H hB1 HH y0 y1 y2 y3 x0 x1 x2 x3 hb1
  revert H2
  generalize World.setCell _ _ _ = W1
  intro H
  go_wp2
  have hB1 : BytesAt _ g (q + 11) (seg l 11 8) := (H.bytes hB hne).cut 11 8
  refine wp_region_noPanic ?_
  refine wp_region_held_drew (S := (fun _ => True)) (by kernel_rfl) (by all_goals exact trivial) (fun hHeld => ?_)
  refine hm_take (i := 0) (v := ?_) rfl rfl (by kernel_rfl) (by kernel_rfl) (by kernel_rfl) (fun _ _ _ h => h) rfl ?_ (by assumption) ?_
  rotate_left
  · (intro w hSw; (try dsimp only at hSw); go_simp; try with_reducible rfl)
  try simp only [Act.put, List.setIfInBounds_toArray, List.set_cons_zero, List.set_cons_succ]
  refine hm_take (i := 1) (v := ?_) rfl rfl (by kernel_rfl) (by kernel_rfl) (by kernel_rfl) (fun _ _ _ h => h) rfl ?_ (by assumption) ?_
  rotate_left
  · (intro w hSw; (try dsimp only at hSw); go_simp; try with_reducible rfl)
  try simp only [Act.put, List.setIfInBounds_toArray, List.set_cons_zero, List.set_cons_succ]
  refine hm_take (i := 2) (v := ?_) rfl rfl (by kernel_rfl) (by kernel_rfl) (by kernel_rfl) (fun _ _ _ h => h) rfl ?_ (by assumption) ?_
  rotate_left
  · (intro w hSw; (try dsimp only at hSw); go_simp; try with_reducible rfl)
  try simp only [Act.put, List.setIfInBounds_toArray, List.set_cons_zero, List.set_cons_succ]
  refine hm_take (i := 3) (v := ?_) rfl rfl (by kernel_rfl) (by kernel_rfl) (by kernel_rfl) (fun _ _ _ h => h) rfl ?_ (by assumption) ?_
  rotate_left
  · (intro w hSw; (try dsimp only at hSw); go_simp; try with_reducible rfl)
  try simp only [Act.put, List.setIfInBounds_toArray, List.set_cons_zero, List.set_cons_succ]
  refine hm_take (i := 5) (v := ?_) rfl rfl (by kernel_rfl) (by kernel_rfl) (by kernel_rfl) (fun _ _ _ h => h) rfl ?_ (by assumption) ?_
  rotate_left
  · (intro w hSw; (try dsimp only at hSw); go_simp; try with_reducible rfl)
  try simp only [Act.put, List.setIfInBounds_toArray, List.set_cons_zero, List.set_cons_succ]
  refine hm_call (i := 4) rfl (by kernel_rfl) rfl (fun K hK => ?_)
  go_simp
  (go_at_call 70; refine (rd64_any _ _ _ _ (seg l 11 8) _ n1 (by omega) (BytesAt.bel hB1 (bel_drew (bel_refl _)))).mono ?_; rintro e w1 ⟨rfl, hb1⟩; have HH := H.drew.grow hb1; obtain ⟨y0, y1, y2, y3⟩ := HH.atz hz; obtain ⟨x0, x1, x2, x3⟩ := HH.frz fz hb)
  (try go_wp2_with fail)
  refine hK.out _ _ (by (try dsimp only); all_goals exact trivial) (fun hHeld => ?_)
  clear hK K
  try simp only [Act.put, List.setIfInBounds_toArray, List.set_cons_zero, List.set_cons_succ]
  refine hm_take (i := 6) (v := ?_) rfl rfl (by kernel_rfl) (by kernel_rfl) (by kernel_rfl) (fun _ _ _ h => h) rfl ?_ (by assumption) ?_
  rotate_left
  · (intro w hSw; (try dsimp only at hSw); go_simp; try with_reducible rfl)
  try simp only [Act.put, List.setIfInBounds_toArray, List.set_cons_zero, List.set_cons_succ]
  refine hm_call (i := 7) rfl (by kernel_rfl) rfl (fun K hK => ?_)
  (go_simp)
  refine hK.out _ _ (by (try dsimp only); all_goals exact trivial) (fun hHeld => ?_)
  clear hK K
  try simp only [Act.put, List.setIfInBounds_toArray, List.set_cons_zero, List.set_cons_succ]
  refine wpAnyH_done (by kernel_rfl) ?_ _
  refine NoPanic.normal ?_
  have H2 : Left w b o (N4.setW (N4.setW (N4.setW z 3 (BitVec.ofNat 64 (Lib.beNat (seg l 0 3)))) 2 (BitVec.ofNat 64 (Lib.beNat (seg l 3 8)))) 1 (BitVec.ofNat 64 (Lib.beNat (seg l 11 8)))) (World.setCell w1 ⟨b, o + 1, none⟩ (.int .u64 ((Lib.beNat (seg l 11 8) : Nat) : Int))) := by
    rw [← U_ofNat _ (by omega)]
    exact (HH.one 1 (by omega) _)
  clear H hB1 HH y0 y1 y2 y3 x0 x1 x2 x3 hb1
  revert H2
  generalize World.setCell _ _ _ = W1
  intro H
  go_wp2
  have hB1 : BytesAt _ g (q + 19) (seg l 19 8) := (H.bytes hB hne).cut 19 8
  refine wp_region_noPanic ?_
  refine wp_region_held_drew (S := (fun _ => True)) (by kernel_rfl) (by all_goals exact trivial) (fun hHeld => ?_)
  refine hm_take (i := 0) (v := ?_) rfl rfl (by kernel_rfl) (by kernel_rfl) (by kernel_rfl) (fun _ _ _ h => h) rfl ?_ (by assumption) ?_
  rotate_left
  · (intro w hSw; (try dsimp only at hSw); go_simp; try with_reducible rfl)
  try simp only [Act.put, List.setIfInBounds_toArray, List.set_cons_zero, List.set_cons_succ]
  refine hm_take (i := 1) (v := ?_) rfl rfl (by kernel_rfl) (by kernel_rfl) (by kernel_rfl) (fun _ _ _ h => h) rfl ?_ (by assumption) ?_
  rotate_left
  · (intro w hSw; (try dsimp only at hSw); go_simp; try with_reducible rfl)
  try simp only [Act.put, List.setIfInBounds_toArray, List.set_cons_zero, List.set_cons_succ]
  refine hm_take (i := 2) (v := ?_) rfl rfl (by kernel_rfl) (by kernel_rfl) (by kernel_rfl) (fun _ _ _ h => h) rfl ?_ (by assumption) ?_
  rotate_left
  · (intro w hSw; (try dsimp only at hSw); go_simp; try with_reducible rfl)
  try simp only [Act.put, List.setIfInBounds_toArray, List.set_cons_zero, List.set_cons_succ]
  refine hm_take (i := 3) (v := ?_) rfl rfl (by kernel_rfl) (by kernel_rfl) (by kernel_rfl) (fun _ _ _ h => h) rfl ?_ (by assumption) ?_
  rotate_left
  · (intro w hSw; (try dsimp only at hSw); go_simp; try with_reducible rfl)
  try simp only [Act.put, List.setIfInBounds_toArray, List.set_cons_zero, List.set_cons_succ]
  refine hm_take (i := 5) (v := ?_) rfl rfl (by kernel_rfl) (by kernel_rfl) (by kernel_rfl) (fun _ _ _ h => h) rfl ?_ (by assumption) ?_
  rotate_left
  · (intro w hSw; (try dsimp only at hSw); go_simp; try with_reducible rfl)
  try simp only [Act.put, List.setIfInBounds_toArray, List.set_cons_zero, List.set_cons_succ]
  refine hm_call (i := 4) rfl (by kernel_rfl) rfl (fun K hK => ?_)
  go_simp
  (go_at_call 70; refine (rd64_any _ _ _ _ (seg l 19 8) _ n0 (by omega) (BytesAt.bel hB1 (bel_drew (bel_refl _)))).mono ?_; rintro e w1 ⟨rfl, hb1⟩; have HH := H.drew.grow hb1; obtain ⟨y0, y1, y2, y3⟩ := HH.atz hz; obtain ⟨x0, x1, x2, x3⟩ := HH.frz fz hb)
  (try go_wp2_with fail)
  refine hK.out _ _ (by (try dsimp only); all_goals exact trivial) (fun hHeld => ?_)
  clear hK K
  try simp only [Act.put, List.setIfInBounds_toArray, List.set_cons_zero, List.set_cons_succ]
  refine hm_take (i := 6) (v := ?_) rfl rfl (by kernel_rfl) (by kernel_rfl) (by kernel_rfl) (fun _ _ _ h => h) rfl ?_ (by assumption) ?_
  rotate_left
  · (intro w hSw; (try dsimp only at hSw); go_simp; try with_reducible rfl)
  try simp only [Act.put, List.setIfInBounds_toArray, List.set_cons_zero, List.set_cons_succ]
  refine hm_call (i := 7) rfl (by kernel_rfl) rfl (fun K hK => ?_)
  (go_simp)
  refine hK.out _ _ (by (try dsimp only); all_goals exact trivial) (fun hHeld => ?_)
  clear hK K
  try simp only [Act.put, List.setIfInBounds_toArray, List.set_cons_zero, List.set_cons_succ]
  refine wpAnyH_done (by kernel_rfl) ?_ _
  refine NoPanic.normal ?_
  have H2 : Left w b o (N4.setW (N4.setW (N4.setW (N4.setW z 3 (BitVec.ofNat 64 (Lib.beNat (seg l 0 3)))) 2 (BitVec.ofNat 64 (Lib.beNat (seg l 3 8)))) 1 (BitVec.ofNat 64 (Lib.beNat (seg l 11 8)))) 0 (BitVec.ofNat 64 (Lib.beNat (seg l 19 8)))) (World.setCell w1 ⟨b, o, none⟩ (.int .u64 ((Lib.beNat (seg l 19 8) : Nat) : Int))) := by
    rw [← U_ofNat _ (by omega)]
    exact (HH.one 0 (by omega) _)
  clear H hB1 HH y0 y1 y2 y3 x0 x1 x2 x3 hb1
  revert H2
  generalize World.setCell _ _ _ = W1
  intro H
  go_wp2
  go_ret
  refine ⟨rfl, ?_⟩
  have e : (N4.setW (N4.setW (N4.setW (N4.setW z 3 (BitVec.ofNat 64 (Lib.beNat (seg l 0 3)))) 2 (BitVec.ofNat 64 (Lib.beNat (seg l 3 8)))) 1 (BitVec.ofNat 64 (Lib.beNat (seg l 11 8)))) 0 (BitVec.ofNat 64 (Lib.beNat (seg l 19 8)))) = ofN (Lib.beNat (l.take 27)) := by
    apply eq_ofN
    rw [HV.out]
    simp only [N4.setW, N4.toNat, if_true, if_false, reduceIte, BitVec.toNat_ofNat, show ¬ (2 : Nat) = 0 by omega, show ¬ (3 : Nat) = 0 by omega, show ¬ (1 : Nat) = 0 by omega, show ¬ (2 : Nat) = 1 by omega, show ¬ (3 : Nat) = 1 by omega, show ¬ (3 : Nat) = 2 by omega]
    omega
  rw [← e]
  exact H
end Go.Proofs.YtpmhkmcikjbncaaFmt
