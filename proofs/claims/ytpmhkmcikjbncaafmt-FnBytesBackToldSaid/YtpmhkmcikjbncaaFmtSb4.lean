/-
  How a number's four words are stored one by one; what SetBytes1 to SetBytes32 leave.
-/
import Derived.Test.YtpmhkmcikjbncaaFmtSb
import Derived.Test.YtpmhkmcikjbncaaFmtDig5
namespace Go.Proofs.YtpmhkmcikjbncaaFmt
open Go.RowKit
set_option linter.unusedVariables false
set_option linter.unusedSimpArgs false
set_option maxRecDepth 100000
set_option maxHeartbeats 4000000 in
theorem set28_any (b o : Nat) (z : N4) (g q n cap : Nat) (l : List UInt8) (w : World) (hz : At4 w b o z) (fz : Free4 w b o) (hB : BytesAt w g q l) (hl : l.length = n) (hN : 28 ≤ n) (hcap : n ≤ cap) (hne : g ≠ b) :
    Calls Tryf.prog 55 #[.pointer (some ⟨b, o, none⟩), .slice (some ⟨g, q, none⟩) n cap] w (RetLeft b o (ofN (Lib.beNat (l.take 28))) w) := by
  have hb := hz.lt
  have H := Left.start hz
  have k0 : ¬ cap = 0 := by omega
  have c4 : (4 : Int) ≤ (cap : Int) := by omega
  have n3 : (seg l 0 4).length = 4 := by rw [seg_len]; omega
  have L3 := beNat_lt (seg l 0 4)
  rw [n3] at L3
  have k4 : ¬ cap = 4 := by omega
  have c12 : (12 : Int) ≤ (cap : Int) := by omega
  have n2 : (seg l 4 8).length = 8 := by rw [seg_len]; omega
  have L2 := beNat_lt (seg l 4 8)
  rw [n2] at L2
  have k12 : ¬ cap = 12 := by omega
  have c20 : (20 : Int) ≤ (cap : Int) := by omega
  have n1 : (seg l 12 8).length = 8 := by rw [seg_len]; omega
  have L1 := beNat_lt (seg l 12 8)
  rw [n1] at L1
  have k20 : ¬ cap = 20 := by omega
  have c28 : (28 : Int) ≤ (cap : Int) := by omega
  have n0 : (seg l 20 8).length = 8 := by rw [seg_len]; omega
  have L0 := beNat_lt (seg l 20 8)
  rw [n0] at L0
  obtain ⟨u, hu⟩ : ∃ u, l[27]? = some u := ⟨_, List.getElem?_eq_getElem (by omega)⟩
  have hc0 := hB 27 u hu
  have hp0 : (27 : Int) < (n : Int) := by omega
  clear hu
  have HV : Hid (Lib.beNat (l.take 28) = Lib.beNat (seg l 20 8) + 2 ^ 64 * Lib.beNat (seg l 12 8) + 2 ^ 128 * Lib.beNat (seg l 4 8) + 2 ^ 192 * Lib.beNat (seg l 0 4)) := by
    show _ = _
    rw [show l.take 28 = l.take 20 ++ seg l 20 8 from take_split l 20 8, beNat_append, n0]
    rw [show l.take 20 = l.take 12 ++ seg l 12 8 from take_split l 12 8, beNat_append, n1]
    rw [show l.take 12 = l.take 4 ++ seg l 4 8 from take_split l 4 8, beNat_append, n2]
    rw [← seg_zero]
    omega
  obtain ⟨z0, z1, z2, z3⟩ := hz
  obtain ⟨f0, f1, f2, f3⟩ := fz
  have hz : At4 w b o z := ⟨z0, z1, z2, z3⟩
  have fz : Free4 w b o := ⟨f0, f1, f2, f3⟩
  go_enter Tryf.func55, Tryf.ntmps55
  go_wp2
  clear z0 z1 z2 z3 f0 f1 f2 f3 hc0
  have hne2 : ¬ b = g := fun e => hne e.symm
  have hB1 : BytesAt _ g q (seg l 0 4) := (H.bytes hB hne).cut 0 4
  have hwr : IntKind.u64.wrap ((Lib.beNat (seg l 0 4) : Nat) : Int) = ((Lib.beNat (seg l 0 4) : Nat) : Int) := by rw [IntKind.wrap_u64]; omega
  refine wp_region_noPanic ?_
  refine wp_region_held_drew (S := (fun _ => True)) (by kernel_rfl) (by all_goals exact trivial) (fun hHeld => ?_)
  refine hm_take (i := 0) (v := ?_) rfl rfl (by kernel_rfl) (by kernel_rfl) (by kernel_rfl) (fun _ _ _ h => h) rfl ?_ (by assumption) ?_
  rotate_left
  · (intro w hSw; (try dsimp only at hSw); go_simp; try with_reducible rfl)
  try simp only [Act.put, List.setIfInBounds_toArray, List.set_cons_zero, List.set_cons_succ]
  refine hm_take (i := 1) (v := ?_) rfl rfl (by kernel_rfl) (by kernel_rfl) (by kernel_rfl) (fun _ _ _ h => h) rfl ?_ (by assumption) ?_
  rotate_left
  · (intro w hSw; (try dsimp only at hSw); go_simp; try with_reducible rfl)
  try simp only [Act.put, List.setIfInBounds_toArray, List.set_cons_zero, List.set_cons_succ]
  refine hm_take (i := 2) (v := ?_) rfl rfl (by kernel_rfl) (by kernel_rfl) (by kernel_rfl) (fun _ _ _ h => h) rfl ?_ (by assumption) ?_
  rotate_left
  · (intro w hSw; (try dsimp only at hSw); go_simp; try with_reducible rfl)
  try simp only [Act.put, List.setIfInBounds_toArray, List.set_cons_zero, List.set_cons_succ]
  refine hm_take (i := 3) (v := ?_) rfl rfl (by kernel_rfl) (by kernel_rfl) (by kernel_rfl) (fun _ _ _ h => h) rfl ?_ (by assumption) ?_
  rotate_left
  · (intro w hSw; (try dsimp only at hSw); go_simp; try with_reducible rfl)
  try simp only [Act.put, List.setIfInBounds_toArray, List.set_cons_zero, List.set_cons_succ]
  refine hm_take (i := 6) (v := ?_) rfl rfl (by kernel_rfl) (by kernel_rfl) (by kernel_rfl) (fun _ _ _ h => h) rfl ?_ (by assumption) ?_
  rotate_left
  · (intro w hSw; (try dsimp only at hSw); go_simp; try with_reducible rfl)
  try simp only [Act.put, List.setIfInBounds_toArray, List.set_cons_zero, List.set_cons_succ]
  refine hm_call (i := 4) rfl (by kernel_rfl) rfl (fun K hK => ?_)
  go_simp
  (go_at_call 66; refine (rd32_any _ _ _ _ (seg l 0 4) _ n3 (by omega) (BytesAt.bel hB1 (bel_drew (bel_refl _)))).mono ?_; rintro e w1 ⟨rfl, hb1⟩; have HH := H.drew.grow hb1; obtain ⟨y0, y1, y2, y3⟩ := HH.atz hz; obtain ⟨x0, x1, x2, x3⟩ := HH.frz fz hb)
  (try go_wp2_with fail)
  refine hK.out _ _ (by (try dsimp only); all_goals exact trivial) (fun hHeld => ?_)
  clear hK K
  try simp only [Act.put, List.setIfInBounds_toArray, List.set_cons_zero, List.set_cons_succ]
  refine hm_take (i := 5) (v := ?_) rfl rfl (by kernel_rfl) (by kernel_rfl) (by kernel_rfl) (fun _ _ _ h => h) rfl ?_ (by assumption) ?_
  rotate_left
  · (intro w hSw; (try dsimp only at hSw); go_simp; try with_reducible rfl)
  try simp only [Act.put, List.setIfInBounds_toArray, List.set_cons_zero, List.set_cons_succ]
  refine hm_take (i := 7) (v := ?_) rfl rfl (by kernel_rfl) (by kernel_rfl) (by kernel_rfl) (fun _ _ _ h => h) rfl ?_ (by assumption) ?_
  rotate_left
  · (intro w hSw; (try dsimp only at hSw); go_simp; try with_reducible rfl)
  try simp only [Act.put, List.setIfInBounds_toArray, List.set_cons_zero, List.set_cons_succ]
  refine hm_call (i := 8) rfl (by kernel_rfl) rfl (fun K hK => ?_)
  (go_simp)
  refine hK.out _ _ (by (try dsimp only); all_goals exact trivial) (fun hHeld => ?_)
  clear hK K
  try simp only [Act.put, List.setIfInBounds_toArray, List.set_cons_zero, List.set_cons_succ]
  refine wpAnyH_done (by kernel_rfl) ?_ _
  refine NoPanic.normal ?_
  have H2 : Left w b o (N4.setW z 3 (BitVec.ofNat 64 (Lib.beNat (seg l 0 4)))) (World.setCell w1 ⟨b, o + 3, none⟩ (.int .u64 ((Lib.beNat (seg l 0 4) : Nat) : Int))) := by
    rw [← U_ofNat _ (by omega)]
    exact (HH.one 3 (by omega) _)
  clear H hB1 HH y0 y1 y2 y3 x0 x1 x2 x3 hb1 hwr
  revert H2
  generalize World.setCell _ _ _ = W1
  intro H
  go_wp2
  have hB1 : BytesAt _ g (q + 4) (seg l 4 8) := (H.bytes hB hne).cut 4 8
  refine wp_region_noPanic ?_
  refine wp_region_held_drew (S := (fun _ => True)) (by kernel_rfl) (by all_goals exact trivial) (fun hHeld => ?_)
  refine hm_take (i := 0) (v := ?_) rfl rfl (by kernel_rfl) (by kernel_rfl) (by kernel_rfl) (fun _ _ _ h => h) rfl ?_ (by assumption) ?_
  rotate_left
  · (intro w hSw; (try dsimp only at hSw); go_simp; try with_reducible rfl)
  try simp only [Act.put, List.setIfInBounds_toArray, List.set_cons_zero, List.set_cons_succ]
  refine hm_take (i := 1) (v := ?_) rfl rfl (by kernel_rfl) (by kernel_rfl) (by kernel_rfl) (fun _ _ _ h => h) rfl ?_ (by assumption) ?_
  rotate_left
  · (intro w hSw; (try dsimp only at hSw); go_simp; try with_reducible rfl)
  try simp only [Act.put, List.setIfInBounds_toArray, List.set_cons_zero, List.set_cons_succ]
  refine hm_take (i := 2) (v := ?_) rfl rfl (by kernel_rfl) (by kernel_rfl) (by kernel_rfl) (fun _ _ _ h => h) rfl ?_ (by assumption) ?_
  rotate_left
  · (intro w hSw; (try dsimp only at hSw); go_simp; try with_reducible rfl)
  try simp only [Act.put, List.setIfInBounds_toArray, List.set_cons_zero, List.set_cons_succ]
  refine hm_take (i := 3) (v := ?_) rfl rfl (by kernel_rfl) (by kernel_rfl) (by kernel_rfl) (fun _ _ _ h => h) rfl ?_ (by assumption) ?_
  rotate_left
  · (intro w hSw; (try dsimp only at hSw); go_simp; try with_reducible rfl)
  try simp only [Act.put, List.setIfInBounds_toArray, List.set_cons_zero, List.set_cons_succ]
  refine hm_take (i := 5) (v := ?_) rfl rfl (by kernel_rfl) (by kernel_rfl) (by kernel_rfl) (fun _ _ _ h => h) rfl ?_ (by assumption) ?_
  rotate_left
  · (intro w hSw; (try dsimp only at hSw); go_simp; try with_reducible rfl)
  try simp only [Act.put, List.setIfInBounds_toArray, List.set_cons_zero, List.set_cons_succ]
  refine hm_call (i := 4) rfl (by kernel_rfl) rfl (fun K hK => ?_)
  go_simp
  (go_at_call 70; refine (rd64_any _ _ _ _ (seg l 4 8) _ n2 (by omega) (BytesAt.bel hB1 (bel_drew (bel_refl _)))).mono ?_; rintro e w1 ⟨rfl, hb1⟩; have HH := H.drew.grow hb1; obtain ⟨y0, y1, y2, y3⟩ := HH.atz hz; obtain ⟨x0, x1, x2, x3⟩ := HH.frz fz hb)
  (try go_wp2_with fail)
  refine hK.out _ _ (by (try dsimp only); all_goals exact trivial) (fun hHeld => ?_)
  clear hK K
  try simp only [Act.put, List.setIfInBounds_toArray, List.set_cons_zero, List.set_cons_succ]
  refine hm_take (i := 6) (v := ?_) rfl rfl (by kernel_rfl) (by kernel_rfl) (by kernel_rfl) (fun _ _ _ h => h) rfl ?_ (by assumption) ?_
  rotate_left
  · (intro w hSw; (try dsimp only at hSw); go_simp; try with_reducible rfl)
  try simp only [Act.put, List.setIfInBounds_toArray, List.set_cons_zero, List.set_cons_succ]
  refine hm_call (i := 7) rfl (by kernel_rfl) rfl (fun K hK => ?_)
  (go_simp)
  refine hK.out _ _ (by (try dsimp only); all_goals exact trivial) (fun hHeld => ?_)
  clear hK K
  try simp only [Act.put, List.setIfInBounds_toArray, List.set_cons_zero, List.set_cons_succ]
  refine wpAnyH_done (by kernel_rfl) ?_ _
  refine NoPanic.normal ?_
  have H2 : Left w b o (N4.setW (N4.setW z 3 (BitVec.ofNat 64 (Lib.beNat (seg l 0 4)))) 2 (BitVec.ofNat 64 (Lib.beNat (seg l 4 8)))) (World.setCell w1 ⟨b, o + 2, none⟩ (.int .u64 ((Lib.beNat (seg l 4 8) : Nat) : Int))) := by
    rw [← U_ofNat _ (by omega)]
    exact (HH.one 2 (by omega) _)
  clear H hB1 HH y0 y1 y2 y3 x0 x1 x2 x3 hb1
  revert H2
  generalize World.setCell _ _ _ = W1
  intro H
  go_wp2
  have hB1 : BytesAt _ g (q + 12) (seg l 12 8) := (H.bytes hB hne).cut 12 8
  refine wp_region_noPanic ?_
  refine wp_region_held_drew (S := (fun _ => True)) (by kernel_rfl) (by all_goals exact trivial) (fun hHeld => ?_)
  refine hm_take (i := 0) (v := ?_) rfl rfl (by kernel_rfl) (by kernel_rfl) (by kernel_rfl) (fun _ _ _ h => h) rfl ?_ (by assumption) ?_
  rotate_left
  · (intro w hSw; (try dsimp only at hSw); go_simp; try with_reducible rfl)
  try simp only [Act.put, List.setIfInBounds_toArray, List.set_cons_zero, List.set_cons_succ]
  refine hm_take (i := 1) (v := ?_) rfl rfl (by kernel_rfl) (by kernel_rfl) (by kernel_rfl) (fun _ _ _ h => h) rfl ?_ (by assumption) ?_
  rotate_left
  · (intro w hSw; (try dsimp only at hSw); go_simp; try with_reducible rfl)
  try simp only [Act.put, List.setIfInBounds_toArray, List.set_cons_zero, List.set_cons_succ]
  refine hm_take (i := 2) (v := ?_) rfl rfl (by kernel_rfl) (by kernel_rfl) (by kernel_rfl) (fun _ _ _ h => h) rfl ?_ (by assumption) ?_
  rotate_left
  · (intro w hSw; (try dsimp only at hSw); go_simp; try with_reducible rfl)
  try simp only [Act.put, List.setIfInBounds_toArray, List.set_cons_zero, List.set_cons_succ]
  refine hm_take (i := 3) (v := ?_) rfl rfl (by kernel_rfl) (by kernel_rfl) (by kernel_rfl) (fun _ _ _ h => h) rfl ?_ (by assumption) ?_
  rotate_left
  · (intro w hSw; (try dsimp only at hSw); go_simp; try with_reducible rfl)
  try simp only [Act.put, List.setIfInBounds_toArray, List.set_cons_zero, List.set_cons_succ]
  refine hm_take (i := 5) (v := ?_) rfl rfl (by kernel_rfl) (by kernel_rfl) (by kernel_rfl) (fun _ _ _ h => h) rfl ?_ (by assumption) ?_
  rotate_left
  · (intro w hSw; (try dsimp only at hSw); go_simp; try with_reducible rfl)
  try simp only [Act.put, List.setIfInBounds_toArray, List.set_cons_zero, List.set_cons_succ]
  refine hm_call (i := 4) rfl (by kernel_rfl) rfl (fun K hK => ?_)
  go_simp
  (go_at_call 70; refine (rd64_any _ _ _ _ (seg l 12 8) _ n1 (by omega) (BytesAt.bel hB1 (bel_drew (bel_refl _)))).mono ?_; rintro e w1 ⟨rfl, hb1⟩; have HH := H.drew.grow hb1; obtain ⟨y0, y1, y2, y3⟩ := HH.atz hz; obtain ⟨x0, x1, x2, x3⟩ := HH.frz fz hb)
  (try go_wp2_with fail)
  refine hK.out _ _ (by (try dsimp only); all_goals exact trivial) (fun hHeld => ?_)
  clear hK K
  try simp only [Act.put, List.setIfInBounds_toArray, List.set_cons_zero, List.set_cons_succ]
  refine hm_take (i := 6) (v := ?_) rfl rfl (by kernel_rfl) (by kernel_rfl) (by kernel_rfl) (fun _ _ _ h => h) rfl ?_ (by assumption) ?_
  rotate_left
  · (intro w hSw; (try dsimp only at hSw); go_simp; try with_reducible rfl)
  try simp only [Act.put, List.setIfInBounds_toArray, List.set_cons_zero, List.set_cons_succ]
  refine hm_call (i := 7) rfl (by kernel_rfl) rfl (fun K hK => ?_)
  (go_simp)
  refine hK.out _ _ (by (try dsimp only); all_goals exact trivial) (fun hHeld => ?_)
  clear hK K
  try simp only [Act.put, List.setIfInBounds_toArray, List.set_cons_zero, List.set_cons_succ]
  refine wpAnyH_done (by kernel_rfl) ?_ _
  refine NoPanic.normal ?_
  have H2 : Left w b o (N4.setW (N4.setW (N4.setW z 3 (BitVec.ofNat 64 (Lib.beNat (seg l 0 4)))) 2 (BitVec.ofNat 64 (Lib.beNat (seg l 4 8)))) 1 (BitVec.ofNat 64 (Lib.beNat (seg l 12 8)))) (World.setCell w1 ⟨b, o + 1, none⟩ (.int .u64 ((Lib.beNat (seg l 12 8) : Nat) : Int))) := by
    rw [← U_ofNat _ (by omega)]
    exact (HH.one 1 (by omega) _)
  clear H hB1 HH y0 y1 y2 y3 x0 x1 x2 x3 hb1
  revert H2
  generalize World.setCell _ _ _ = W1
  intro H
  go_wp2
  have hB1 : BytesAt _ g (q + 20) (seg l 20 8) := (H.bytes hB hne).cut 20 8
  refine wp_region_noPanic ?_
  refine wp_region_held_drew (S := (fun _ => True)) (by kernel_rfl) (by all_goals exact trivial) (fun hHeld => ?_)
  refine hm_take (i := 0) (v := ?_) rfl rfl (by kernel_rfl) (by kernel_rfl) (by kernel_rfl) (fun _ _ _ h => h) rfl ?_ (by assumption) ?_
  rotate_left
  · (intro w hSw; (try dsimp only at hSw); go_simp; try with_reducible rfl)
  try simp only [Act.put, List.setIfInBounds_toArray, List.set_cons_zero, List.set_cons_succ]
  refine hm_take (i := 1) (v := ?_) rfl rfl (by kernel_rfl) (by kernel_rfl) (by kernel_rfl) (fun _ _ _ h => h) rfl ?_ (by assumption) ?_
  rotate_left
  · (intro w hSw; (try dsimp only at hSw); go_simp; try with_reducible rfl)
  try simp only [Act.put, List.setIfInBounds_toArray, List.set_cons_zero, List.set_cons_succ]
  refine hm_take (i := 2) (v := ?_) rfl rfl (by kernel_rfl) (by kernel_rfl) (by kernel_rfl) (fun _ _ _ h => h) rfl ?_ (by assumption) ?_
  rotate_left
  · (intro w hSw; (try dsimp only at hSw); go_simp; try with_reducible rfl)
  try simp only [Act.put, List.setIfInBounds_toArray, List.set_cons_zero, List.set_cons_succ]
  refine hm_take (i := 3) (v := ?_) rfl rfl (by kernel_rfl) (by kernel_rfl) (by kernel_rfl) (fun _ _ _ h => h) rfl ?_ (by assumption) ?_
  rotate_left
  · (intro w hSw; (try dsimp only at hSw); go_simp; try with_reducible rfl)
  try simp only [Act.put, List.setIfInBounds_toArray, List.set_cons_zero, List.set_cons_succ]
  refine hm_take (i := 5) (v := ?_) rfl rfl (by kernel_rfl) (by kernel_rfl) (by kernel_rfl) (fun _ _ _ h => h) rfl ?_ (by assumption) ?_
  rotate_left
  · (intro w hSw; (try dsimp only at hSw); go_simp; try with_reducible rfl)
  try simp only [Act.put, List.setIfInBounds_toArray, List.set_cons_zero, List.set_cons_succ]
  refine hm_call (i := 4) rfl (by kernel_rfl) rfl (fun K hK => ?_)
  go_simp
  (go_at_call 70; refine (rd64_any _ _ _ _ (seg l 20 8) _ n0 (by omega) (BytesAt.bel hB1 (bel_drew (bel_refl _)))).mono ?_; rintro e w1 ⟨rfl, hb1⟩; have HH := H.drew.grow hb1; obtain ⟨y0, y1, y2, y3⟩ := HH.atz hz; obtain ⟨x0, x1, x2, x3⟩ := HH.frz fz hb)
  (try go_wp2_with fail)
  refine hK.out _ _ (by (try dsimp only); all_goals exact trivial) (fun hHeld => ?_)
  clear hK K
  try simp only [Act.put, List.setIfInBounds_toArray, List.set_cons_zero, List.set_cons_succ]
  refine hm_take (i := 6) (v := ?_) rfl rfl (by kernel_rfl) (by kernel_rfl) (by kernel_rfl) (fun _ _ _ h => h) rfl ?_ (by assumption) ?_
  rotate_left
  · (intro w hSw; (try dsimp only at hSw); go_simp; try with_reducible rfl)
  try simp only [Act.put, List.setIfInBounds_toArray, List.set_cons_zero, List.set_cons_succ]
  refine hm_call (i := 7) rfl (by kernel_rfl) rfl (fun K hK => ?_)
  (go_simp)
  refine hK.out _ _ (by (try dsimp only); all_goals exact trivial) (fun hHeld => ?_)
  clear hK K
  try simp only [Act.put, List.setIfInBounds_toArray, List.set_cons_zero, List.set_cons_succ]
  refine wpAnyH_done (by kernel_rfl) ?_ _
  refine NoPanic.normal ?_
  have H2 : Left w b o (N4.setW (N4.setW (N4.setW (N4.setW z 3 (BitVec.ofNat 64 (Lib.beNat (seg l 0 4)))) 2 (BitVec.ofNat 64 (Lib.beNat (seg l 4 8)))) 1 (BitVec.ofNat 64 (Lib.beNat (seg l 12 8)))) 0 (BitVec.ofNat 64 (Lib.beNat (seg l 20 8)))) (World.setCell w1 ⟨b, o, none⟩ (.int .u64 ((Lib.beNat (seg l 20 8) : Nat) : Int))) := by
    rw [← U_ofNat _ (by omega)]
    exact (HH.one 0 (by omega) _)
  clear H hB1 HH y0 y1 y2 y3 x0 x1 x2 x3 hb1
  revert H2
  generalize World.setCell _ _ _ = W1
  intro H
  go_wp2
  go_ret
  refine ⟨rfl, ?_⟩
  have e : (N4.setW (N4.setW (N4.setW (N4.setW z 3 (BitVec.ofNat 64 (Lib.beNat (seg l 0 4)))) 2 (BitVec.ofNat 64 (Lib.beNat (seg l 4 8)))) 1 (BitVec.ofNat 64 (Lib.beNat (seg l 12 8)))) 0 (BitVec.ofNat 64 (Lib.beNat (seg l 20 8)))) = ofN (Lib.beNat (l.take 28)) := by
    apply eq_ofN
    rw [HV.out]
    simp only [N4.setW, N4.toNat, if_true, if_false, reduceIte, BitVec.toNat_ofNat, show ¬ (2 : Nat) = 0 by omega, show ¬ (3 : Nat) = 0 by omega, show ¬ (1 : Nat) = 0 by omega, show ¬ (2 : Nat) = 1 by omega, show ¬ (3 : Nat) = 1 by omega, show ¬ (3 : Nat) = 2 by omega]
    omega
  rw [← e]
  exact H
set_option maxHeartbeats 4000000 in
theorem set29_any (b o : Nat) (z : N4) (g q n cap : Nat) (l : List UInt8) (w : World) (hz : At4 w b o z) (fz : Free4 w b o) (hB : BytesAt w g q l) (hl : l.length = n) (hN : 29 ≤ n) (hcap : n ≤ cap) (hne : g ≠ b) :
    Calls Tryf.prog 56 #[.pointer (some ⟨b, o, none⟩), .slice (some ⟨g, q, none⟩) n cap] w (RetLeft b o (ofN (Lib.beNat (l.take 29))) w) := by
  have hb := hz.lt
  have H := Left.start hz
  have k0 : ¬ cap = 0 := by omega
  have c5 : (5 : Int) ≤ (cap : Int) := by omega
  have n3 : (seg l 0 5).length = 5 := by rw [seg_len]; omega
  have L3 := beNat_lt (seg l 0 5)
  rw [n3] at L3
  have k5 : ¬ cap = 5 := by omega
  have c13 : (13 : Int) ≤ (cap : Int) := by omega
  have n2 : (seg l 5 8).length = 8 := by rw [seg_len]; omega
  have L2 := beNat_lt (seg l 5 8)
  rw [n2] at L2
  have k13 : ¬ cap = 13 := by omega
  have c21 : (21 : Int) ≤ (cap : Int) := by omega
  have n1 : (seg l 13 8).length = 8 := by rw [seg_len]; omega
  have L1 := beNat_lt (seg l 13 8)
  rw [n1] at L1
  have k21 : ¬ cap = 21 := by omega
  have c29 : (29 : Int) ≤ (cap : Int) := by omega
  have n0 : (seg l 21 8).length = 8 := by rw [seg_len]; omega
  have L0 := beNat_lt (seg l 21 8)
  rw [n0] at L0
  obtain ⟨u, hu⟩ : ∃ u, l[28]? = some u := ⟨_, List.getElem?_eq_getElem (by omega)⟩
  have hc0 := hB 28 u hu
  have hp0 : (28 : Int) < (n : Int) := by omega
  clear hu
  have HV : Hid (Lib.beNat (l.take 29) = Lib.beNat (seg l 21 8) + 2 ^ 64 * Lib.beNat (seg l 13 8) + 2 ^ 128 * Lib.beNat (seg l 5 8) + 2 ^ 192 * Lib.beNat (seg l 0 5)) := by
    show _ = _
    rw [show l.take 29 = l.take 21 ++ seg l 21 8 from take_split l 21 8, beNat_append, n0]
    rw [show l.take 21 = l.take 13 ++ seg l 13 8 from take_split l 13 8, beNat_append, n1]
    rw [show l.take 13 = l.take 5 ++ seg l 5 8 from take_split l 5 8, beNat_append, n2]
    rw [← seg_zero]
    omega
  obtain ⟨z0, z1, z2, z3⟩ := hz
  obtain ⟨f0, f1, f2, f3⟩ := fz
  have hz : At4 w b o z := ⟨z0, z1, z2, z3⟩
  have fz : Free4 w b o := ⟨f0, f1, f2, f3⟩
  go_enter Tryf.func56, Tryf.ntmps56
  go_wp2
  clear z0 z1 z2 z3 f0 f1 f2 f3 hc0
  have hne2 : ¬ b = g := fun e => hne e.symm
  have hB1 : BytesAt _ g q (seg l 0 5) := (H.bytes hB hne).cut 0 5
  refine wp_region_noPanic ?_
  refine wp_region_held_drew (S := (fun _ => True)) (by kernel_rfl) (by all_goals exact trivial) (fun hHeld => ?_)
  refine hm_take (i := 0) (v := ?_) rfl rfl (by kernel_rfl) (by kernel_rfl) (by kernel_rfl) (fun _ _ _ h => h) rfl ?_ (by assumption) ?_
  rotate_left
  · (intro w hSw; (try dsimp only at hSw); go_simp; try with_reducible rfl)
  try simp only [Act.put, List.setIfInBounds_toArray, List.set_cons_zero, List.set_cons_succ]
  refine hm_take (i := 1) (v := ?_) rfl rfl (by kernel_rfl) (by kernel_rfl) (by kernel_rfl) (fun _ _ _ h => h) rfl ?_ (by assumption) ?_
  rotate_left
  · (intro w hSw; (try dsimp only at hSw); go_simp; try with_reducible rfl)
  try simp only [Act.put, List.setIfInBounds_toArray, List.set_cons_zero, List.set_cons_succ]
  refine hm_take (i := 2) (v := ?_) rfl rfl (by kernel_rfl) (by kernel_rfl) (by kernel_rfl) (fun _ _ _ h => h) rfl ?_ (by assumption) ?_
  rotate_left
  · (intro w hSw; (try dsimp only at hSw); go_simp; try with_reducible rfl)
  try simp only [Act.put, List.setIfInBounds_toArray, List.set_cons_zero, List.set_cons_succ]
  refine hm_take (i := 4) (v := ?_) rfl rfl (by kernel_rfl) (by kernel_rfl) (by kernel_rfl) (fun _ _ _ h => h) rfl ?_ (by assumption) ?_
  rotate_left
  · (intro w hSw; (try dsimp only at hSw); go_simp; try with_reducible rfl)
  try simp only [Act.put, List.setIfInBounds_toArray, List.set_cons_zero, List.set_cons_succ]
  refine hm_call (i := 3) rfl (by kernel_rfl) rfl (fun K hK => ?_)
  go_simp
  (go_at_call 67; refine (rd40_any _ _ _ _ (seg l 0 5) _ n3 (by omega) (BytesAt.bel hB1 (bel_drew (bel_refl _)))).mono ?_; rintro e w1 ⟨rfl, hb1⟩; have HH := H.drew.grow hb1; obtain ⟨y0, y1, y2, y3⟩ := HH.atz hz; obtain ⟨x0, x1, x2, x3⟩ := HH.frz fz hb)
  (try go_wp2_with fail)
  refine hK.out _ _ (by (try dsimp only); all_goals exact trivial) (fun hHeld => ?_)
  clear hK K
  try simp only [Act.put, List.setIfInBounds_toArray, List.set_cons_zero, List.set_cons_succ]
  refine hm_take (i := 5) (v := ?_) rfl rfl (by kernel_rfl) (by kernel_rfl) (by kernel_rfl) (fun _ _ _ h => h) rfl ?_ (by assumption) ?_
  rotate_left
  · (intro w hSw; (try dsimp only at hSw); go_simp; try with_reducible rfl)
  try simp only [Act.put, List.setIfInBounds_toArray, List.set_cons_zero, List.set_cons_succ]
  refine hm_call (i := 6) rfl (by kernel_rfl) rfl (fun K hK => ?_)
  (go_simp)
  refine hK.out _ _ (by (try dsimp only); all_goals exact trivial) (fun hHeld => ?_)
  clear hK K
  try simp only [Act.put, List.setIfInBounds_toArray, List.set_cons_zero, List.set_cons_succ]
  refine wpAnyH_done (by kernel_rfl) ?_ _
  refine NoPanic.normal ?_
  have H2 : Left w b o (N4.setW z 3 (BitVec.ofNat 64 (Lib.beNat (seg l 0 5)))) (World.setCell w1 ⟨b, o + 3, none⟩ (.int .u64 ((Lib.beNat (seg l 0 5) : Nat) : Int))) := by
    rw [← U_ofNat _ (by omega)]
    exact (HH.one 3 (by omega) _)
  clear H hB1 HH y0 y1 y2 y3 x0 x1 x2 x3 hb1
  revert H2
  generalize World.setCell _ _ _ = W1
  intro H
  go_wp2
  have hB1 : BytesAt _ g (q + 5) (seg l 5 8) := (H.bytes hB hne).cut 5 8
  refine wp_region_noPanic ?_
  refine wp_region_held_drew (S := (fun _ => True)) (by kernel_rfl) (by all_goals exact trivial) (fun hHeld => ?_)
  refine hm_take (i := 0) (v := ?_) rfl rfl (by kernel_rfl) (by kernel_rfl) (by kernel_rfl) (fun _ _ _ h => h) rfl ?_ (by assumption) ?_
  rotate_left
  · (intro w hSw; (try dsimp only at hSw); go_simp; try with_reducible rfl)
  try simp only [Act.put, List.setIfInBounds_toArray, List.set_cons_zero, List.set_cons_succ]
  refine hm_take (i := 1) (v := ?_) rfl rfl (by kernel_rfl) (by kernel_rfl) (by kernel_rfl) (fun _ _ _ h => h) rfl ?_ (by assumption) ?_
  rotate_left
  · (intro w hSw; (try dsimp only at hSw); go_simp; try with_reducible rfl)
  try simp only [Act.put, List.setIfInBounds_toArray, List.set_cons_zero, List.set_cons_succ]
  refine hm_take (i := 2) (v := ?_) rfl rfl (by kernel_rfl) (by kernel_rfl) (by kernel_rfl) (fun _ _ _ h => h) rfl ?_ (by assumption) ?_
  rotate_left
  · (intro w hSw; (try dsimp only at hSw); go_simp; try with_reducible rfl)
  try simp only [Act.put, List.setIfInBounds_toArray, List.set_cons_zero, List.set_cons_succ]
  refine hm_take (i := 3) (v := ?_) rfl rfl (by kernel_rfl) (by kernel_rfl) (by kernel_rfl) (fun _ _ _ h => h) rfl ?_ (by assumption) ?_
  rotate_left
  · (intro w hSw; (try dsimp only at hSw); go_simp; try with_reducible rfl)
  try simp only [Act.put, List.setIfInBounds_toArray, List.set_cons_zero, List.set_cons_succ]
  refine hm_take (i := 5) (v := ?_) rfl rfl (by kernel_rfl) (by kernel_rfl) (by kernel_rfl) (fun _ _ _ h => h) rfl ?_ (by assumption) ?_
  rotate_left
  · (intro w hSw; (try dsimp only at hSw); go_simp; try with_reducible rfl)
  try simp only [Act.put, List.setIfInBounds_toArray, List.set_cons_zero, List.set_cons_succ]
  refine hm_call (i := 4) rfl (by kernel_rfl) rfl (fun K hK => ?_)
  go_simp
  (go_at_call 70; refine (rd64_any _ _ _ _ (seg l 5 8) _ n2 (by omega) (BytesAt.bel hB1 (bel_drew (bel_refl _)))).mono ?_; rintro e w1 ⟨rfl, hb1⟩; have HH := H.drew.grow hb1; obtain ⟨y0, y1, y2, y3⟩ := HH.atz hz; obtain ⟨x0, x1, x2, x3⟩ := HH.frz fz hb)
  (try go_wp2_with fail)
  refine hK.out _ _ (by (try dsimp only); all_goals exact trivial) (fun hHeld => ?_)
  clear hK K
  try simp only [Act.put, List.setIfInBounds_toArray, List.set_cons_zero, List.set_cons_succ]
  refine hm_take (i := 6) (v := ?_) rfl rfl (by kernel_rfl) (by kernel_rfl) (by kernel_rfl) (fun _ _ _ h => h) rfl ?_ (by assumption) ?_
  rotate_left
  · (intro w hSw; (try dsimp only at hSw); go_simp; try with_reducible rfl)
  try simp only [Act.put, List.setIfInBounds_toArray, List.set_cons_zero, List.set_cons_succ]
  refine hm_call (i := 7) rfl (by kernel_rfl) rfl (fun K hK => ?_)
  (go_simp)
  refine hK.out _ _ (by (try dsimp only); all_goals exact trivial) (fun hHeld => ?_)
  clear hK K
  try simp only [Act.put, List.setIfInBounds_toArray, List.set_cons_zero, List.set_cons_succ]
  refine wpAnyH_done (by kernel_rfl) ?_ _
  refine NoPanic.normal ?_
  have H2 : Left w b o (N4.setW (N4.setW z 3 (BitVec.ofNat 64 (Lib.beNat (seg l 0 5)))) 2 (BitVec.ofNat 64 (Lib.beNat (seg l 5 8)))) (World.setCell w1 ⟨b, o + 2, none⟩ (.int .u64 ((Lib.beNat (seg l 5 8) : Nat) : Int))) := by
    rw [← U_ofNat _ (by omega)]
    exact (HH.one 2 (by omega) _)
  clear H hB1 HH y0 y1 y2 y3 x0 x1 x2 x3 hb1
  revert H2
  generalize World.setCell _ _ _ = W1
  intro H
  go_wp2
  have hB1 : BytesAt _ g (q + 13) (seg l 13 8) := (H.bytes hB hne).cut 13 8
  refine wp_region_noPanic ?_
  refine wp_region_held_drew (S := (fun _ => True)) (by kernel_rfl) (by all_goals exact trivial) (fun hHeld => ?_)
  refine hm_take (i := 0) (v := ?_) rfl rfl (by kernel_rfl) (by kernel_rfl) (by kernel_rfl) (fun _ _ _ h => h) rfl ?_ (by assumption) ?_
  rotate_left
  · (intro w hSw; (try dsimp only at hSw); go_simp; try with_reducible rfl)
  try simp only [Act.put, List.setIfInBounds_toArray, List.set_cons_zero, List.set_cons_succ]
  refine hm_take (i := 1) (v := ?_) rfl rfl (by kernel_rfl) (by kernel_rfl) (by kernel_rfl) (fun _ _ _ h => h) rfl ?_ (by assumption) ?_
  rotate_left
  · (intro w hSw; (try dsimp only at hSw); go_simp; try with_reducible rfl)
  try simp only [Act.put, List.setIfInBounds_toArray, List.set_cons_zero, List.set_cons_succ]
  refine hm_take (i := 2) (v := ?_) rfl rfl (by kernel_rfl) (by kernel_rfl) (by kernel_rfl) (fun _ _ _ h => h) rfl ?_ (by assumption) ?_
  rotate_left
  · (intro w hSw; (try dsimp only at hSw); go_simp; try with_reducible rfl)
  try simp only [Act.put, List.setIfInBounds_toArray, List.set_cons_zero, List.set_cons_succ]
  refine hm_take (i := 3) (v := ?_) rfl rfl (by kernel_rfl) (by kernel_rfl) (by kernel_rfl) (fun _ _ _ h => h) rfl ?_ (by assumption) ?_
  rotate_left
  · (intro w hSw; (try dsimp only at hSw); go_simp; try with_reducible rfl)
  try simp only [Act.put, List.setIfInBounds_toArray, List.set_cons_zero, List.set_cons_succ]
  refine hm_take (i := 5) (v := ?_) rfl rfl (by kernel_rfl) (by kernel_rfl) (by kernel_rfl) (fun _ _ _ h => h) rfl ?_ (by assumption) ?_
  rotate_left
  · (intro w hSw; (try dsimp only at hSw); go_simp; try with_reducible rfl)
  try simp only [Act.put, List.setIfInBounds_toArray, List.set_cons_zero, List.set_cons_succ]
  refine hm_call (i := 4) rfl (by kernel_rfl) rfl (fun K hK => ?_)
  go_simp
  (go_at_call 70; refine (rd64_any _ _ _ _ (seg l 13 8) _ n1 (by omega) (BytesAt.bel hB1 (bel_drew (bel_refl _)))).mono ?_; rintro e w1 ⟨rfl, hb1⟩; have HH := H.drew.grow hb1; obtain ⟨y0, y1, y2, y3⟩ := HH.atz hz; obtain ⟨x0, x1, x2, x3⟩ := HH.frz fz hb)
  (try go_wp2_with fail)
  refine hK.out _ _ (by (try dsimp only); all_goals exact trivial) (fun hHeld => ?_)
  clear hK K
  try simp only [Act.put, List.setIfInBounds_toArray, List.set_cons_zero, List.set_cons_succ]
  refine hm_take (i := 6) (v := ?_) rfl rfl (by kernel_rfl) (by kernel_rfl) (by kernel_rfl) (fun _ _ _ h => h) rfl ?_ (by assumption) ?_
  rotate_left
  · (intro w hSw; (try dsimp only at hSw); go_simp; try with_reducible rfl)
  try simp only [Act.put, List.setIfInBounds_toArray, List.set_cons_zero, List.set_cons_succ]
  refine hm_call (i := 7) rfl (by kernel_rfl) rfl (fun K hK => ?_)
  (go_simp)
  refine hK.out _ _ (by (try dsimp only); all_goals exact trivial) (fun hHeld => ?_)
  clear hK K
  try simp only [Act.put, List.setIfInBounds_toArray, List.set_cons_zero, List.set_cons_succ]
  refine wpAnyH_done (by kernel_rfl) ?_ _
  refine NoPanic.normal ?_
  have H2 : Left w b o (N4.setW (N4.setW (N4.setW z 3 (BitVec.ofNat 64 (Lib.beNat (seg l 0 5)))) 2 (BitVec.ofNat 64 (Lib.beNat (seg l 5 8)))) 1 (BitVec.ofNat 64 (Lib.beNat (seg l 13 8)))) (World.setCell w1 ⟨b, o + 1, none⟩ (.int .u64 ((Lib.beNat (seg l 13 8) : Nat) : Int))) := by
    rw [← U_ofNat _ (by omega)]
    exact (HH.one 1 (by omega) _)
  clear H hB1 HH y0 y1 y2 y3 x0 x1 x2 x3 hb1
  revert H2
  generalize World.setCell _ _ _ = W1
  intro H
  go_wp2
  have hB1 : BytesAt _ g (q + 21) (seg l 21 8) := (H.bytes hB hne).cut 21 8
  refine wp_region_noPanic ?_
  refine wp_region_held_drew (S := (fun _ => True)) (by kernel_rfl) (by all_goals exact trivial) (fun hHeld => ?_)
  refine hm_take (i := 0) (v := ?_) rfl rfl (by kernel_rfl) (by kernel_rfl) (by kernel_rfl) (fun _ _ _ h => h) rfl ?_ (by assumption) ?_
  rotate_left
  · (intro w hSw; (try dsimp only at hSw); go_simp; try with_reducible rfl)
  try simp only [Act.put, List.setIfInBounds_toArray, List.set_cons_zero, List.set_cons_succ]
  refine hm_take (i := 1) (v := ?_) rfl rfl (by kernel_rfl) (by kernel_rfl) (by kernel_rfl) (fun _ _ _ h => h) rfl ?_ (by assumption) ?_
  rotate_left
  · (intro w hSw; (try dsimp only at hSw); go_simp; try with_reducible rfl)
  try simp only [Act.put, List.setIfInBounds_toArray, List.set_cons_zero, List.set_cons_succ]
  refine hm_take (i := 2) (v := ?_) rfl rfl (by kernel_rfl) (by kernel_rfl) (by kernel_rfl) (fun _ _ _ h => h) rfl ?_ (by assumption) ?_
  rotate_left
  · (intro w hSw; (try dsimp only at hSw); go_simp; try with_reducible rfl)
  try simp only [Act.put, List.setIfInBounds_toArray, List.set_cons_zero, List.set_cons_succ]
  refine hm_take (i := 3) (v := ?_) rfl rfl (by kernel_rfl) (by kernel_rfl) (by kernel_rfl) (fun _ _ _ h => h) rfl ?_ (by assumption) ?_
  rotate_left
  · (intro w hSw; (try dsimp only at hSw); go_simp; try with_reducible rfl)
  try simp only [Act.put, List.setIfInBounds_toArray, List.set_cons_zero, List.set_cons_succ]
  refine hm_take (i := 5) (v := ?_) rfl rfl (by kernel_rfl) (by kernel_rfl) (by kernel_rfl) (fun _ _ _ h => h) rfl ?_ (by assumption) ?_
  rotate_left
  · (intro w hSw; (try dsimp only at hSw); go_simp; try with_reducible rfl)
  try simp only [Act.put, List.setIfInBounds_toArray, List.set_cons_zero, List.set_cons_succ]
  refine hm_call (i := 4) rfl (by kernel_rfl) rfl (fun K hK => ?_)
  go_simp
  (go_at_call 70; refine (rd64_any _ _ _ _ (seg l 21 8) _ n0 (by omega) (BytesAt.bel hB1 (bel_drew (bel_refl _)))).mono ?_; rintro e w1 ⟨rfl, hb1⟩; have HH := H.drew.grow hb1; obtain ⟨y0, y1, y2, y3⟩ := HH.atz hz; obtain ⟨x0, x1, x2, x3⟩ := HH.frz fz hb)
  (try go_wp2_with fail)
  refine hK.out _ _ (by (try dsimp only); all_goals exact trivial) (fun hHeld => ?_)
  clear hK K
  try simp only [Act.put, List.setIfInBounds_toArray, List.set_cons_zero, List.set_cons_succ]
  refine hm_take (i := 6) (v := ?_) rfl rfl (by kernel_rfl) (by kernel_rfl) (by kernel_rfl) (fun _ _ _ h => h) rfl ?_ (by assumption) ?_
  rotate_left
  · (intro w hSw; (try dsimp only at hSw); go_simp; try with_reducible rfl)
  try simp only [Act.put, List.setIfInBounds_toArray, List.set_cons_zero, List.set_cons_succ]
  refine hm_call (i := 7) rfl (by kernel_rfl) rfl (fun K hK => ?_)
  (go_simp)
  refine hK.out _ _ (by (try dsimp only); all_goals exact trivial) (fun hHeld => ?_)
  clear hK K
  try simp only [Act.put, List.setIfInBounds_toArray, List.set_cons_zero, List.set_cons_succ]
  refine wpAnyH_done (by kernel_rfl) ?_ _
  refine NoPanic.normal ?_
  have H2 : Left w b o (N4.setW (N4.setW (N4.setW (N4.setW z 3 (BitVec.ofNat 64 (Lib.beNat (seg l 0 5)))) 2 (BitVec.ofNat 64 (Lib.beNat (seg l 5 8)))) 1 (BitVec.ofNat 64 (Lib.beNat (seg l 13 8)))) 0 (BitVec.ofNat 64 (Lib.beNat (seg l 21 8)))) (World.setCell w1 ⟨b, o, none⟩ (.int .u64 ((Lib.beNat (seg l 21 8) : Nat) : Int))) := by
    rw [← U_ofNat _ (by omega)]
    exact (HH.one 0 (by omega) _)
  clear H hB1 HH y0 y1 y2 y3 x0 x1 x2 x3 hb1
  revert H2
  generalize World.setCell _ _ _ = W1
  intro H
  go_wp2
  go_ret
  refine ⟨rfl, ?_⟩
  have e : (N4.setW (N4.setW (N4.setW (N4.setW z 3 (BitVec.ofNat 64 (Lib.beNat (seg l 0 5)))) 2 (BitVec.ofNat 64 (Lib.beNat (seg l 5 8)))) 1 (BitVec.ofNat 64 (Lib.beNat (seg l 13 8)))) 0 (BitVec.ofNat 64 (Lib.beNat (seg l 21 8)))) = ofN (Lib.beNat (l.take 29)) := by
    apply eq_ofN
    rw [HV.out]
    simp only [N4.setW, N4.toNat, if_true, if_false, reduceIte, BitVec.toNat_ofNat, show ¬ (2 : Nat) = 0 by omega, show ¬ (3 : Nat) = 0 by omega, show ¬ (1 : Nat) = 0 by omega, show ¬ (2 : Nat) = 1 by omega, show ¬ (3 : Nat) = 1 by omega, show ¬ (3 : Nat) = 2 by omega]
    omega
  rw [← e]
  exact H
set_option maxHeartbeats 4000000 in
theorem set30_any (b o : Nat) (z : N4) (g q n cap : Nat) (l : List UInt8) (w : World) (hz : At4 w b o z) (fz : Free4 w b o) (hB : BytesAt w g q l) (hl : l.length = n) (hN : 30 ≤ n) (hcap : n ≤ cap) (hne : g ≠ b) :
    Calls Tryf.prog 57 #[.pointer (some ⟨b, o, none⟩), .slice (some ⟨g, q, none⟩) n cap] w (RetLeft b o (ofN (Lib.beNat (l.take 30))) w) := by
  have hb := hz.lt
  have H := Left.start hz
  have k0 : ¬ cap = 0 := by omega
  have c6 : (6 : Int) ≤ (cap : Int) := by omega
  have n3 : (seg l 0 6).length = 6 := by rw [seg_len]; omega
  have L3 := beNat_lt (seg l 0 6)
  rw [n3] at L3
  have k6 : ¬ cap = 6 := by omega
  have c14 : (14 : Int) ≤ (cap : Int) := by omega
  have n2 : (seg l 6 8).length = 8 := by rw [seg_len]; omega
  have L2 := beNat_lt (seg l 6 8)
  rw [n2] at L2
  have k14 : ¬ cap = 14 := by omega
  have c22 : (22 : Int) ≤ (cap : Int) := by omega
  have n1 : (seg l 14 8).length = 8 := by rw [seg_len]; omega
  have L1 := beNat_lt (seg l 14 8)
  rw [n1] at L1
  have k22 : ¬ cap = 22 := by omega
  have c30 : (30 : Int) ≤ (cap : Int) := by omega
  have n0 : (seg l 22 8).length = 8 := by rw [seg_len]; omega
  have L0 := beNat_lt (seg l 22 8)
  rw [n0] at L0
  obtain ⟨u, hu⟩ : ∃ u, l[29]? = some u := ⟨_, List.getElem?_eq_getElem (by omega)⟩
  have hc0 := hB 29 u hu
  have hp0 : (29 : Int) < (n : Int) := by omega
  clear hu
  have HV : Hid (Lib.beNat (l.take 30) = Lib.beNat (seg l 22 8) + 2 ^ 64 * Lib.beNat (seg l 14 8) + 2 ^ 128 * Lib.beNat (seg l 6 8) + 2 ^ 192 * Lib.beNat (seg l 0 6)) := by
    show _ = _
    rw [show l.take 30 = l.take 22 ++ seg l 22 8 from take_split l 22 8, beNat_append, n0]
    rw [show l.take 22 = l.take 14 ++ seg l 14 8 from take_split l 14 8, beNat_append, n1]
    rw [show l.take 14 = l.take 6 ++ seg l 6 8 from take_split l 6 8, beNat_append, n2]
    rw [← seg_zero]
    omega
  obtain ⟨z0, z1, z2, z3⟩ := hz
  obtain ⟨f0, f1, f2, f3⟩ := fz
  have hz : At4 w b o z := ⟨z0, z1, z2, z3⟩
  have fz : Free4 w b o := ⟨f0, f1, f2, f3⟩
  go_enter Tryf.func57, Tryf.ntmps57
  go_wp2
  clear z0 z1 z2 z3 f0 f1 f2 f3 hc0
  have hne2 : ¬ b = g := fun e => hne e.symm
  have hB1 : BytesAt _ g q (seg l 0 6) := (H.bytes hB hne).cut 0 6
  refine wp_region_noPanic ?_
  refine wp_region_held_drew (S := (fun _ => True)) (by kernel_rfl) (by all_goals exact trivial) (fun hHeld => ?_)
  refine hm_take (i := 0) (v := ?_) rfl rfl (by kernel_rfl) (by kernel_rfl) (by kernel_rfl) (fun _ _ _ h => h) rfl ?_ (by assumption) ?_
  rotate_left
  · (intro w hSw; (try dsimp only at hSw); go_simp; try with_reducible rfl)
  try simp only [Act.put, List.setIfInBounds_toArray, List.set_cons_zero, List.set_cons_succ]
  refine hm_take (i := 1) (v := ?_) rfl rfl (by kernel_rfl) (by kernel_rfl) (by kernel_rfl) (fun _ _ _ h => h) rfl ?_ (by assumption) ?_
  rotate_left
  · (intro w hSw; (try dsimp only at hSw); go_simp; try with_reducible rfl)
  try simp only [Act.put, List.setIfInBounds_toArray, List.set_cons_zero, List.set_cons_succ]
  refine hm_take (i := 2) (v := ?_) rfl rfl (by kernel_rfl) (by kernel_rfl) (by kernel_rfl) (fun _ _ _ h => h) rfl ?_ (by assumption) ?_
  rotate_left
  · (intro w hSw; (try dsimp only at hSw); go_simp; try with_reducible rfl)
  try simp only [Act.put, List.setIfInBounds_toArray, List.set_cons_zero, List.set_cons_succ]
  refine hm_take (i := 4) (v := ?_) rfl rfl (by kernel_rfl) (by kernel_rfl) (by kernel_rfl) (fun _ _ _ h => h) rfl ?_ (by assumption) ?_
  rotate_left
  · (intro w hSw; (try dsimp only at hSw); go_simp; try with_reducible rfl)
  try simp only [Act.put, List.setIfInBounds_toArray, List.set_cons_zero, List.set_cons_succ]
  refine hm_call (i := 3) rfl (by kernel_rfl) rfl (fun K hK => ?_)
  go_simp
  (go_at_call 68; refine (rd48_any _ _ _ _ (seg l 0 6) _ n3 (by omega) (BytesAt.bel hB1 (bel_drew (bel_refl _)))).mono ?_; rintro e w1 ⟨rfl, hb1⟩; have HH := H.drew.grow hb1; obtain ⟨y0, y1, y2, y3⟩ := HH.atz hz; obtain ⟨x0, x1, x2, x3⟩ := HH.frz fz hb)
  (try go_wp2_with fail)
  refine hK.out _ _ (by (try dsimp only); all_goals exact trivial) (fun hHeld => ?_)
  clear hK K
  try simp only [Act.put, List.setIfInBounds_toArray, List.set_cons_zero, List.set_cons_succ]
  refine hm_take (i := 5) (v := ?_) rfl rfl (by kernel_rfl) (by kernel_rfl) (by kernel_rfl) (fun _ _ _ h => h) rfl ?_ (by assumption) ?_
  rotate_left
  · (intro w hSw; (try dsimp only at hSw); go_simp; try with_reducible rfl)
  try simp only [Act.put, List.setIfInBounds_toArray, List.set_cons_zero, List.set_cons_succ]
  refine hm_call (i := 6) rfl (by kernel_rfl) rfl (fun K hK => ?_)
  (go_simp)
  refine hK.out _ _ (by (try dsimp only); all_goals exact trivial) (fun hHeld => ?_)
  clear hK K
  try simp only [Act.put, List.setIfInBounds_toArray, List.set_cons_zero, List.set_cons_succ]
  refine wpAnyH_done (by kernel_rfl) ?_ _
  refine NoPanic.normal ?_
  have H2 : Left w b o (N4.setW z 3 (BitVec.ofNat 64 (Lib.beNat (seg l 0 6)))) (World.setCell w1 ⟨b, o + 3, none⟩ (.int .u64 ((Lib.beNat (seg l 0 6) : Nat) : Int))) := by
    rw [← U_ofNat _ (by omega)]
    exact (HH.one 3 (by omega) _)
  clear H hB1 HH y0 y1 y2 y3 x0 x1 x2 x3 hb1
  revert H2
  generalize World.setCell _ _ _ = W1
  intro H
  go_wp2
  have hB1 : BytesAt _ g (q + 6) (seg l 6 8) := (H.bytes hB hne).cut 6 8
  refine wp_region_noPanic ?_
  refine wp_region_held_drew (S := (fun _ => True)) (by kernel_rfl) (by all_goals exact trivial) (fun hHeld => ?_)
  refine hm_take (i := 0) (v := ?_) rfl rfl (by kernel_rfl) (by kernel_rfl) (by kernel_rfl) (fun _ _ _ h => h) rfl ?_ (by assumption) ?_
  rotate_left
  · (intro w hSw; (try dsimp only at hSw); go_simp; try with_reducible rfl)
  try simp only [Act.put, List.setIfInBounds_toArray, List.set_cons_zero, List.set_cons_succ]
  refine hm_take (i := 1) (v := ?_) rfl rfl (by kernel_rfl) (by kernel_rfl) (by kernel_rfl) (fun _ _ _ h => h) rfl ?_ (by assumption) ?_
  rotate_left
  · (intro w hSw; (try dsimp only at hSw); go_simp; try with_reducible rfl)
  try simp only [Act.put, List.setIfInBounds_toArray, List.set_cons_zero, List.set_cons_succ]
  refine hm_take (i := 2) (v := ?_) rfl rfl (by kernel_rfl) (by kernel_rfl) (by kernel_rfl) (fun _ _ _ h => h) rfl ?_ (by assumption) ?_
  rotate_left
  · (intro w hSw; (try dsimp only at hSw); go_simp; try with_reducible rfl)
  try simp only [Act.put, List.setIfInBounds_toArray, List.set_cons_zero, List.set_cons_succ]
  refine hm_take (i := 3) (v := ?_) rfl rfl (by kernel_rfl) (by kernel_rfl) (by kernel_rfl) (fun _ _ _ h => h) rfl ?_ (by assumption) ?_
  rotate_left
  · (intro w hSw; (try dsimp only at hSw); go_simp; try with_reducible rfl)
  try simp only [Act.put, List.setIfInBounds_toArray, List.set_cons_zero, List.set_cons_succ]
  refine hm_take (i := 5) (v := ?_) rfl rfl (by kernel_rfl) (by kernel_rfl) (by kernel_rfl) (fun _ _ _ h => h) rfl ?_ (by assumption) ?_
  rotate_left
  · (intro w hSw; (try dsimp only at hSw); go_simp; try with_reducible rfl)
  try simp only [Act.put, List.setIfInBounds_toArray, List.set_cons_zero, List.set_cons_succ]
  refine hm_call (i := 4) rfl (by kernel_rfl) rfl (fun K hK => ?_)
  go_simp
  (go_at_call 70; refine (rd64_any _ _ _ _ (seg l 6 8) _ n2 (by omega) (BytesAt.bel hB1 (bel_drew (bel_refl _)))).mono ?_; rintro e w1 ⟨rfl, hb1⟩; have HH := H.drew.grow hb1; obtain ⟨y0, y1, y2, y3⟩ := HH.atz hz; obtain ⟨x0, x1, x2, x3⟩ := HH.frz fz hb)
  (try go_wp2_with fail)
  refine hK.out _ _ (by (try dsimp only); all_goals exact trivial) (fun hHeld => ?_)
  clear hK K
  try simp only [Act.put, List.setIfInBounds_toArray, List.set_cons_zero, List.set_cons_succ]
  refine hm_take (i := 6) (v := ?_) rfl rfl (by kernel_rfl) (by kernel_rfl) (by kernel_rfl) (fun _ _ _ h => h) rfl ?_ (by assumption) ?_
  rotate_left
  · (intro w hSw; (try dsimp only at hSw); go_simp; try with_reducible rfl)
  try simp only [Act.put, List.setIfInBounds_toArray, List.set_cons_zero, List.set_cons_succ]
  refine hm_call (i := 7) rfl (by kernel_rfl) rfl (fun K hK => ?_)
  (go_simp)
  refine hK.out _ _ (by (try dsimp only); all_goals exact trivial) (fun hHeld => ?_)
  clear hK K
  try simp only [Act.put, List.setIfInBounds_toArray, List.set_cons_zero, List.set_cons_succ]
  refine wpAnyH_done (by kernel_rfl) ?_ _
  refine NoPanic.normal ?_
  have H2 : Left w b o (N4.setW (N4.setW z 3 (BitVec.ofNat 64 (Lib.beNat (seg l 0 6)))) 2 (BitVec.ofNat 64 (Lib.beNat (seg l 6 8)))) (World.setCell w1 ⟨b, o + 2, none⟩ (.int .u64 ((Lib.beNat (seg l 6 8) : Nat) : Int))) := by
    rw [← U_ofNat _ (by omega)]
    exact (HH.one 2 (by omega) _)
  clear H hB1 HH y0 y1 y2 y3 x0 x1 x2 x3 hb1
  revert H2
  generalize World.setCell _ _ _ = W1
  intro H
  go_wp2
  have hB1 : BytesAt _ g (q + 14) (seg l 14 8) := (H.bytes hB hne).cut 14 8
  refine wp_region_noPanic ?_
  refine wp_region_held_drew (S := (fun _ => True)) (by kernel_rfl) (by all_goals exact trivial) (fun hHeld => ?_)
  refine hm_take (i := 0) (v := ?_) rfl rfl (by kernel_rfl) (by kernel_rfl) (by kernel_rfl) (fun _ _ _ h => h) rfl ?_ (by assumption) ?_
  rotate_left
  · (intro w hSw; (try dsimp only at hSw); go_simp; try with_reducible rfl)
  try simp only [Act.put, List.setIfInBounds_toArray, List.set_cons_zero, List.set_cons_succ]
  refine hm_take (i := 1) (v := ?_) rfl rfl (by kernel_rfl) (by kernel_rfl) (by kernel_rfl) (fun _ _ _ h => h) rfl ?_ (by assumption) ?_
  rotate_left
  · (intro w hSw; (try dsimp only at hSw); go_simp; try with_reducible rfl)
  try simp only [Act.put, List.setIfInBounds_toArray, List.set_cons_zero, List.set_cons_succ]
  refine hm_take (i := 2) (v := ?_) rfl rfl (by kernel_rfl) (by kernel_rfl) (by kernel_rfl) (fun _ _ _ h => h) rfl ?_ (by assumption) ?_
  rotate_left
  · (intro w hSw; (try dsimp only at hSw); go_simp; try with_reducible rfl)
  try simp only [Act.put, List.setIfInBounds_toArray, List.set_cons_zero, List.set_cons_succ]
  refine hm_take (i := 3) (v := ?_) rfl rfl (by kernel_rfl) (by kernel_rfl) (by kernel_rfl) (fun _ _ _ h => h) rfl ?_ (by assumption) ?_
  rotate_left
  · (intro w hSw; (try dsimp only at hSw); go_simp; try with_reducible rfl)
  try simp only [Act.put, List.setIfInBounds_toArray, List.set_cons_zero, List.set_cons_succ]
  refine hm_take (i := 5) (v := ?_) rfl rfl (by kernel_rfl) (by kernel_rfl) (by kernel_rfl) (fun _ _ _ h => h) rfl ?_ (by assumption) ?_
  rotate_left
  · (intro w hSw; (try dsimp only at hSw); go_simp; try with_reducible rfl)
  try simp only [Act.put, List.setIfInBounds_toArray, List.set_cons_zero, List.set_cons_succ]
  refine hm_call (i := 4) rfl (by kernel_rfl) rfl (fun K hK => ?_)
  go_simp
  (go_at_call 70; refine (rd64_any _ _ _ _ (seg l 14 8) _ n1 (by omega) (BytesAt.bel hB1 (bel_drew (bel_refl _)))).mono ?_; rintro e w1 ⟨rfl, hb1⟩; have HH := H.drew.grow hb1; obtain ⟨y0, y1, y2, y3⟩ := HH.atz hz; obtain ⟨x0, x1, x2, x3⟩ := HH.frz fz hb)
  (try go_wp2_with fail)
  refine hK.out _ _ (by (try dsimp only); all_goals exact trivial) (fun hHeld => ?_)
  clear hK K
  try simp only [Act.put, List.setIfInBounds_toArray, List.set_cons_zero, List.set_cons_succ]
  refine hm_take (i := 6) (v := ?_) rfl rfl (by kernel_rfl) (by kernel_rfl) (by kernel_rfl) (fun _ _ _ h => h) rfl ?_ (by assumption) ?_
  rotate_left
  · (intro w hSw; (try dsimp only at hSw); go_simp; try with_reducible rfl)
  try simp only [Act.put, List.setIfInBounds_toArray, List.set_cons_zero, List.set_cons_succ]
  refine hm_call (i := 7) rfl (by kernel_rfl) rfl (fun K hK => ?_)
  (go_simp)
  refine hK.out _ _ (by (try dsimp only); all_goals exact trivial) (fun hHeld => ?_)
  clear hK K
  try simp only [Act.put, List.setIfInBounds_toArray, List.set_cons_zero, List.set_cons_succ]
  refine wpAnyH_done (by kernel_rfl) ?_ _
  refine NoPanic.normal ?_
  have H2 : Left w b o (N4.setW (N4.setW (N4.setW z 3 (BitVec.ofNat 64 (Lib.beNat (seg l 0 6)))) 2 (BitVec.ofNat 64 (Lib.beNat (seg l 6 8)))) 1 (BitVec.ofNat 64 (Lib.beNat (seg l 14 8)))) (World.setCell w1 ⟨b, o + 1, none⟩ (.int .u64 ((Lib.beNat (seg l 14 8) : Nat) : Int))) := by
    rw [← U_ofNat _ (by omega)]
    exact (HH.one 1 (by omega) _)
  clear H hB1 HH y0 y1 y2 y3 x0 x1 x2 x3 hb1
  revert H2
  generalize World.setCell _ _ _ = W1
  intro H
  go_wp2
  have hB1 : BytesAt _ g (q + 22) (seg l 22 8) := (H.bytes hB hne).cut 22 8
  refine wp_region_noPanic ?_
  refine wp_region_held_drew (S := (fun _ => True)) (by kernel_rfl) (by all_goals exact trivial) (fun hHeld => ?_)
  refine hm_take (i := 0) (v := ?_) rfl rfl (by kernel_rfl) (by kernel_rfl) (by kernel_rfl) (fun _ _ _ h => h) rfl ?_ (by assumption) ?_
  rotate_left
  · (intro w hSw; (try dsimp only at hSw); go_simp; try with_reducible rfl)
  try simp only [Act.put, List.setIfInBounds_toArray, List.set_cons_zero, List.set_cons_succ]
  refine hm_take (i := 1) (v := ?_) rfl rfl (by kernel_rfl) (by kernel_rfl) (by kernel_rfl) (fun _ _ _ h => h) rfl ?_ (by assumption) ?_
  rotate_left
  · (intro w hSw; (try dsimp only at hSw); go_simp; try with_reducible rfl)
  try simp only [Act.put, List.setIfInBounds_toArray, List.set_cons_zero, List.set_cons_succ]
  refine hm_take (i := 2) (v := ?_) rfl rfl (by kernel_rfl) (by kernel_rfl) (by kernel_rfl) (fun _ _ _ h => h) rfl ?_ (by assumption) ?_
  rotate_left
  · (intro w hSw; (try dsimp only at hSw); go_simp; try with_reducible rfl)
  try simp only [Act.put, List.setIfInBounds_toArray, List.set_cons_zero, List.set_cons_succ]
  refine hm_take (i := 3) (v := ?_) rfl rfl (by kernel_rfl) (by kernel_rfl) (by kernel_rfl) (fun _ _ _ h => h) rfl ?_ (by assumption) ?_
  rotate_left
  · (intro w hSw; (try dsimp only at hSw); go_simp; try with_reducible rfl)
  try simp only [Act.put, List.setIfInBounds_toArray, List.set_cons_zero, List.set_cons_succ]
  refine hm_take (i := 5) (v := ?_) rfl rfl (by kernel_rfl) (by kernel_rfl) (by kernel_rfl) (fun _ _ _ h => h) rfl ?_ (by assumption) ?_
  rotate_left
  · (intro w hSw; (try dsimp only at hSw); go_simp; try with_reducible rfl)
  try simp only [Act.put, List.setIfInBounds_toArray, List.set_cons_zero, List.set_cons_succ]
  refine hm_call (i := 4) rfl (by kernel_rfl) rfl (fun K hK => ?_)
  go_simp
  (go_at_call 70; refine (rd64_any _ _ _ _ (seg l 22 8) _ n0 (by omega) (BytesAt.bel hB1 (bel_drew (bel_refl _)))).mono ?_; rintro e w1 ⟨rfl, hb1⟩; have HH := H.drew.grow hb1; obtain ⟨y0, y1, y2, y3⟩ := HH.atz hz; obtain ⟨x0, x1, x2, x3⟩ := HH.frz fz hb)
  (try go_wp2_with fail)
  refine hK.out _ _ (by (try dsimp only); all_goals exact trivial) (fun hHeld => ?_)
  clear hK K
  try simp only [Act.put, List.setIfInBounds_toArray, List.set_cons_zero, List.set_cons_succ]
  refine hm_take (i := 6) (v := ?_) rfl rfl (by kernel_rfl) (by kernel_rfl) (by kernel_rfl) (fun _ _ _ h => h) rfl ?_ (by assumption) ?_
  rotate_left
  · (intro w hSw; (try dsimp only at hSw); go_simp; try with_reducible rfl)
  try simp only [Act.put, List.setIfInBounds_toArray, List.set_cons_zero, List.set_cons_succ]
  refine hm_call (i := 7) rfl (by kernel_rfl) rfl (fun K hK => ?_)
  (go_simp)
  refine hK.out _ _ (by (try dsimp only); all_goals exact trivial) (fun hHeld => ?_)
  clear hK K
  try simp only [Act.put, List.setIfInBounds_toArray, List.set_cons_zero, List.set_cons_succ]
  refine wpAnyH_done (by kernel_rfl) ?_ _
  refine NoPanic.normal ?_
  have H2 : Left w b o (N4.setW (N4.setW (N4.setW (N4.setW z 3 (BitVec.ofNat 64 (Lib.beNat (seg l 0 6)))) 2 (BitVec.ofNat 64 (Lib.beNat (seg l 6 8)))) 1 (BitVec.ofNat 64 (Lib.beNat (seg l 14 8)))) 0 (BitVec.ofNat 64 (Lib.beNat (seg l 22 8)))) (World.setCell w1 ⟨b, o, none⟩ (.int .u64 ((Lib.beNat (seg l 22 8) : Nat) : Int))) := by
    rw [← U_ofNat _ (by omega)]
    exact (HH.one 0 (by omega) _)
  clear H hB1 HH y0 y1 y2 y3 x0 x1 x2 x3 hb1
  revert H2
  generalize World.setCell _ _ _ = W1
  intro H
  go_wp2
  go_ret
  refine ⟨rfl, ?_⟩
  have e : (N4.setW (N4.setW (N4.setW (N4.setW z 3 (BitVec.ofNat 64 (Lib.beNat (seg l 0 6)))) 2 (BitVec.ofNat 64 (Lib.beNat (seg l 6 8)))) 1 (BitVec.ofNat 64 (Lib.beNat (seg l 14 8)))) 0 (BitVec.ofNat 64 (Lib.beNat (seg l 22 8)))) = ofN (Lib.beNat (l.take 30)) := by
    apply eq_ofN
    rw [HV.out]
    simp only [N4.setW, N4.toNat, if_true, if_false, reduceIte, BitVec.toNat_ofNat, show ¬ (2 : Nat) = 0 by omega, show ¬ (3 : Nat) = 0 by omega, show ¬ (1 : Nat) = 0 by omega, show ¬ (2 : Nat) = 1 by omega, show ¬ (3 : Nat) = 1 by omega, show ¬ (3 : Nat) = 2 by omega]
    omega
  rw [← e]
  exact H
set_option maxHeartbeats 4000000 in
theorem set31_any (b o : Nat) (z : N4) (g q n cap : Nat) (l : List UInt8) (w : World) (hz : At4 w b o z) (fz : Free4 w b o) (hB : BytesAt w g q l) (hl : l.length = n) (hN : 31 ≤ n) (hcap : n ≤ cap) (hne : g ≠ b) :
    Calls Tryf.prog 58 #[.pointer (some ⟨b, o, none⟩), .slice (some ⟨g, q, none⟩) n cap] w (RetLeft b o (ofN (Lib.beNat (l.take 31))) w) := by
  have hb := hz.lt
  have H := Left.start hz
  have k0 : ¬ cap = 0 := by omega
  have c7 : (7 : Int) ≤ (cap : Int) := by omega
  have n3 : (seg l 0 7).length = 7 := by rw [seg_len]; omega
  have L3 := beNat_lt (seg l 0 7)
  rw [n3] at L3
  have k7 : ¬ cap = 7 := by omega
  have c15 : (15 : Int) ≤ (cap : Int) := by omega
  have n2 : (seg l 7 8).length = 8 := by rw [seg_len]; omega
  have L2 := beNat_lt (seg l 7 8)
  rw [n2] at L2
  have k15 : ¬ cap = 15 := by omega
  have c23 : (23 : Int) ≤ (cap : Int) := by omega
  have n1 : (seg l 15 8).length = 8 := by rw [seg_len]; omega
  have L1 := beNat_lt (seg l 15 8)
  rw [n1] at L1
  have k23 : ¬ cap = 23 := by omega
  have c31 : (31 : Int) ≤ (cap : Int) := by omega
  have n0 : (seg l 23 8).length = 8 := by rw [seg_len]; omega
  have L0 := beNat_lt (seg l 23 8)
  rw [n0] at L0
  obtain ⟨u, hu⟩ : ∃ u, l[30]? = some u := ⟨_, List.getElem?_eq_getElem (by omega)⟩
  have hc0 := hB 30 u hu
  have hp0 : (30 : Int) < (n : Int) := by omega
  clear hu
  have HV : Hid (Lib.beNat (l.take 31) = Lib.beNat (seg l 23 8) + 2 ^ 64 * Lib.beNat (seg l 15 8) + 2 ^ 128 * Lib.beNat (seg l 7 8) + 2 ^ 192 * Lib.beNat (seg l 0 7)) := by
    show _ = _
    rw [show l.take 31 = l.take 23 ++ seg l 23 8 from take_split l 23 8, beNat_append, n0]
    rw [show l.take 23 = l.take 15 ++ seg l 15 8 from take_split l 15 8, beNat_append, n1]
    rw [show l.take 15 = l.take 7 ++ seg l 7 8 from take_split l 7 8, beNat_append, n2]
    rw [← seg_zero]
    omega
  obtain ⟨z0, z1, z2, z3⟩ := hz
  obtain ⟨f0, f1, f2, f3⟩ := fz
  have hz : At4 w b o z := ⟨z0, z1, z2, z3⟩
  have fz : Free4 w b o := ⟨f0, f1, f2, f3⟩
  go_enter Tryf.func58, Tryf.ntmps58
  go_wp2
  clear z0 z1 z2 z3 f0 f1 f2 f3 hc0
  have hne2 : ¬ b = g := fun e => hne e.symm
  have hB1 : BytesAt _ g q (seg l 0 7) := (H.bytes hB hne).cut 0 7
  refine wp_region_noPanic ?_
  refine wp_region_held_drew (S := (fun _ => True)) (by kernel_rfl) (by all_goals exact trivial) (fun hHeld => ?_)
  refine hm_take (i := 0) (v := ?_) rfl rfl (by kernel_rfl) (by kernel_rfl) (by kernel_rfl) (fun _ _ _ h => h) rfl ?_ (by assumption) ?_
  rotate_left
  · (intro w hSw; (try dsimp only at hSw); go_simp; try with_reducible rfl)
  try simp only [Act.put, List.setIfInBounds_toArray, List.set_cons_zero, List.set_cons_succ]
  refine hm_take (i := 1) (v := ?_) rfl rfl (by kernel_rfl) (by kernel_rfl) (by kernel_rfl) (fun _ _ _ h => h) rfl ?_ (by assumption) ?_
  rotate_left
  · (intro w hSw; (try dsimp only at hSw); go_simp; try with_reducible rfl)
  try simp only [Act.put, List.setIfInBounds_toArray, List.set_cons_zero, List.set_cons_succ]
  refine hm_take (i := 2) (v := ?_) rfl rfl (by kernel_rfl) (by kernel_rfl) (by kernel_rfl) (fun _ _ _ h => h) rfl ?_ (by assumption) ?_
  rotate_left
  · (intro w hSw; (try dsimp only at hSw); go_simp; try with_reducible rfl)
  try simp only [Act.put, List.setIfInBounds_toArray, List.set_cons_zero, List.set_cons_succ]
  refine hm_take (i := 4) (v := ?_) rfl rfl (by kernel_rfl) (by kernel_rfl) (by kernel_rfl) (fun _ _ _ h => h) rfl ?_ (by assumption) ?_
  rotate_left
  · (intro w hSw; (try dsimp only at hSw); go_simp; try with_reducible rfl)
  try simp only [Act.put, List.setIfInBounds_toArray, List.set_cons_zero, List.set_cons_succ]
  refine hm_call (i := 3) rfl (by kernel_rfl) rfl (fun K hK => ?_)
  go_simp
  (go_at_call 69; refine (rd56_any _ _ _ _ (seg l 0 7) _ n3 (by omega) (BytesAt.bel hB1 (bel_drew (bel_refl _)))).mono ?_; rintro e w1 ⟨rfl, hb1⟩; have HH := H.drew.grow hb1; obtain ⟨y0, y1, y2, y3⟩ := HH.atz hz; obtain ⟨x0, x1, x2, x3⟩ := HH.frz fz hb)
  (try go_wp2_with fail)
  refine hK.out _ _ (by (try dsimp only); all_goals exact trivial) (fun hHeld => ?_)
  clear hK K
  try simp only [Act.put, List.setIfInBounds_toArray, List.set_cons_zero, List.set_cons_succ]
  refine hm_take (i := 5) (v := ?_) rfl rfl (by kernel_rfl) (by kernel_rfl) (by kernel_rfl) (fun _ _ _ h => h) rfl ?_ (by assumption) ?_
  rotate_left
  · (intro w hSw; (try dsimp only at hSw); go_simp; try with_reducible rfl)
  try simp only [Act.put, List.setIfInBounds_toArray, List.set_cons_zero, List.set_cons_succ]
  refine hm_call (i := 6) rfl (by kernel_rfl) rfl (fun K hK => ?_)
  (go_simp)
  refine hK.out _ _ (by (try dsimp only); all_goals exact trivial) (fun hHeld => ?_)
  clear hK K
  try simp only [Act.put, List.setIfInBounds_toArray, List.set_cons_zero, List.set_cons_succ]
  refine wpAnyH_done (by kernel_rfl) ?_ _
  refine NoPanic.normal ?_
  have H2 : Left w b o (N4.setW z 3 (BitVec.ofNat 64 (Lib.beNat (seg l 0 7)))) (World.setCell w1 ⟨b, o + 3, none⟩ (.int .u64 ((Lib.beNat (seg l 0 7) : Nat) : Int))) := by
    rw [← U_ofNat _ (by omega)]
    exact (HH.one 3 (by omega) _)
  clear H hB1 HH y0 y1 y2 y3 x0 x1 x2 x3 hb1
  revert H2
  generalize World.setCell _ _ _ = W1
  intro H
  go_wp2
  have hB1 : BytesAt _ g (q + 7) (seg l 7 8) := (H.bytes hB hne).cut 7 8
  refine wp_region_noPanic ?_
  refine wp_region_held_drew (S := (fun _ => True)) (by kernel_rfl) (by all_goals exact trivial) (fun hHeld => ?_)
  refine hm_take (i := 0) (v := ?_) rfl rfl (by kernel_rfl) (by kernel_rfl) (by kernel_rfl) (fun _ _ _ h => h) rfl ?_ (by assumption) ?_
  rotate_left
  · (intro w hSw; (try dsimp only at hSw); go_simp; try with_reducible rfl)
  try simp only [Act.put, List.setIfInBounds_toArray, List.set_cons_zero, List.set_cons_succ]
  refine hm_take (i := 1) (v := ?_) rfl rfl (by kernel_rfl) (by kernel_rfl) (by kernel_rfl) (fun _ _ _ h => h) rfl ?_ (by assumption) ?_
  rotate_left
  · (intro w hSw; (try dsimp only at hSw); go_simp; try with_reducible rfl)
  try simp only [Act.put, List.setIfInBounds_toArray, List.set_cons_zero, List.set_cons_succ]
  refine hm_take (i := 2) (v := ?_) rfl rfl (by kernel_rfl) (by kernel_rfl) (by kernel_rfl) (fun _ _ _ h => h) rfl ?_ (by assumption) ?_
  rotate_left
  · (intro w hSw; (try dsimp only at hSw); go_simp; try with_reducible rfl)
  try simp only [Act.put, List.setIfInBounds_toArray, List.set_cons_zero, List.set_cons_succ]
  refine hm_take (i := 3) (v := ?_) rfl rfl (by kernel_rfl) (by kernel_rfl) (by kernel_rfl) (fun _ _ _ h => h) rfl ?_ (by assumption) ?_
  rotate_left
  · (intro w hSw; (try dsimp only at hSw); go_simp; try with_reducible rfl)
  try simp only [Act.put, List.setIfInBounds_toArray, List.set_cons_zero, List.set_cons_succ]
  refine hm_take (i := 5) (v := ?_) rfl rfl (by kernel_rfl) (by kernel_rfl) (by kernel_rfl) (fun _ _ _ h => h) rfl ?_ (by assumption) ?_
  rotate_left
  · (intro w hSw; (try dsimp only at hSw); go_simp; try with_reducible rfl)
  try simp only [Act.put, List.setIfInBounds_toArray, List.set_cons_zero, List.set_cons_succ]
  refine hm_call (i := 4) rfl (by kernel_rfl) rfl (fun K hK => ?_)
  go_simp
  (go_at_call 70; refine (rd64_any _ _ _ _ (seg l 7 8) _ n2 (by omega) (BytesAt.bel hB1 (bel_drew (bel_refl _)))).mono ?_; rintro e w1 ⟨rfl, hb1⟩; have HH := H.drew.grow hb1; obtain ⟨y0, y1, y2, y3⟩ := HH.atz hz; obtain ⟨x0, x1, x2, x3⟩ := HH.frz fz hb)
  (try go_wp2_with fail)
  refine hK.out _ _ (by (try dsimp only); all_goals exact trivial) (fun hHeld => ?_)
  clear hK K
  try simp only [Act.put, List.setIfInBounds_toArray, List.set_cons_zero, List.set_cons_succ]
  refine hm_take (i := 6) (v := ?_) rfl rfl (by kernel_rfl) (by kernel_rfl) (by kernel_rfl) (fun _ _ _ h => h) rfl ?_ (by assumption) ?_
  rotate_left
  · (intro w hSw; (try dsimp only at hSw); go_simp; try with_reducible rfl)
  try simp only [Act.put, List.setIfInBounds_toArray, List.set_cons_zero, List.set_cons_succ]
  refine hm_call (i := 7) rfl (by kernel_rfl) rfl (fun K hK => ?_)
  (go_simp)
  refine hK.out _ _ (by (try dsimp only); all_goals exact trivial) (fun hHeld => ?_)
  clear hK K
  try simp only [Act.put, List.setIfInBounds_toArray, List.set_cons_zero, List.set_cons_succ]
  refine wpAnyH_done (by kernel_rfl) ?_ _
  refine NoPanic.normal ?_
  have H2 : Left w b o (N4.setW (N4.setW z 3 (BitVec.ofNat 64 (Lib.beNat (seg l 0 7)))) 2 (BitVec.ofNat 64 (Lib.beNat (seg l 7 8)))) (World.setCell w1 ⟨b, o + 2, none⟩ (.int .u64 ((Lib.beNat (seg l 7 8) : Nat) : Int))) := by
    rw [← U_ofNat _ (by omega)]
    exact (HH.one 2 (by omega) _)
  clear H hB1 HH y0 y1 y2 y3 x0 x1 x2 x3 hb1
  revert H2
  generalize World.setCell _ _ _ = W1
  intro H
  go_wp2
  have hB1 : BytesAt _ g (q + 15) (seg l 15 8) := (H.bytes hB hne).cut 15 8
  refine wp_region_noPanic ?_
  refine wp_region_held_drew (S := (fun _ => True)) (by kernel_rfl) (by all_goals exact trivial) (fun hHeld => ?_)
  refine hm_take (i := 0) (v := ?_) rfl rfl (by kernel_rfl) (by kernel_rfl) (by kernel_rfl) (fun _ _ _ h => h) rfl ?_ (by assumption) ?_
  rotate_left
  · (intro w hSw; (try dsimp only at hSw); go_simp; try with_reducible rfl)
  try simp only [Act.put, List.setIfInBounds_toArray, List.set_cons_zero, List.set_cons_succ]
  refine hm_take (i := 1) (v := ?_) rfl rfl (by kernel_rfl) (by kernel_rfl) (by kernel_rfl) (fun _ _ _ h => h) rfl ?_ (by assumption) ?_
  rotate_left
  · (intro w hSw; (try dsimp only at hSw); go_simp; try with_reducible rfl)
  try simp only [Act.put, List.setIfInBounds_toArray, List.set_cons_zero, List.set_cons_succ]
  refine hm_take (i := 2) (v := ?_) rfl rfl (by kernel_rfl) (by kernel_rfl) (by kernel_rfl) (fun _ _ _ h => h) rfl ?_ (by assumption) ?_
  rotate_left
  · (intro w hSw; (try dsimp only at hSw); go_simp; try with_reducible rfl)
  try simp only [Act.put, List.setIfInBounds_toArray, List.set_cons_zero, List.set_cons_succ]
  refine hm_take (i := 3) (v := ?_) rfl rfl (by kernel_rfl) (by kernel_rfl) (by kernel_rfl) (fun _ _ _ h => h) rfl ?_ (by assumption) ?_
  rotate_left
  · (intro w hSw; (try dsimp only at hSw); go_simp; try with_reducible rfl)
  try simp only [Act.put, List.setIfInBounds_toArray, List.set_cons_zero, List.set_cons_succ]
  refine hm_take (i := 5) (v := ?_) rfl rfl (by kernel_rfl) (by kernel_rfl) (by kernel_rfl) (fun _ _ _ h => h) rfl ?_ (by assumption) ?_
  rotate_left
  · (intro w hSw; (try dsimp only at hSw); go_simp; try with_reducible rfl)
  try simp only [Act.put, List.setIfInBounds_toArray, List.set_cons_zero, List.set_cons_succ]
  refine hm_call (i := 4) rfl (by kernel_rfl) rfl (fun K hK => ?_)
  go_simp
  (go_at_call 70; refine (rd64_any _ _ _ _ (seg l 15 8) _ n1 (by omega) (BytesAt.bel hB1 (bel_drew (bel_refl _)))).mono ?_; rintro e w1 ⟨rfl, hb1⟩; have HH := H.drew.grow hb1; obtain ⟨y0, y1, y2, y3⟩ := HH.atz hz; obtain ⟨x0, x1, x2, x3⟩ := HH.frz fz hb)
  (try go_wp2_with fail)
  refine hK.out _ _ (by (try dsimp only); all_goals exact trivial) (fun hHeld => ?_)
  clear hK K
  try simp only [Act.put, List.setIfInBounds_toArray, List.set_cons_zero, List.set_cons_succ]
  refine hm_take (i := 6) (v := ?_) rfl rfl (by kernel_rfl) (by kernel_rfl) (by kernel_rfl) (fun _ _ _ h => h) rfl ?_ (by assumption) ?_
  rotate_left
  · (intro w hSw; (try dsimp only at hSw); go_simp; try with_reducible rfl)
  try simp only [Act.put, List.setIfInBounds_toArray, List.set_cons_zero, List.set_cons_succ]
  refine hm_call (i := 7) rfl (by kernel_rfl) rfl (fun K hK => ?_)
  (go_simp)
  refine hK.out _ _ (by (try dsimp only); all_goals exact trivial) (fun hHeld => ?_)
  clear hK K
  try simp only [Act.put, List.setIfInBounds_toArray, List.set_cons_zero, List.set_cons_succ]
  refine wpAnyH_done (by kernel_rfl) ?_ _
  refine NoPanic.normal ?_
  have H2 : Left w b o (N4.setW (N4.setW (N4.setW z 3 (BitVec.ofNat 64 (Lib.beNat (seg l 0 7)))) 2 (BitVec.ofNat 64 (Lib.beNat (seg l 7 8)))) 1 (BitVec.ofNat 64 (Lib.beNat (seg l 15 8)))) (World.setCell w1 ⟨b, o + 1, none⟩ (.int .u64 ((Lib.beNat (seg l 15 8) : Nat) : Int))) := by
    rw [← U_ofNat _ (by omega)]
    exact (HH.one 1 (by omega) _)
  clear H hB1 HH y0 y1 y2 y3 x0 x1 x2 x3 hb1
  revert H2
  generalize World.setCell _ _ _ = W1
  intro H
  go_wp2
  have hB1 : BytesAt _ g (q + 23) (seg l 23 8) := (H.bytes hB hne).cut 23 8
  refine wp_region_noPanic ?_
  refine wp_region_held_drew (S := (fun _ => True)) (by kernel_rfl) (by all_goals exact trivial) (fun hHeld => ?_)
  refine hm_take (i := 0) (v := ?_) rfl rfl (by kernel_rfl) (by kernel_rfl) (by kernel_rfl) (fun _ _ _ h => h) rfl ?_ (by assumption) ?_
  rotate_left
  · (intro w hSw; (try dsimp only at hSw); go_simp; try with_reducible rfl)
  try simp only [Act.put, List.setIfInBounds_toArray, List.set_cons_zero, List.set_cons_succ]
  refine hm_take (i := 1) (v := ?_) rfl rfl (by kernel_rfl) (by kernel_rfl) (by kernel_rfl) (fun _ _ _ h => h) rfl ?_ (by assumption) ?_
  rotate_left
  · (intro w hSw; (try dsimp only at hSw); go_simp; try with_reducible rfl)
  try simp only [Act.put, List.setIfInBounds_toArray, List.set_cons_zero, List.set_cons_succ]
  refine hm_take (i := 2) (v := ?_) rfl rfl (by kernel_rfl) (by kernel_rfl) (by kernel_rfl) (fun _ _ _ h => h) rfl ?_ (by assumption) ?_
  rotate_left
  · (intro w hSw; (try dsimp only at hSw); go_simp; try with_reducible rfl)
  try simp only [Act.put, List.setIfInBounds_toArray, List.set_cons_zero, List.set_cons_succ]
  refine hm_take (i := 3) (v := ?_) rfl rfl (by kernel_rfl) (by kernel_rfl) (by kernel_rfl) (fun _ _ _ h => h) rfl ?_ (by assumption) ?_
  rotate_left
  · (intro w hSw; (try dsimp only at hSw); go_simp; try with_reducible rfl)
  try simp only [Act.put, List.setIfInBounds_toArray, List.set_cons_zero, List.set_cons_succ]
  refine hm_take (i := 5) (v := ?_) rfl rfl (by kernel_rfl) (by kernel_rfl) (by kernel_rfl) (fun _ _ _ h => h) rfl ?_ (by assumption) ?_
  rotate_left
  · (intro w hSw; (try dsimp only at hSw); go_simp; try with_reducible rfl)
  try simp only [Act.put, List.setIfInBounds_toArray, List.set_cons_zero, List.set_cons_succ]
  refine hm_call (i := 4) rfl (by kernel_rfl) rfl (fun K hK => ?_)
  go_simp
  (go_at_call 70; refine (rd64_any _ _ _ _ (seg l 23 8) _ n0 (by omega) (BytesAt.bel hB1 (bel_drew (bel_refl _)))).mono ?_; rintro e w1 ⟨rfl, hb1⟩; have HH := H.drew.grow hb1; obtain ⟨y0, y1, y2, y3⟩ := HH.atz hz; obtain ⟨x0, x1, x2, x3⟩ := HH.frz fz hb)
  (try go_wp2_with fail)
  refine hK.out _ _ (by (try dsimp only); all_goals exact trivial) (fun hHeld => ?_)
  clear hK K
  try simp only [Act.put, List.setIfInBounds_toArray, List.set_cons_zero, List.set_cons_succ]
  refine hm_take (i := 6) (v := ?_) rfl rfl (by kernel_rfl) (by kernel_rfl) (by kernel_rfl) (fun _ _ _ h => h) rfl ?_ (by assumption) ?_
  rotate_left
  · (intro w hSw; (try dsimp only at hSw); go_simp; try with_reducible rfl)
  try simp only [Act.put, List.setIfInBounds_toArray, List.set_cons_zero, List.set_cons_succ]
  refine hm_call (i := 7) rfl (by kernel_rfl) rfl (fun K hK => ?_)
  (go_simp)
  refine hK.out _ _ (by (try dsimp only); all_goals exact trivial) (fun hHeld => ?_)
  clear hK K
  try simp only [Act.put, List.setIfInBounds_toArray, List.set_cons_zero, List.set_cons_succ]
  refine wpAnyH_done (by kernel_rfl) ?_ _
  refine NoPanic.normal ?_
  have H2 : Left w b o (N4.setW (N4.setW (N4.setW (N4.setW z 3 (BitVec.ofNat 64 (Lib.beNat (seg l 0 7)))) 2 (BitVec.ofNat 64 (Lib.beNat (seg l 7 8)))) 1 (BitVec.ofNat 64 (Lib.beNat (seg l 15 8)))) 0 (BitVec.ofNat 64 (Lib.beNat (seg l 23 8)))) (World.setCell w1 ⟨b, o, none⟩ (.int .u64 ((Lib.beNat (seg l 23 8) : Nat) : Int))) := by
    rw [← U_ofNat _ (by omega)]
    exact (HH.one 0 (by omega) _)
  clear H hB1 HH y0 y1 y2 y3 x0 x1 x2 x3 hb1
  revert H2
  generalize World.setCell _ _ _ = W1
  intro H
  go_wp2
  go_ret
  refine ⟨rfl, ?_⟩
  have e : (N4.setW (N4.setW (N4.setW (N4.setW z 3 (BitVec.ofNat 64 (Lib.beNat (seg l 0 7)))) 2 (BitVec.ofNat 64 (Lib.beNat (seg l 7 8)))) 1 (BitVec.ofNat 64 (Lib.beNat (seg l 15 8)))) 0 (BitVec.ofNat 64 (Lib.beNat (seg l 23 8)))) = ofN (Lib.beNat (l.take 31)) := by
    apply eq_ofN
    rw [HV.out]
    simp only [N4.setW, N4.toNat, if_true, if_false, reduceIte, BitVec.toNat_ofNat, show ¬ (2 : Nat) = 0 by omega, show ¬ (3 : Nat) = 0 by omega, show ¬ (1 : Nat) = 0 by omega, show ¬ (2 : Nat) = 1 by omega, show ¬ (3 : Nat) = 1 by omega, show ¬ (3 : Nat) = 2 by omega]
    omega
  rw [← e]
  exact H
set_option maxHeartbeats 4000000 in
theorem set32_any (b o : Nat) (z : N4) (g q n cap : Nat) (l : List UInt8) (w : World) (hz : At4 w b o z) (fz : Free4 w b o) (hB : BytesAt w g q l) (hl : l.length = n) (hN : 32 ≤ n) (hcap : n ≤ cap) (hne : g ≠ b) :
    Calls Tryf.prog 59 #[.pointer (some ⟨b, o, none⟩), .slice (some ⟨g, q, none⟩) n cap] w (RetLeft b o (ofN (Lib.beNat (l.take 32))) w) := by
  have hb := hz.lt
  have H := Left.start hz
  have k0 : ¬ cap = 0 := by omega
  have c8 : (8 : Int) ≤ (cap : Int) := by omega
  have n3 : (seg l 0 8).length = 8 := by rw [seg_len]; omega
  have L3 := beNat_lt (seg l 0 8)
  rw [n3] at L3
  have k8 : ¬ cap = 8 := by omega
  have c16 : (16 : Int) ≤ (cap : Int) := by omega
  have n2 : (seg l 8 8).length = 8 := by rw [seg_len]; omega
  have L2 := beNat_lt (seg l 8 8)
  rw [n2] at L2
  have k16 : ¬ cap = 16 := by omega
  have c24 : (24 : Int) ≤ (cap : Int) := by omega
  have n1 : (seg l 16 8).length = 8 := by rw [seg_len]; omega
  have L1 := beNat_lt (seg l 16 8)
  rw [n1] at L1
  have k24 : ¬ cap = 24 := by omega
  have c32 : (32 : Int) ≤ (cap : Int) := by omega
  have n0 : (seg l 24 8).length = 8 := by rw [seg_len]; omega
  have L0 := beNat_lt (seg l 24 8)
  rw [n0] at L0
  obtain ⟨u, hu⟩ : ∃ u, l[31]? = some u := ⟨_, List.getElem?_eq_getElem (by omega)⟩
  have hc0 := hB 31 u hu
  have hp0 : (31 : Int) < (n : Int) := by omega
  clear hu
  have HV : Hid (Lib.beNat (l.take 32) = Lib.beNat (seg l 24 8) + 2 ^ 64 * Lib.beNat (seg l 16 8) + 2 ^ 128 * Lib.beNat (seg l 8 8) + 2 ^ 192 * Lib.beNat (seg l 0 8)) := by
    show _ = _
    rw [show l.take 32 = l.take 24 ++ seg l 24 8 from take_split l 24 8, beNat_append, n0]
    rw [show l.take 24 = l.take 16 ++ seg l 16 8 from take_split l 16 8, beNat_append, n1]
    rw [show l.take 16 = l.take 8 ++ seg l 8 8 from take_split l 8 8, beNat_append, n2]
    rw [← seg_zero]
    omega
  obtain ⟨z0, z1, z2, z3⟩ := hz
  obtain ⟨f0, f1, f2, f3⟩ := fz
  have hz : At4 w b o z := ⟨z0, z1, z2, z3⟩
  have fz : Free4 w b o := ⟨f0, f1, f2, f3⟩
  go_enter Tryf.func59, Tryf.ntmps59
  go_wp2
  clear z0 z1 z2 z3 f0 f1 f2 f3 hc0
  have hne2 : ¬ b = g := fun e => hne e.symm
  have hB1 : BytesAt _ g q (seg l 0 8) := (H.bytes hB hne).cut 0 8
  refine wp_region_noPanic ?_
  refine wp_region_held_drew (S := (fun _ => True)) (by kernel_rfl) (by all_goals exact trivial) (fun hHeld => ?_)
  refine hm_take (i := 0) (v := ?_) rfl rfl (by kernel_rfl) (by kernel_rfl) (by kernel_rfl) (fun _ _ _ h => h) rfl ?_ (by assumption) ?_
  rotate_left
  · (intro w hSw; (try dsimp only at hSw); go_simp; try with_reducible rfl)
  try simp only [Act.put, List.setIfInBounds_toArray, List.set_cons_zero, List.set_cons_succ]
  refine hm_take (i := 1) (v := ?_) rfl rfl (by kernel_rfl) (by kernel_rfl) (by kernel_rfl) (fun _ _ _ h => h) rfl ?_ (by assumption) ?_
  rotate_left
  · (intro w hSw; (try dsimp only at hSw); go_simp; try with_reducible rfl)
  try simp only [Act.put, List.setIfInBounds_toArray, List.set_cons_zero, List.set_cons_succ]
  refine hm_take (i := 2) (v := ?_) rfl rfl (by kernel_rfl) (by kernel_rfl) (by kernel_rfl) (fun _ _ _ h => h) rfl ?_ (by assumption) ?_
  rotate_left
  · (intro w hSw; (try dsimp only at hSw); go_simp; try with_reducible rfl)
  try simp only [Act.put, List.setIfInBounds_toArray, List.set_cons_zero, List.set_cons_succ]
  refine hm_take (i := 3) (v := ?_) rfl rfl (by kernel_rfl) (by kernel_rfl) (by kernel_rfl) (fun _ _ _ h => h) rfl ?_ (by assumption) ?_
  rotate_left
  · (intro w hSw; (try dsimp only at hSw); go_simp; try with_reducible rfl)
  try simp only [Act.put, List.setIfInBounds_toArray, List.set_cons_zero, List.set_cons_succ]
  refine hm_take (i := 5) (v := ?_) rfl rfl (by kernel_rfl) (by kernel_rfl) (by kernel_rfl) (fun _ _ _ h => h) rfl ?_ (by assumption) ?_
  rotate_left
  · (intro w hSw; (try dsimp only at hSw); go_simp; try with_reducible rfl)
  try simp only [Act.put, List.setIfInBounds_toArray, List.set_cons_zero, List.set_cons_succ]
  refine hm_call (i := 4) rfl (by kernel_rfl) rfl (fun K hK => ?_)
  go_simp
  (go_at_call 70; refine (rd64_any _ _ _ _ (seg l 0 8) _ n3 (by omega) (BytesAt.bel hB1 (bel_drew (bel_refl _)))).mono ?_; rintro e w1 ⟨rfl, hb1⟩; have HH := H.drew.grow hb1; obtain ⟨y0, y1, y2, y3⟩ := HH.atz hz; obtain ⟨x0, x1, x2, x3⟩ := HH.frz fz hb)
  (try go_wp2_with fail)
  refine hK.out _ _ (by (try dsimp only); all_goals exact trivial) (fun hHeld => ?_)
  clear hK K
  try simp only [Act.put, List.setIfInBounds_toArray, List.set_cons_zero, List.set_cons_succ]
  refine hm_take (i := 6) (v := ?_) rfl rfl (by kernel_rfl) (by kernel_rfl) (by kernel_rfl) (fun _ _ _ h => h) rfl ?_ (by assumption) ?_
  rotate_left
  · (intro w hSw; (try dsimp only at hSw); go_simp; try with_reducible rfl)
  try simp only [Act.put, List.setIfInBounds_toArray, List.set_cons_zero, List.set_cons_succ]
  refine hm_call (i := 7) rfl (by kernel_rfl) rfl (fun K hK => ?_)
  (go_simp)
  refine hK.out _ _ (by (try dsimp only); all_goals exact trivial) (fun hHeld => ?_)
  clear hK K
  try simp only [Act.put, List.setIfInBounds_toArray, List.set_cons_zero, List.set_cons_succ]
  refine wpAnyH_done (by kernel_rfl) ?_ _
  refine NoPanic.normal ?_
  have H2 : Left w b o (N4.setW z 3 (BitVec.ofNat 64 (Lib.beNat (seg l 0 8)))) (World.setCell w1 ⟨b, o + 3, none⟩ (.int .u64 ((Lib.beNat (seg l 0 8) : Nat) : Int))) := by
    rw [← U_ofNat _ (by omega)]
    exact (HH.one 3 (by omega) _)
  clear H hB1 HH y0 y1 y2 y3 x0 x1 x2 x3 hb1
  revert H2
  generalize World.setCell _ _ _ = W1
  intro H
  go_wp2
  have hB1 : BytesAt _ g (q + 8) (seg l 8 8) := (H.bytes hB hne).cut 8 8
  refine wp_region_noPanic ?_
  refine wp_region_held_drew (S := (fun _ => True)) (by kernel_rfl) (by all_goals exact trivial) (fun hHeld => ?_)
  refine hm_take (i := 0) (v := ?_) rfl rfl (by kernel_rfl) (by kernel_rfl) (by kernel_rfl) (fun _ _ _ h => h) rfl ?_ (by assumption) ?_
  rotate_left
  · (intro w hSw; (try dsimp only at hSw); go_simp; try with_reducible rfl)
  try simp only [Act.put, List.setIfInBounds_toArray, List.set_cons_zero, List.set_cons_succ]
  refine hm_take (i := 1) (v := ?_) rfl rfl (by kernel_rfl) (by kernel_rfl) (by kernel_rfl) (fun _ _ _ h => h) rfl ?_ (by assumption) ?_
  rotate_left
  · (intro w hSw; (try dsimp only at hSw); go_simp; try with_reducible rfl)
  try simp only [Act.put, List.setIfInBounds_toArray, List.set_cons_zero, List.set_cons_succ]
  refine hm_take (i := 2) (v := ?_) rfl rfl (by kernel_rfl) (by kernel_rfl) (by kernel_rfl) (fun _ _ _ h => h) rfl ?_ (by assumption) ?_
  rotate_left
  · (intro w hSw; (try dsimp only at hSw); go_simp; try with_reducible rfl)
  try simp only [Act.put, List.setIfInBounds_toArray, List.set_cons_zero, List.set_cons_succ]
  refine hm_take (i := 3) (v := ?_) rfl rfl (by kernel_rfl) (by kernel_rfl) (by kernel_rfl) (fun _ _ _ h => h) rfl ?_ (by assumption) ?_
  rotate_left
  · (intro w hSw; (try dsimp only at hSw); go_simp; try with_reducible rfl)
  try simp only [Act.put, List.setIfInBounds_toArray, List.set_cons_zero, List.set_cons_succ]
  refine hm_take (i := 5) (v := ?_) rfl rfl (by kernel_rfl) (by kernel_rfl) (by kernel_rfl) (fun _ _ _ h => h) rfl ?_ (by assumption) ?_
  rotate_left
  · (intro w hSw; (try dsimp only at hSw); go_simp; try with_reducible rfl)
  try simp only [Act.put, List.setIfInBounds_toArray, List.set_cons_zero, List.set_cons_succ]
  refine hm_call (i := 4) rfl (by kernel_rfl) rfl (fun K hK => ?_)
  go_simp
  (go_at_call 70; refine (rd64_any _ _ _ _ (seg l 8 8) _ n2 (by omega) (BytesAt.bel hB1 (bel_drew (bel_refl _)))).mono ?_; rintro e w1 ⟨rfl, hb1⟩; have HH := H.drew.grow hb1; obtain ⟨y0, y1, y2, y3⟩ := HH.atz hz; obtain ⟨x0, x1, x2, x3⟩ := HH.frz fz hb)
  (try go_wp2_with fail)
  refine hK.out _ _ (by (try dsimp only); all_goals exact trivial) (fun hHeld => ?_)
  clear hK K
  try simp only [Act.put, List.setIfInBounds_toArray, List.set_cons_zero, List.set_cons_succ]
  refine hm_take (i := 6) (v := ?_) rfl rfl (by kernel_rfl) (by kernel_rfl) (by kernel_rfl) (fun _ _ _ h => h) rfl ?_ (by assumption) ?_
  rotate_left
  · (intro w hSw; (try dsimp only at hSw); go_simp; try with_reducible rfl)
  try simp only [Act.put, List.setIfInBounds_toArray, List.set_cons_zero, List.set_cons_succ]
  refine hm_call (i := 7) rfl (by kernel_rfl) rfl (fun K hK => ?_)
  (go_simp)
  refine hK.out _ _ (by (try dsimp only); all_goals exact trivial) (fun hHeld => ?_)
  clear hK K
  try simp only [Act.put, List.setIfInBounds_toArray, List.set_cons_zero, List.set_cons_succ]
  refine wpAnyH_done (by kernel_rfl) ?_ _
  refine NoPanic.normal ?_
  have H2 : Left w b o (N4.setW (N4.setW z 3 (BitVec.ofNat 64 (Lib.beNat (seg l 0 8)))) 2 (BitVec.ofNat 64 (Lib.beNat (seg l 8 8)))) (World.setCell w1 ⟨b, o + 2, none⟩ (.int .u64 ((Lib.beNat (seg l 8 8) : Nat) : Int))) := by
    rw [← U_ofNat _ (by omega)]
    exact (HH.one 2 (by omega) _)
  clear H hB1 HH y0 y1 y2 y3 x0 x1 x2 x3 hb1
  revert H2
  generalize World.setCell _ _ _ = W1
  intro H
  go_wp2
  have hB1 : BytesAt _ g (q + 16) (seg l 16 8) := (H.bytes hB hne).cut 16 8
  refine wp_region_noPanic ?_
  refine wp_region_held_drew (S := (fun _ => True)) (by kernel_rfl) (by all_goals exact trivial) (fun hHeld => ?_)
  refine hm_take (i := 0) (v := ?_) rfl rfl (by kernel_rfl) (by kernel_rfl) (by kernel_rfl) (fun _ _ _ h => h) rfl ?_ (by assumption) ?_
  rotate_left
  · (intro w hSw; (try dsimp only at hSw); go_simp; try with_reducible rfl)
  try simp only [Act.put, List.setIfInBounds_toArray, List.set_cons_zero, List.set_cons_succ]
  refine hm_take (i := 1) (v := ?_) rfl rfl (by kernel_rfl) (by kernel_rfl) (by kernel_rfl) (fun _ _ _ h => h) rfl ?_ (by assumption) ?_
  rotate_left
  · (intro w hSw; (try dsimp only at hSw); go_simp; try with_reducible rfl)
  try simp only [Act.put, List.setIfInBounds_toArray, List.set_cons_zero, List.set_cons_succ]
  refine hm_take (i := 2) (v := ?_) rfl rfl (by kernel_rfl) (by kernel_rfl) (by kernel_rfl) (fun _ _ _ h => h) rfl ?_ (by assumption) ?_
  rotate_left
  · (intro w hSw; (try dsimp only at hSw); go_simp; try with_reducible rfl)
  try simp only [Act.put, List.setIfInBounds_toArray, List.set_cons_zero, List.set_cons_succ]
  refine hm_take (i := 3) (v := ?_) rfl rfl (by kernel_rfl) (by kernel_rfl) (by kernel_rfl) (fun _ _ _ h => h) rfl ?_ (by assumption) ?_
  rotate_left
  · (intro w hSw; (try dsimp only at hSw); go_simp; try with_reducible rfl)
  try simp only [Act.put, List.setIfInBounds_toArray, List.set_cons_zero, List.set_cons_succ]
  refine hm_take (i := 5) (v := ?_) rfl rfl (by kernel_rfl) (by kernel_rfl) (by kernel_rfl) (fun _ _ _ h => h) rfl ?_ (by assumption) ?_
  rotate_left
  · (intro w hSw; (try dsimp only at hSw); go_simp; try with_reducible rfl)
  try simp only [Act.put, List.setIfInBounds_toArray, List.set_cons_zero, List.set_cons_succ]
  refine hm_call (i := 4) rfl (by kernel_rfl) rfl (fun K hK => ?_)
  go_simp
  (go_at_call 70; refine (rd64_any _ _ _ _ (seg l 16 8) _ n1 (by omega) (BytesAt.bel hB1 (bel_drew (bel_refl _)))).mono ?_; rintro e w1 ⟨rfl, hb1⟩; have HH := H.drew.grow hb1; obtain ⟨y0, y1, y2, y3⟩ := HH.atz hz; obtain ⟨x0, x1, x2, x3⟩ := HH.frz fz hb)
  (try go_wp2_with fail)
  refine hK.out _ _ (by (try dsimp only); all_goals exact trivial) (fun hHeld => ?_)
  clear hK K
  try simp only [Act.put, List.setIfInBounds_toArray, List.set_cons_zero, List.set_cons_succ]
  refine hm_take (i := 6) (v := ?_) rfl rfl (by kernel_rfl) (by kernel_rfl) (by kernel_rfl) (fun _ _ _ h => h) rfl ?_ (by assumption) ?_
  rotate_left
  · (intro w hSw; (try dsimp only at hSw); go_simp; try with_reducible rfl)
  try simp only [Act.put, List.setIfInBounds_toArray, List.set_cons_zero, List.set_cons_succ]
  refine hm_call (i := 7) rfl (by kernel_rfl) rfl (fun K hK => ?_)
  (go_simp)
  refine hK.out _ _ (by (try dsimp only); all_goals exact trivial) (fun hHeld => ?_)
  clear hK K
  try simp only [Act.put, List.setIfInBounds_toArray, List.set_cons_zero, List.set_cons_succ]
  refine wpAnyH_done (by kernel_rfl) ?_ _
  refine NoPanic.normal ?_
  have H2 : Left w b o (N4.setW (N4.setW (N4.setW z 3 (BitVec.ofNat 64 (Lib.beNat (seg l 0 8)))) 2 (BitVec.ofNat 64 (Lib.beNat (seg l 8 8)))) 1 (BitVec.ofNat 64 (Lib.beNat (seg l 16 8)))) (World.setCell w1 ⟨b, o + 1, none⟩ (.int .u64 ((Lib.beNat (seg l 16 8) : Nat) : Int))) := by
    rw [← U_ofNat _ (by omega)]
    exact (HH.one 1 (by omega) _)
  clear H hB1 HH y0 y1 y2 y3 x0 x1 x2 x3 hb1
  revert H2
  generalize World.setCell _ _ _ = W1
  intro H
  go_wp2
  have hB1 : BytesAt _ g (q + 24) (seg l 24 8) := (H.bytes hB hne).cut 24 8
  refine wp_region_noPanic ?_
  refine wp_region_held_drew (S := (fun _ => True)) (by kernel_rfl) (by all_goals exact trivial) (fun hHeld => ?_)
  refine hm_take (i := 0) (v := ?_) rfl rfl (by kernel_rfl) (by kernel_rfl) (by kernel_rfl) (fun _ _ _ h => h) rfl ?_ (by assumption) ?_
  rotate_left
  · (intro w hSw; (try dsimp only at hSw); go_simp; try with_reducible rfl)
  try simp only [Act.put, List.setIfInBounds_toArray, List.set_cons_zero, List.set_cons_succ]
  refine hm_take (i := 1) (v := ?_) rfl rfl (by kernel_rfl) (by kernel_rfl) (by kernel_rfl) (fun _ _ _ h => h) rfl ?_ (by assumption) ?_
  rotate_left
  · (intro w hSw; (try dsimp only at hSw); go_simp; try with_reducible rfl)
  try simp only [Act.put, List.setIfInBounds_toArray, List.set_cons_zero, List.set_cons_succ]
  refine hm_take (i := 2) (v := ?_) rfl rfl (by kernel_rfl) (by kernel_rfl) (by kernel_rfl) (fun _ _ _ h => h) rfl ?_ (by assumption) ?_
  rotate_left
  · (intro w hSw; (try dsimp only at hSw); go_simp; try with_reducible rfl)
  try simp only [Act.put, List.setIfInBounds_toArray, List.set_cons_zero, List.set_cons_succ]
  refine hm_take (i := 3) (v := ?_) rfl rfl (by kernel_rfl) (by kernel_rfl) (by kernel_rfl) (fun _ _ _ h => h) rfl ?_ (by assumption) ?_
  rotate_left
  · (intro w hSw; (try dsimp only at hSw); go_simp; try with_reducible rfl)
  try simp only [Act.put, List.setIfInBounds_toArray, List.set_cons_zero, List.set_cons_succ]
  refine hm_take (i := 5) (v := ?_) rfl rfl (by kernel_rfl) (by kernel_rfl) (by kernel_rfl) (fun _ _ _ h => h) rfl ?_ (by assumption) ?_
  rotate_left
  · (intro w hSw; (try dsimp only at hSw); go_simp; try with_reducible rfl)
  try simp only [Act.put, List.setIfInBounds_toArray, List.set_cons_zero, List.set_cons_succ]
  refine hm_call (i := 4) rfl (by kernel_rfl) rfl (fun K hK => ?_)
  go_simp
  (go_at_call 70; refine (rd64_any _ _ _ _ (seg l 24 8) _ n0 (by omega) (BytesAt.bel hB1 (bel_drew (bel_refl _)))).mono ?_; rintro e w1 ⟨rfl, hb1⟩; have HH := H.drew.grow hb1; obtain ⟨y0, y1, y2, y3⟩ := HH.atz hz; obtain ⟨x0, x1, x2, x3⟩ := HH.frz fz hb)
  (try go_wp2_with fail)
  refine hK.out _ _ (by (try dsimp only); all_goals exact trivial) (fun hHeld => ?_)
  clear hK K
  try simp only [Act.put, List.setIfInBounds_toArray, List.set_cons_zero, List.set_cons_succ]
  refine hm_take (i := 6) (v := ?_) rfl rfl (by kernel_rfl) (by kernel_rfl) (by kernel_rfl) (fun _ _ _ h => h) rfl ?_ (by assumption) ?_
  rotate_left
  · (intro w hSw; (try dsimp only at hSw); go_simp; try with_reducible rfl)
  try simp only [Act.put, List.setIfInBounds_toArray, List.set_cons_zero, List.set_cons_succ]
  refine hm_call (i := 7) rfl (by kernel_rfl) rfl (fun K hK => ?_)
  (go_simp)
  refine hK.out _ _ (by (try dsimp only); all_goals exact trivial) (fun hHeld => ?_)
  clear hK K
  try simp only [Act.put, List.setIfInBounds_toArray, List.set_cons_zero, List.set_cons_succ]
  refine wpAnyH_done (by kernel_rfl) ?_ _
  refine NoPanic.normal ?_
  have H2 : Left w b o (N4.setW (N4.setW (N4.setW (N4.setW z 3 (BitVec.ofNat 64 (Lib.beNat (seg l 0 8)))) 2 (BitVec.ofNat 64 (Lib.beNat (seg l 8 8)))) 1 (BitVec.ofNat 64 (Lib.beNat (seg l 16 8)))) 0 (BitVec.ofNat 64 (Lib.beNat (seg l 24 8)))) (World.setCell w1 ⟨b, o, none⟩ (.int .u64 ((Lib.beNat (seg l 24 8) : Nat) : Int))) := by
    rw [← U_ofNat _ (by omega)]
    exact (HH.one 0 (by omega) _)
  clear H hB1 HH y0 y1 y2 y3 x0 x1 x2 x3 hb1
  revert H2
  generalize World.setCell _ _ _ = W1
  intro H
  go_wp2
  go_ret
  refine ⟨rfl, ?_⟩
  have e : (N4.setW (N4.setW (N4.setW (N4.setW z 3 (BitVec.ofNat 64 (Lib.beNat (seg l 0 8)))) 2 (BitVec.ofNat 64 (Lib.beNat (seg l 8 8)))) 1 (BitVec.ofNat 64 (Lib.beNat (seg l 16 8)))) 0 (BitVec.ofNat 64 (Lib.beNat (seg l 24 8)))) = ofN (Lib.beNat (l.take 32)) := by
    apply eq_ofN
    rw [HV.out]
    simp only [N4.setW, N4.toNat, if_true, if_false, reduceIte, BitVec.toNat_ofNat, show ¬ (2 : Nat) = 0 by omega, show ¬ (3 : Nat) = 0 by omega, show ¬ (1 : Nat) = 0 by omega, show ¬ (2 : Nat) = 1 by omega, show ¬ (3 : Nat) = 1 by omega, show ¬ (3 : Nat) = 2 by omega]
    omega
  rw [← e]
  exact H
end Go.Proofs.YtpmhkmcikjbncaaFmt
