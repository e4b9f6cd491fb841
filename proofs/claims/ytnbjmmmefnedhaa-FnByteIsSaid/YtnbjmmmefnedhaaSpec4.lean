/-
  The reference's Mul, Lsh, Rsh, SRsh, by worth.
-/
import Derived.Test.YtnbjmmmefnedhaaDig7
import Derived.Test.YtnbjmmmefnedhaaSpec3
namespace Go.Proofs.Ytnbjmmmefnedhaa
set_option maxRecDepth 20000
open Go.RowKit
set_option linter.unusedVariables false
set_option linter.unusedSimpArgs false
theorem arrayN11 {l : Array Value} (h : l.size = 11) : ∃ x0 x1 x2 x3 x4 x5 x6 x7 x8 x9 x10, l = #[x0, x1, x2, x3, x4, x5, x6, x7, x8, x9, x10] := by
  obtain ⟨l⟩ := l
  have h0 : l.length = 10 + 1 := h
  clear h
  obtain ⟨x0, l1, rfl, h1⟩ := cons_of h0
  obtain ⟨x1, l2, rfl, h2⟩ := cons_of h1
  obtain ⟨x2, l3, rfl, h3⟩ := cons_of h2
  obtain ⟨x3, l4, rfl, h4⟩ := cons_of h3
  obtain ⟨x4, l5, rfl, h5⟩ := cons_of h4
  obtain ⟨x5, l6, rfl, h6⟩ := cons_of h5
  obtain ⟨x6, l7, rfl, h7⟩ := cons_of h6
  obtain ⟨x7, l8, rfl, h8⟩ := cons_of h7
  obtain ⟨x8, l9, rfl, h9⟩ := cons_of h8
  obtain ⟨x9, l10, rfl, h10⟩ := cons_of h9
  obtain ⟨x10, l11, rfl, h11⟩ := cons_of h10
  cases l11 with
  | nil => exact ⟨x0, x1, x2, x3, x4, x5, x6, x7, x8, x9, x10, rfl⟩
  | cons a t => simp at h11
def specMul_anyVF (x : N4) (y : N4) : Nat → Value → World → Prop
  | 0, v, w => v = x.v
  | 1, v, w => Dg w v (x.toNat) (16)
  | 2, v, w => v = y.v
  | 3, v, w => Dg w v (y.toNat) (16)
  | 4, v, w => Dg w v (x.toNat * (y.toNat)) (16 + (16) + 1)
  | 5, v, w => v = N4.v (ofN (x.toNat * (y.toNat)))
  | _, _, _ => False
theorem specMul_anyVF_mono (x : N4) (y : N4) : ∀ j v w w', Below w.heap.size w w' → specMul_anyVF x y j v w → specMul_anyVF x y j v w' := by
  intro j v w w' hb h
  match j, h with
  | 0, h => exact h
  | 1, h => exact h.bel hb
  | 2, h => exact h
  | 3, h => exact h.bel hb
  | 4, h => exact h.bel hb
  | 5, h => exact h
set_option maxHeartbeats 1000000 in
theorem specMul_any (x : N4) (y : N4) (w : World) : Calls Try.prog 44 #[x.v, y.v] w (RetBel (N4.v (ofN (x.toNat * (y.toNat)))) w) := by
  go_enter Try.func44, Try.ntmps44
  go_wp2
  refine wp_region_grow (by kernel_rfl) [5, 6, 7, 8, 9, 10] (specMul_anyVF x y) rfl (by decide) (grow_dst rfl) (grow_ord (by kernel_rfl)) (grow_in 11 rfl (by decide)) (specMul_anyVF_mono _ _) ?_ (grow_all (by kernel_rfl)) ?_
  · intro j o hj ho a' w' hf hb hpre
    have s0 := hf.rest 2 (by decide)
    have hc0 := fun o => hb.cell (p := ⟨w.heap.size, o, none⟩) (by simp <;> omega)
    have s1 := hf.rest 3 (by decide)
    have hc1 := fun o => hb.cell (p := ⟨w.heap.size + 1, o, none⟩) (by simp <;> omega)
    simp [go_sem] at s0 hc0 s1 hc1
    match j, hj with
    | 0, _ =>
      cases ho
      refine step_val (v := x.v) (w' := w') ?_ ⟨rfl, bel_refl _⟩
      simp [execOp, Act.eval, s0, hc0, go_sem]
    | 1, _ =>
      cases ho
      obtain ⟨v0, e0, rfl⟩ := hpre ⟨0, .data⟩ (by simp) rfl 5 rfl
      refine step_call (f := 22) (args := #[x.v]) (w' := w') ?_ (whole_dg x w') ?_
      · simp [execOp, Act.eval, e0, go_sem]
      · rintro e w'' ⟨v, rfl, hd, hb2⟩
        exact ⟨_, rfl, hd, hb2⟩
    | 2, _ =>
      cases ho
      refine step_val (v := y.v) (w' := w') ?_ ⟨rfl, bel_refl _⟩
      simp [execOp, Act.eval, s1, hc1, go_sem]
    | 3, _ =>
      cases ho
      obtain ⟨v0, e0, rfl⟩ := hpre ⟨2, .data⟩ (by simp) rfl 7 rfl
      refine step_call (f := 22) (args := #[y.v]) (w' := w') ?_ (whole_dg y w') ?_
      · simp [execOp, Act.eval, e0, go_sem]
      · rintro e w'' ⟨v, rfl, hd, hb2⟩
        exact ⟨_, rfl, hd, hb2⟩
    | 4, _ =>
      cases ho
      obtain ⟨v0, e0, h0⟩ := hpre ⟨1, .data⟩ (by simp) rfl 6 rfl
      obtain ⟨v1, e1, h1⟩ := hpre ⟨3, .data⟩ (by simp) rfl 8 rfl
      refine step_call (f := 58) (args := #[v0, v1]) (w' := w') ?_ (times_dg _ _ _ _ _ _ w' h0 h1 (by omega) (by omega)) ?_
      · simp [execOp, Act.eval, e0, e1, go_sem]
      · rintro e w'' ⟨v, rfl, hd, hb2⟩
        exact ⟨_, rfl, hd, hb2⟩
    | 5, _ =>
      cases ho
      obtain ⟨v0, e0, h0⟩ := hpre ⟨4, .data⟩ (by simp) rfl 9 rfl
      refine step_call (f := 57) (args := #[v0]) (w' := w') ?_ (cut_dg _ _ _ w' h0 (by omega)) ?_
      · simp [execOp, Act.eval, e0, go_sem]
      · rintro e w'' ⟨rfl, hb2⟩
        exact ⟨_, rfl, rfl, hb2⟩
    | n + 6, hj => exact absurd hj (by simp)
  · intro o ho a' w' hf hb hv
    cases ho
    obtain ⟨vr, er, rfl⟩ := hv 5 10 rfl
    have sr := hf.rest 4 (by decide)
    have hsz := hf.size
    have hdf := hf.defers
    have hres : w'.there (w.heap.size + 2) 0 4 := there_bel (there_at _ _ _ _ _ (Nat.le_refl _) (by simp)) (by omega) hb
    have hbel : Below w.heap.size w w' := bel_trans (bel_alloc (bel_alloc (bel_alloc (bel_refl w) _) _) _) hb
    clear hv hf hb
    obtain ⟨tm, df⟩ := a'
    obtain ⟨x0, x1, x2, x3, x4, x5, x6, x7, x8, x9, x10, rfl⟩ := arrayN11 hsz
    simp [go_sem] at er sr hdf
    subst er sr hdf
    clear hsz
    refine wp_store_mid 26 _ _ rfl (w.heap.size + 2) 0 [V (ofN (x.toNat * (y.toNat))).a, V (ofN (x.toNat * (y.toNat))).b, V (ofN (x.toNat * (y.toNat))).c, V (ofN (x.toNat * (y.toNat))).d].toArray rfl rfl hres (by kernel_rfl) (by simp [Value.oneCell']) ?_
    go_wp2
    exact retBel_row rfl rfl (w.heap.size + 2) [V (ofN (x.toNat * (y.toNat))).a, V (ofN (x.toNat * (y.toNat))).b, V (ofN (x.toNat * (y.toNat))).c, V (ofN (x.toNat * (y.toNat))).d] _ rfl (World.rangeAt_setCells_same w' _ 0 _ hres) Try.underlying26 rfl (by kernel_rfl) rfl (setCells_bel hbel (by omega))
/-- A shift to the left, as the reference says it. -/
def lshN (x : N4) (n : Int) : N4 := if n < 0 ∨ 255 < n then ⟨0#64, 0#64, 0#64, 0#64⟩ else ofN (x.toNat * 2 ^ n.toNat)
def rshN (x : N4) (n : Int) : N4 := if n < 0 ∨ 255 < n then ⟨0#64, 0#64, 0#64, 0#64⟩ else ofN (x.toNat / 2 ^ n.toNat)
def srshN (x : N4) (n : Int) : N4 := if x.neg then (rshN x.not n).not else rshN x n
theorem Dg.mul_pow {w : World} {v : Value} {a b c L : Nat} (h : Dg w v (a * b) L) (e : b = c) : Dg w v (a * c) L := e ▸ h
set_option maxHeartbeats 1000000 in
theorem specLsh_any (x : N4) (n : Int) (w : World) (hn : I64 n) : Calls Try.prog 28 #[x.v, .int .i64 n] w (RetBel (N4.v (lshN x n)) w) := by
  unfold I64 at hn
  by_cases hr : n < 0 ∨ 255 < n
  · have K : Hid (lshN x n = ⟨0#64, 0#64, 0#64, 0#64⟩) := by show _ = _; unfold lshN; rw [if_pos hr]
    have d1 : (n < 0) ∨ (¬ n < 0 ∧ 255 < n) := by omega
    clear hr
    rcases d1 with d1 | ⟨d1, d2⟩
    all_goals
      go_enter Try.func28, Try.ntmps28
      go_wp2
      rw [K.out]
      refine bodyPost_ret (v := N4.v ⟨0#64, 0#64, 0#64, 0#64⟩) (by simp [results, Try.results28, go_sem] <;> first | rfl | exact ⟨rfl, rfl, rfl, rfl⟩) rfl (retBel rfl ?_)
      exact bel_alloc (bel_alloc (bel_refl _) _) _
  · have h0 : 0 ≤ n := by omega
    have h1 : n ≤ 255 := by omega
    obtain ⟨k, rfl⟩ := Int.eq_ofNat_of_zero_le h0
    have K : Hid (lshN x (k : Int) = ofN (x.toNat * 2 ^ k)) := by show _ = _; unfold lshN; rw [if_neg hr, Int.toNat_natCast]
    clear hr
    have PW : Hid (∀ w, Calls Try.prog 59 #[.int .i64 (k : Int)] w (RetDg (2 ^ k) 65 w)) := fun w => power_any k w (by omega)
    have hp : 0 < 2 ^ k := Nat.two_pow_pos k
    obtain ⟨P, hP⟩ : ∃ P, P = 2 ^ k := ⟨_, rfl⟩
    rw [← hP] at PW hp
    rw [← hP] at K
    clear hP
    go_enter Try.func28, Try.ntmps28
    go_wp2_with fail
    refine (whole_dg x _).mono ?_
    rintro e w0 ⟨va, rfl, Da, hb0⟩
    have bel0 : Below w.heap.size w w0 := bel_trans (bel_alloc (bel_alloc (bel_refl w) _) _) hb0
    have res0 : w0.there (w.heap.size + 1) 0 4 := there_bel (there_at _ _ _ _ _ (Nat.le_refl _) (by simp)) (by omega) hb0
    have sz0 : w.heap.size + 2 ≤ w0.heap.size := by have := hb0.size; simp at this; omega
    have c0_0 := fun o => hb0.cell (p := ⟨w.heap.size, o, none⟩) (by simp <;> omega)
    simp [go_sem] at c0_0
    clear hb0
    go_wp2_with fail
    refine (PW.out _).mono ?_
    rintro e w1 ⟨vb, rfl, Db, hb1⟩
    have bel1 := bel_trans bel0 hb1
    have res1 := there_bel res0 (by omega) hb1
    have sz1 : w.heap.size + 2 ≤ w1.heap.size := Nat.le_trans sz0 hb1.size
    have c0_1 := fun o => (hb1.cell (p := ⟨w.heap.size, o, none⟩) (show w.heap.size < w0.heap.size by omega)).trans (c0_0 o)
    clear bel0 res0 sz0 c0_0
    have Da2 := Da.bel hb1
    go_wp2_with fail
    refine (times_dg _ _ _ _ _ _ _ Da2 Db (by omega) (by omega)).mono ?_
    rintro e w2 ⟨vc, rfl, Dc, hb2⟩
    have bel2 := bel_trans bel1 hb2
    have res2 := there_bel res1 (by omega) hb2
    have sz2 : w.heap.size + 2 ≤ w2.heap.size := Nat.le_trans sz1 hb2.size
    have c0_2 := fun o => (hb2.cell (p := ⟨w.heap.size, o, none⟩) (show w.heap.size < w1.heap.size by omega)).trans (c0_1 o)
    clear bel1 res1 sz1 c0_1
    go_wp2_with fail
    refine (cut_dg _ _ _ _ Dc (by omega)).mono ?_
    rintro e w3 ⟨rfl, hb3⟩
    have bel3 := bel_trans bel2 hb3
    have res3 := there_bel res2 (by omega) hb3
    have sz3 : w.heap.size + 2 ≤ w3.heap.size := Nat.le_trans sz2 hb3.size
    have c0_3 := fun o => (hb3.cell (p := ⟨w.heap.size, o, none⟩) (show w.heap.size < w2.heap.size by omega)).trans (c0_2 o)
    clear bel2 res2 sz2 c0_2
    obtain ⟨r, hr⟩ : ∃ r, r = ofN (x.toNat * P) := ⟨_, rfl⟩
    rw [← hr] at K ⊢
    clear hr
    go_wp2_with (refine wpList_store_mid rfl 26 _ _ rfl (w.heap.size + 1) 0 [V (r).a, V (r).b, V (r).c, V (r).d].toArray rfl rfl res3 (by kernel_rfl) (by simp [Value.oneCell']) ?_)
    rw [K.out]
    exact retBel_row rfl rfl (w.heap.size + 1) [V (r).a, V (r).b, V (r).c, V (r).d] _ rfl (World.rangeAt_setCells_same w3 _ 0 _ res3) Try.underlying26 rfl (by kernel_rfl) rfl (setCells_bel bel3 (by omega))
set_option maxHeartbeats 1000000 in
theorem specRsh_any (x : N4) (n : Int) (w : World) (hn : I64 n) : Calls Try.prog 30 #[x.v, .int .i64 n] w (RetBel (N4.v (rshN x n)) w) := by
  unfold I64 at hn
  by_cases hr : n < 0 ∨ 255 < n
  · have K : Hid (rshN x n = ⟨0#64, 0#64, 0#64, 0#64⟩) := by show _ = _; unfold rshN; rw [if_pos hr]
    have d1 : (n < 0) ∨ (¬ n < 0 ∧ 255 < n) := by omega
    clear hr
    rcases d1 with d1 | ⟨d1, d2⟩
    all_goals
      go_enter Try.func30, Try.ntmps30
      go_wp2
      rw [K.out]
      refine bodyPost_ret (v := N4.v ⟨0#64, 0#64, 0#64, 0#64⟩) (by simp [results, Try.results30, go_sem] <;> first | rfl | exact ⟨rfl, rfl, rfl, rfl⟩) rfl (retBel rfl ?_)
      exact bel_alloc (bel_alloc (bel_refl _) _) _
  · have h0 : 0 ≤ n := by omega
    have h1 : n ≤ 255 := by omega
    obtain ⟨k, rfl⟩ := Int.eq_ofNat_of_zero_le h0
    have K : Hid (rshN x (k : Int) = ofN (x.toNat / 2 ^ k)) := by show _ = _; unfold rshN; rw [if_neg hr, Int.toNat_natCast]
    clear hr
    have PW : Hid (∀ w, Calls Try.prog 59 #[.int .i64 (k : Int)] w (RetDg (2 ^ k) 65 w)) := fun w => power_any k w (by omega)
    have hp : 0 < 2 ^ k := Nat.two_pow_pos k
    obtain ⟨P, hP⟩ : ∃ P, P = 2 ^ k := ⟨_, rfl⟩
    rw [← hP] at PW hp
    rw [← hP] at K
    clear hP
    go_enter Try.func30, Try.ntmps30
    go_wp2_with fail
    refine (whole_dg x _).mono ?_
    rintro e w0 ⟨va, rfl, Da, hb0⟩
    have bel0 : Below w.heap.size w w0 := bel_trans (bel_alloc (bel_alloc (bel_refl w) _) _) hb0
    have res0 : w0.there (w.heap.size + 1) 0 4 := there_bel (there_at _ _ _ _ _ (Nat.le_refl _) (by simp)) (by omega) hb0
    have sz0 : w.heap.size + 2 ≤ w0.heap.size := by have := hb0.size; simp at this; omega
    have c0_0 := fun o => hb0.cell (p := ⟨w.heap.size, o, none⟩) (by simp <;> omega)
    simp [go_sem] at c0_0
    clear hb0
    go_wp2_with fail
    refine (PW.out _).mono ?_
    rintro e w1 ⟨vb, rfl, Db, hb1⟩
    have bel1 := bel_trans bel0 hb1
    have res1 := there_bel res0 (by omega) hb1
    have sz1 : w.heap.size + 2 ≤ w1.heap.size := Nat.le_trans sz0 hb1.size
    have c0_1 := fun o => (hb1.cell (p := ⟨w.heap.size, o, none⟩) (show w.heap.size < w0.heap.size by omega)).trans (c0_0 o)
    clear bel0 res0 sz0 c0_0
    have Da2 := Da.bel hb1
    go_wp2_with fail
    refine (divide_dg _ _ _ _ _ _ _ Da2 Db (by omega) (by omega) hp).mono ?_
    rintro e w2 ⟨vc, uc, rfl, Dc, Ec, hb2⟩
    have bel2 := bel_trans bel1 hb2
    have res2 := there_bel res1 (by omega) hb2
    have sz2 : w.heap.size + 2 ≤ w2.heap.size := Nat.le_trans sz1 hb2.size
    have c0_2 := fun o => (hb2.cell (p := ⟨w.heap.size, o, none⟩) (show w.heap.size < w1.heap.size by omega)).trans (c0_1 o)
    clear bel1 res1 sz1 c0_1
    go_wp2_with fail
    refine (cut_dg _ _ _ _ Dc (by omega)).mono ?_
    rintro e w3 ⟨rfl, hb3⟩
    have bel3 := bel_trans bel2 hb3
    have res3 := there_bel res2 (by omega) hb3
    have sz3 : w.heap.size + 2 ≤ w3.heap.size := Nat.le_trans sz2 hb3.size
    have c0_3 := fun o => (hb3.cell (p := ⟨w.heap.size, o, none⟩) (show w.heap.size < w2.heap.size by omega)).trans (c0_2 o)
    clear bel2 res2 sz2 c0_2
    obtain ⟨r, hr⟩ : ∃ r, r = ofN (x.toNat / P) := ⟨_, rfl⟩
    rw [← hr] at K ⊢
    clear hr
    go_wp2_with (refine wpList_store_mid rfl 26 _ _ rfl (w.heap.size + 1) 0 [V (r).a, V (r).b, V (r).c, V (r).d].toArray rfl rfl res3 (by kernel_rfl) (by simp [Value.oneCell']) ?_)
    rw [K.out]
    exact retBel_row rfl rfl (w.heap.size + 1) [V (r).a, V (r).b, V (r).c, V (r).d] _ rfl (World.rangeAt_setCells_same w3 _ 0 _ res3) Try.underlying26 rfl (by kernel_rfl) rfl (setCells_bel bel3 (by omega))
set_option maxHeartbeats 1000000 in
theorem specSRsh_any (x : N4) (n : Int) (w : World) (hn : I64 n) : Calls Try.prog 32 #[x.v, .int .i64 n] w (RetBel (N4.v (srshN x n)) w) := by
  have RS := Lib.hid (fun (x : N4) (w : World) => specRsh_any x n w hn)
  cases hs : x.neg
  · have K : Hid (srshN x n = rshN x n) := by show _ = _; unfold srshN; rw [hs]; rfl
    go_enter Try.func32, Try.ntmps32
    go_wp2_with fail
    refine (specBelow_any x _).mono ?_
    rintro e w0 ⟨rfl, hb0⟩
    have bel0 : Below w.heap.size w w0 := bel_trans (bel_alloc (bel_alloc (bel_refl w) _) _) hb0
    have res0 : w0.there (w.heap.size + 1) 0 4 := there_bel (there_at _ _ _ _ _ (Nat.le_refl _) (by simp)) (by omega) hb0
    have sz0 : w.heap.size + 2 ≤ w0.heap.size := by have := hb0.size; simp at this; omega
    have c0_0 := fun o => hb0.cell (p := ⟨w.heap.size, o, none⟩) (by simp <;> omega)
    simp [go_sem] at c0_0
    clear hb0
    go_wp2_with fail
    refine (RS.out x _).mono ?_
    rintro e w1 ⟨rfl, hb1⟩
    have bel1 := bel_trans bel0 hb1
    have res1 := there_bel res0 (by omega) hb1
    have sz1 : w.heap.size + 2 ≤ w1.heap.size := Nat.le_trans sz0 hb1.size
    have c0_1 := fun o => (hb1.cell (p := ⟨w.heap.size, o, none⟩) (show w.heap.size < w0.heap.size by omega)).trans (c0_0 o)
    clear bel0 res0 sz0 c0_0
    go_wp2_with (refine wpList_store_mid rfl 26 _ _ rfl (w.heap.size + 1) 0 [V (rshN x n).a, V (rshN x n).b, V (rshN x n).c, V (rshN x n).d].toArray rfl rfl res1 (by kernel_rfl) (by simp [Value.oneCell']) ?_)
    rw [K.out]
    exact retBel_row rfl rfl (w.heap.size + 1) [V (rshN x n).a, V (rshN x n).b, V (rshN x n).c, V (rshN x n).d] _ rfl (World.rangeAt_setCells_same w1 _ 0 _ res1) Try.underlying26 rfl (by kernel_rfl) rfl (setCells_bel bel1 (by omega))
  · have K : Hid (srshN x n = (rshN x.not n).not) := by show _ = _; unfold srshN; rw [hs]; rfl
    go_enter Try.func32, Try.ntmps32
    go_wp2_with fail
    refine (specBelow_any x _).mono ?_
    rintro e w0 ⟨rfl, hb0⟩
    have bel0 : Below w.heap.size w w0 := bel_trans (bel_alloc (bel_alloc (bel_refl w) _) _) hb0
    have res0 : w0.there (w.heap.size + 1) 0 4 := there_bel (there_at _ _ _ _ _ (Nat.le_refl _) (by simp)) (by omega) hb0
    have sz0 : w.heap.size + 2 ≤ w0.heap.size := by have := hb0.size; simp at this; omega
    have c0_0 := fun o => hb0.cell (p := ⟨w.heap.size, o, none⟩) (by simp <;> omega)
    simp [go_sem] at c0_0
    clear hb0
    go_wp2_with fail
    refine (specNot_any x _).mono ?_
    rintro e w1 ⟨rfl, hb1⟩
    have bel1 := bel_trans bel0 hb1
    have res1 := there_bel res0 (by omega) hb1
    have sz1 : w.heap.size + 2 ≤ w1.heap.size := Nat.le_trans sz0 hb1.size
    have c0_1 := fun o => (hb1.cell (p := ⟨w.heap.size, o, none⟩) (show w.heap.size < w0.heap.size by omega)).trans (c0_0 o)
    clear bel0 res0 sz0 c0_0
    go_wp2_with fail
    refine (RS.out x.not _).mono ?_
    rintro e w2 ⟨rfl, hb2⟩
    have bel2 := bel_trans bel1 hb2
    have res2 := there_bel res1 (by omega) hb2
    have sz2 : w.heap.size + 2 ≤ w2.heap.size := Nat.le_trans sz1 hb2.size
    have c0_2 := fun o => (hb2.cell (p := ⟨w.heap.size, o, none⟩) (show w.heap.size < w1.heap.size by omega)).trans (c0_1 o)
    clear bel1 res1 sz1 c0_1
    go_wp2_with fail
    refine (specNot_any (rshN x.not n) _).mono ?_
    rintro e w3 ⟨rfl, hb3⟩
    have bel3 := bel_trans bel2 hb3
    have res3 := there_bel res2 (by omega) hb3
    have sz3 : w.heap.size + 2 ≤ w3.heap.size := Nat.le_trans sz2 hb3.size
    have c0_3 := fun o => (hb3.cell (p := ⟨w.heap.size, o, none⟩) (show w.heap.size < w2.heap.size by omega)).trans (c0_2 o)
    clear bel2 res2 sz2 c0_2
    go_wp2_with (refine wpList_store_mid rfl 26 _ _ rfl (w.heap.size + 1) 0 [V ((rshN x.not n).not).a, V ((rshN x.not n).not).b, V ((rshN x.not n).not).c, V ((rshN x.not n).not).d].toArray rfl rfl res3 (by kernel_rfl) (by simp [Value.oneCell']) ?_)
    rw [K.out]
    exact retBel_row rfl rfl (w.heap.size + 1) [V ((rshN x.not n).not).a, V ((rshN x.not n).not).b, V ((rshN x.not n).not).c, V ((rshN x.not n).not).d] _ rfl (World.rangeAt_setCells_same w3 _ 0 _ res3) Try.underlying26 rfl (by kernel_rfl) rfl (setCells_bel bel3 (by omega))
end Go.Proofs.Ytnbjmmmefnedhaa
