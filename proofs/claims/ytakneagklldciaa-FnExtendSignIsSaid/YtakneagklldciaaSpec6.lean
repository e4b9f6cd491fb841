/-
  The reference's Low and ExtendSign, by worth.
-/
import Derived.Test.YtakneagklldciaaSpec5
namespace Go.Proofs.Ytakneagklldciaa
set_option maxRecDepth 20000
open Go.RowKit
set_option linter.unusedVariables false
set_option linter.unusedSimpArgs false
set_option maxHeartbeats 1000000 in
theorem specLow_any (x : N4) (k : Nat) (w : World) (hk : k ≤ 1024) : Calls Try.prog 49 #[x.v, .int .i64 (k : Int)] w (RetBel (N4.v (ofN (x.toNat % 2 ^ k))) w) := by
  have PW : Hid (∀ w, Calls Try.prog 53 #[.int .i64 (k : Int)] w (RetDg (2 ^ k) 65 w)) := fun w => power_any k w hk
  have hp : 0 < 2 ^ k := Nat.two_pow_pos k
  obtain ⟨P, hP⟩ : ∃ P, P = 2 ^ k := ⟨_, rfl⟩
  rw [← hP] at PW hp
  rw [← hP]
  clear hP
  go_enter Try.func49, Try.ntmps49
  go_wp2_with fail
  refine (whole_dg x _).mono ?_
  rintro e w0 ⟨va, rfl, Da, hb0⟩
  have bel0 : Below w.heap.size w w0 := bel_trans (bel_alloc (bel_alloc (bel_refl w) _) _) hb0
  have res0 : w0.there (w.heap.size + 1) 0 4 := there_bel (there_at _ _ _ _ _ (Nat.le_refl _) (by simp)) (by omega) hb0
  have sz0 : w.heap.size + 2 ≤ w0.heap.size := by have := hb0.size; simp at this; omega
  have c0_0 := fun o => hb0.cell (p := ⟨w.heap.size, o, none⟩) (by simp <;> omega)
  simp [go_sem] at c0_0
  clear hb0
  go_wp2_with fail
  refine (PW.out _).mono ?_
  rintro e w1 ⟨vb, rfl, Db, hb1⟩
  have bel1 := bel_trans bel0 hb1
  have res1 := there_bel res0 (by omega) hb1
  have sz1 : w.heap.size + 2 ≤ w1.heap.size := Nat.le_trans sz0 hb1.size
  have c0_1 := fun o => (hb1.cell (p := ⟨w.heap.size, o, none⟩) (show w.heap.size < w0.heap.size by omega)).trans (c0_0 o)
  clear bel0 res0 sz0 c0_0
  have Da2 := Da.bel hb1
  go_wp2_with fail
  refine (divide_dg _ _ _ _ _ _ _ Da2 Db (by omega) (by omega) hp).mono ?_
  rintro e w2 ⟨vc, uc, rfl, Dc, Ec, hb2⟩
  have bel2 := bel_trans bel1 hb2
  have res2 := there_bel res1 (by omega) hb2
  have sz2 : w.heap.size + 2 ≤ w2.heap.size := Nat.le_trans sz1 hb2.size
  have c0_2 := fun o => (hb2.cell (p := ⟨w.heap.size, o, none⟩) (show w.heap.size < w1.heap.size by omega)).trans (c0_1 o)
  clear bel1 res1 sz1 c0_1
  go_wp2_with fail
  refine (cut_dg _ _ _ _ Ec (by omega)).mono ?_
  rintro e w3 ⟨rfl, hb3⟩
  have bel3 := bel_trans bel2 hb3
  have res3 := there_bel res2 (by omega) hb3
  have sz3 : w.heap.size + 2 ≤ w3.heap.size := Nat.le_trans sz2 hb3.size
  have c0_3 := fun o => (hb3.cell (p := ⟨w.heap.size, o, none⟩) (show w.heap.size < w2.heap.size by omega)).trans (c0_2 o)
  clear bel2 res2 sz2 c0_2
  generalize ofN (x.toNat % P) = r at *
  go_wp2_with (refine wpList_store_mid rfl 26 _ _ rfl (w.heap.size + 1) 0 [V (r).a, V (r).b, V (r).c, V (r).d].toArray rfl rfl res3 (by kernel_rfl) (by simp [Value.oneCell']) ?_)
  exact retBel_row rfl rfl (w.heap.size + 1) [V (r).a, V (r).b, V (r).c, V (r).d] _ rfl (World.rangeAt_setCells_same w3 _ 0 _ res3) Try.underlying26 rfl (by kernel_rfl) rfl (setCells_bel bel3 (by omega))
/-- Extension of a sign, as the reference says it. -/
def extN (x y : N4) : N4 := if (!y.isU) || decide (30 < y.a.toNat) then x
  else if x.toNat / 2 ^ (8 * y.a.toNat + 7) % 2 = 0 then ofN (x.toNat % 2 ^ (8 * y.a.toNat + 8))
  else ofN ((ofN (x.toNat % 2 ^ (8 * y.a.toNat + 8))).toNat + (2 ^ 256) - ((ofN (2 ^ (8 * y.a.toNat + 8))).toNat))
theorem arrayN42 {l : Array Value} (h : l.size = 42) : ∃ x0 x1 x2 x3 x4 x5 x6 x7 x8 x9 x10 x11 x12 x13 x14 x15 x16 x17 x18 x19 x20 x21 x22 x23 x24 x25 x26 x27 x28 x29 x30 x31 x32 x33 x34 x35 x36 x37 x38 x39 x40 x41, l = #[x0, x1, x2, x3, x4, x5, x6, x7, x8, x9, x10, x11, x12, x13, x14, x15, x16, x17, x18, x19, x20, x21, x22, x23, x24, x25, x26, x27, x28, x29, x30, x31, x32, x33, x34, x35, x36, x37, x38, x39, x40, x41] := by
  obtain ⟨l⟩ := l
  have h0 : l.length = 41 + 1 := h
  clear h
  obtain ⟨x0, l1, rfl, h1⟩ := cons_of h0
  obtain ⟨x1, l2, rfl, h2⟩ := cons_of h1
  obtain ⟨x2, l3, rfl, h3⟩ := cons_of h2
  obtain ⟨x3, l4, rfl, h4⟩ := cons_of h3
  obtain ⟨x4, l5, rfl, h5⟩ := cons_of h4
  obtain ⟨x5, l6, rfl, h6⟩ := cons_of h5
  obtain ⟨x6, l7, rfl, h7⟩ := cons_of h6
  obtain ⟨x7, l8, rfl, h8⟩ := cons_of h7
  obtain ⟨x8, l9, rfl, h9⟩ := cons_of h8
  obtain ⟨x9, l10, rfl, h10⟩ := cons_of h9
  obtain ⟨x10, l11, rfl, h11⟩ := cons_of h10
  obtain ⟨x11, l12, rfl, h12⟩ := cons_of h11
  obtain ⟨x12, l13, rfl, h13⟩ := cons_of h12
  obtain ⟨x13, l14, rfl, h14⟩ := cons_of h13
  obtain ⟨x14, l15, rfl, h15⟩ := cons_of h14
  obtain ⟨x15, l16, rfl, h16⟩ := cons_of h15
  obtain ⟨x16, l17, rfl, h17⟩ := cons_of h16
  obtain ⟨x17, l18, rfl, h18⟩ := cons_of h17
  obtain ⟨x18, l19, rfl, h19⟩ := cons_of h18
  obtain ⟨x19, l20, rfl, h20⟩ := cons_of h19
  obtain ⟨x20, l21, rfl, h21⟩ := cons_of h20
  obtain ⟨x21, l22, rfl, h22⟩ := cons_of h21
  obtain ⟨x22, l23, rfl, h23⟩ := cons_of h22
  obtain ⟨x23, l24, rfl, h24⟩ := cons_of h23
  obtain ⟨x24, l25, rfl, h25⟩ := cons_of h24
  obtain ⟨x25, l26, rfl, h26⟩ := cons_of h25
  obtain ⟨x26, l27, rfl, h27⟩ := cons_of h26
  obtain ⟨x27, l28, rfl, h28⟩ := cons_of h27
  obtain ⟨x28, l29, rfl, h29⟩ := cons_of h28
  obtain ⟨x29, l30, rfl, h30⟩ := cons_of h29
  obtain ⟨x30, l31, rfl, h31⟩ := cons_of h30
  obtain ⟨x31, l32, rfl, h32⟩ := cons_of h31
  obtain ⟨x32, l33, rfl, h33⟩ := cons_of h32
  obtain ⟨x33, l34, rfl, h34⟩ := cons_of h33
  obtain ⟨x34, l35, rfl, h35⟩ := cons_of h34
  obtain ⟨x35, l36, rfl, h36⟩ := cons_of h35
  obtain ⟨x36, l37, rfl, h37⟩ := cons_of h36
  obtain ⟨x37, l38, rfl, h38⟩ := cons_of h37
  obtain ⟨x38, l39, rfl, h39⟩ := cons_of h38
  obtain ⟨x39, l40, rfl, h40⟩ := cons_of h39
  obtain ⟨x40, l41, rfl, h41⟩ := cons_of h40
  obtain ⟨x41, l42, rfl, h42⟩ := cons_of h41
  cases l42 with
  | nil => exact ⟨x0, x1, x2, x3, x4, x5, x6, x7, x8, x9, x10, x11, x12, x13, x14, x15, x16, x17, x18, x19, x20, x21, x22, x23, x24, x25, x26, x27, x28, x29, x30, x31, x32, x33, x34, x35, x36, x37, x38, x39, x40, x41, rfl⟩
  | cons a t => simp at h42
def extVF (lo cp r : N4) (N P : Nat) : Nat → Value → World → Prop
  | 0, v, w => v = lo.v
  | 1, v, w => v = .int .i64 (N : Int)
  | 2, v, w => Dg w v P 65
  | 3, v, w => v = cp.v
  | 4, v, w => v = r.v
  | _, _, _ => False
theorem extVF_mono (lo cp r : N4) (N P : Nat) : ∀ j v w w', Below w.heap.size w w' → extVF lo cp r N P j v w → extVF lo cp r N P j v w' := by
  intro j v w w' hb h
  match j, h with
  | 0, h | 1, h | 3, h | 4, h => exact h
  | 2, h => exact Dg.bel h hb
set_option maxHeartbeats 2000000 in
theorem specExtendSign_any (x y : N4) (w : World) : Calls Try.prog 18 #[x.v, y.v] w (RetBel (N4.v (extN x y)) w) := by
  have key : ∀ r, extN x y = r → Hid (extN x y = r) := fun _ h => h
  obtain ⟨i, hi⟩ : ∃ i, i = y.a.toNat := ⟨_, rfl⟩
  have hU : U y.a = (i : Int) := by rw [hi]; rfl
  cases hu : y.isU
  · have K := key x (by unfold extN; rw [hu, Bool.not_false, Bool.true_or, if_pos rfl])
    have hb : (y.b ||| y.c ||| y.d != 0#64) = true := by unfold N4.isU at hu; rw [bne, hu]; rfl
    clear key hu hi
    go_enter Try.func18, Try.ntmps18
    go_wp2
    rw [K.out]
    refine bodyPost_ret (v := x.v) (by simp [results, Try.results18, go_sem] <;> first | rfl | exact ⟨rfl, rfl, rfl, rfl⟩) rfl (retBel rfl ?_)
    exact bel_alloc (bel_alloc (bel_alloc (bel_refl _) _) _) _
  have hb : (y.b ||| y.c ||| y.d != 0#64) = false := by unfold N4.isU at hu; rw [bne, hu]; rfl
  by_cases h30 : 30 < i
  · have K := key x (by unfold extN; rw [← hi, decide_eq_true h30, Bool.or_true, if_pos rfl])
    clear key hu hi
    go_enter Try.func18, Try.ntmps18
    go_wp2
    rw [K.out]
    refine bodyPost_ret (v := x.v) (by simp [results, Try.results18, go_sem] <;> first | rfl | exact ⟨rfl, rfl, rfl, rfl⟩) rfl (retBel rfl ?_)
    exact bel_alloc (bel_alloc (bel_alloc (bel_refl _) _) _) _
  have K0 := key _ (by unfold extN; rw [hu, ← hi, decide_eq_false h30, Bool.not_true, Bool.or_false, if_neg (by decide)])
  obtain ⟨N, hN⟩ : ∃ N, N = 8 * i + 8 := ⟨_, rfl⟩
  have hN' : (8 : Int) * (i : Int) + 8 = (N : Int) := by omega
  have hM' : (N : Int) - 1 = ((8 * i + 7 : Nat) : Int) := by omega
  have LO : Hid (∀ w, Calls Try.prog 49 #[x.v, .int .i64 (N : Int)] w (RetBel (N4.v (ofN (x.toNat % 2 ^ N))) w)) := fun w => specLow_any x N w (by omega)
  have PW : Hid (∀ w, Calls Try.prog 53 #[.int .i64 (N : Int)] w (RetDg (2 ^ N) 65 w)) := fun w => power_any N w (by omega)
  have BI : Hid (∀ v (w : World), Dg w v x.toNat 16 → Calls Try.prog 50 #[v, .int .i64 ((8 * i + 7 : Nat) : Int)] w fun e w' => e = .returned (.int .i64 ((x.toNat / 2 ^ (8 * i + 7) % 2 : Nat) : Int)) ∧ w = w') := fun v w h => bit_dg v x.toNat 16 (8 * i + 7) w h (by omega) (by omega)
  rw [show 8 * i + 8 = N from hN.symm] at K0
  clear key hu hi
  obtain ⟨lo, hlo⟩ : ∃ lo, lo = ofN (x.toNat % 2 ^ N) := ⟨_, rfl⟩
  obtain ⟨bt, hbt⟩ : ∃ bt, bt = x.toNat / 2 ^ (8 * i + 7) % 2 := ⟨_, rfl⟩
  obtain ⟨M, hM⟩ : ∃ M, M = 8 * i + 7 := ⟨_, rfl⟩
  rw [← hlo, ← hbt] at K0
  rw [← hlo] at LO
  rw [← hbt, ← hM] at BI
  rw [← hM] at hM'
  obtain ⟨P, hP⟩ : ∃ P, P = 2 ^ N := ⟨_, rfl⟩
  rw [← hP] at PW K0
  have hNl : N ≤ 256 := by omega
  clear hlo hbt hM hP hN
  go_enter Try.func18, Try.ntmps18
  go_wp2_with fail
  refine (LO.out _).mono ?_
  rintro e w0 ⟨rfl, hb0⟩
  have bel0 : Below w.heap.size w w0 := bel_trans (bel_alloc (bel_alloc (bel_alloc (bel_refl w) _) _) _) hb0
  have res0 : w0.there (w.heap.size + 2) 0 4 := there_bel (there_at _ _ _ _ _ (Nat.le_refl _) (by simp)) (by omega) hb0
  have sz0 : w.heap.size + 3 ≤ w0.heap.size := by have := hb0.size; simp at this; omega
  have c0_0 := fun o => hb0.cell (p := ⟨w.heap.size, o, none⟩) (by simp <;> omega)
  simp [go_sem] at c0_0
  clear hb0
  have hlt0 : w.heap.size < w0.heap.size := by omega
  have hne0 : ¬ w.heap.size = w0.heap.size := by omega
  have hne1 : ¬ w0.heap.size = w.heap.size := by omega
  go_wp2_with fail
  refine (whole_dg x _).mono ?_
  rintro e w1 ⟨v1, rfl, D1, hb1⟩
  have bel1 : Below w.heap.size w w1 := bel_trans (bel_alloc bel0 _) hb1
  have res1 : w1.there (w.heap.size + 2) 0 4 := there_bel (World.there_alloc res0 _) (by omega) hb1
  have sz1 : w0.heap.size < w1.heap.size := by have := hb1.size; simp at this; omega
  have cl := fun o => hb1.cell (p := ⟨w0.heap.size, o, none⟩) (by simp)
  simp [go_sem] at cl
  clear hb1 c0_0 bel0 res0
  go_wp2_with fail
  refine (BI.out _ _ D1).mono ?_
  rintro e w2 ⟨rfl, rfl⟩
  by_cases hz : bt = 0
  · have K : Hid (extN x y = lo) := by show _ = _; rw [K0.out, if_pos hz]
    have t0 : ((bt : Int) == 0) = true := by rw [hz]; rfl
    clear hz K0
    go_wp2_with (refine wpList_store_mid rfl 26 _ _ rfl (w.heap.size + 2) 0 [V lo.a, V lo.b, V lo.c, V lo.d].toArray rfl rfl res1 (by kernel_rfl) (by simp [Value.oneCell']) ?_)
    rw [K.out]
    exact retBel_row rfl rfl (w.heap.size + 2) [V lo.a, V lo.b, V lo.c, V lo.d] _ rfl (World.rangeAt_setCells_same w1 _ 0 _ res1) Try.underlying26 rfl (by kernel_rfl) rfl (setCells_bel bel1 (by omega))
  · have K : Hid (extN x y = ofN (lo.toNat + (2 ^ 256) - ((ofN P).toNat))) := by show _ = _; rw [K0.out, if_neg hz]
    have t0 : ((bt : Int) == 0) = false := by simpa using hz
    clear hz K0
    have SB : Hid (∀ w, Calls Try.prog 51 #[lo.v, (ofN P).v] w (RetBel (N4.v (ofN (lo.toNat + (2 ^ 256) - ((ofN P).toNat)))) w)) := fun w => specSub_any lo (ofN P) w
    have CU : Hid (∀ v (w : World), Dg w v P 65 → Calls Try.prog 52 #[v] w (RetBel (ofN P).v w)) := fun v w h => cut_dg v P 65 w h (by omega)
    generalize ofN (lo.toNat + (2 ^ 256) - ((ofN P).toNat)) = r at *
    generalize ofN P = cp at *
    go_wp2
    refine wp_region_grow (by kernel_rfl) [37, 38, 39, 40, 41] (extVF lo cp r N P) rfl (by decide) (grow_dst rfl) (grow_ord (by kernel_rfl)) (grow_in 42 rfl (by decide)) (extVF_mono _ _ _ _ _) ?_ (grow_all (by kernel_rfl)) ?_
    · intro j o hj ho a' w' hf hb hpre
      have s5 := hf.rest 5 (by decide)
      have s6 := hf.rest 6 (by decide)
      have hc := fun o => (hb.cell (p := ⟨w0.heap.size, o, none⟩) sz1).trans (cl o)
      simp [go_sem] at s5 s6
      match j, hj with
      | 0, _ =>
        cases ho
        refine step_val (v := lo.v) (w' := w') ?_ ⟨rfl, bel_refl _⟩
        simp [execOp, Act.eval, s6, hc, go_sem]
      | 1, _ =>
        cases ho
        refine step_val (v := .int .i64 (N : Int)) (w' := w') ?_ ⟨rfl, bel_refl _⟩
        simp [execOp, Act.eval, s5, go_sem]
      | 2, _ =>
        cases ho
        obtain ⟨v0, e0, rfl⟩ := hpre ⟨1, .data⟩ (by simp) rfl 38 rfl
        refine step_call (f := 53) (args := #[.int .i64 (N : Int)]) (w' := w') ?_ (PW.out w') ?_
        · simp [execOp, Act.eval, e0, go_sem]
        · rintro e w'' ⟨v, rfl, hd, hb2⟩
          exact ⟨_, rfl, hd, hb2⟩
      | 3, _ =>
        cases ho
        obtain ⟨v0, e0, h0⟩ := hpre ⟨2, .data⟩ (by simp) rfl 39 rfl
        refine step_call (f := 52) (args := #[v0]) (w' := w') ?_ (CU.out v0 w' h0) ?_
        · simp [execOp, Act.eval, e0, go_sem]
        · rintro e w'' ⟨rfl, hb2⟩
          exact ⟨_, rfl, rfl, hb2⟩
      | 4, _ =>
        cases ho
        obtain ⟨v0, e0, rfl⟩ := hpre ⟨0, .data⟩ (by simp) rfl 37 rfl
        obtain ⟨v1, e1, rfl⟩ := hpre ⟨3, .data⟩ (by simp) rfl 40 rfl
        refine step_call (f := 51) (args := #[lo.v, cp.v]) (w' := w') ?_ (SB.out w') ?_
        · simp [execOp, Act.eval, e0, e1, go_sem]
        · rintro e w'' ⟨rfl, hb2⟩
          exact ⟨_, rfl, rfl, hb2⟩
      | n + 5, hj => exact absurd hj (by simp)
    · intro o ho a' w' hf hb hv
      cases ho
      obtain ⟨vr, er, rfl⟩ := hv 4 41 rfl
      have sr := hf.rest 4 (by decide)
      have hsz := hf.size
      have hdf := hf.defers
      have hres := there_bel res1 (by omega) hb
      have hbel := bel_trans bel1 hb
      clear hv hf hb
      obtain ⟨tm, df⟩ := a'
      obtain ⟨x0, x1, x2, x3, x4, x5, x6, x7, x8, x9, x10, x11, x12, x13, x14, x15, x16, x17, x18, x19, x20, x21, x22, x23, x24, x25, x26, x27, x28, x29, x30, x31, x32, x33, x34, x35, x36, x37, x38, x39, x40, x41, rfl⟩ := arrayN42 hsz
      simp [go_sem] at er sr hdf
      subst er sr hdf
      clear hsz
      refine wp_store_mid 26 _ _ rfl (w.heap.size + 2) 0 [V r.a, V r.b, V r.c, V r.d].toArray rfl rfl hres (by kernel_rfl) (by simp [Value.oneCell']) ?_
      go_wp2
      rw [K.out]
      exact retBel_row rfl rfl (w.heap.size + 2) [V r.a, V r.b, V r.c, V r.d] _ rfl (World.rangeAt_setCells_same w' _ 0 _ hres) Try.underlying26 rfl (by kernel_rfl) rfl (setCells_bel hbel (by omega))
end Go.Proofs.Ytakneagklldciaa
