/-
  The reference's Divide, by worth.
-/
import Derived.Test.YtfaocjcpnjmfiaaDoorDig6
namespace Go.Proofs.YtfaocjcpnjmfiaaDoor
set_option maxRecDepth 20000
open Go.RowKit
set_option linter.unusedVariables false
set_option linter.unusedSimpArgs false
theorem bel_step {a b c : World} {n : Nat} (h : Below n a b) (hn : n ≤ a.heap.size) (k : Below b.heap.size b c) : Below n a c := h.trans (k.mono (Nat.le_trans hn h.size))
theorem div_start (A B la : Nat) (hA : A < 65536 ^ la) : A / 2 ^ (16 * la) = 0 := by
  rw [Nat.pow_mul]; exact Nat.div_eq_of_lt hA
theorem div_q (o : List Nat) (A B p d : Nat) (hB : 0 < B) (hv : val o = 2 ^ (p + 1) * (A / 2 ^ (p + 1) / B)) : val o % 2 ^ (p + 1) = 0 := by rw [hv, Nat.mul_mod_right]
theorem div_set (o : List Nat) (A B p : Nat) (hp : p / 16 < o.length) (hB : 0 < B) (hv : val o = 2 ^ (p + 1) * (A / 2 ^ (p + 1) / B)) (hge : B ≤ 2 * (A / 2 ^ (p + 1) % B) + A / 2 ^ p % 2) :
    val (o.set (p / 16) (dig o (p / 16) + 2 ^ (p % 16))) = 2 ^ p * (A / 2 ^ p / B) := by
  have h1 := val_set (d := dig o (p / 16) + 2 ^ (p % 16)) hp
  rw [Nat.mul_add, pow_split] at h1
  have h2 := ((div_step A B p hB).2.2 hge).2
  rw [h2, Nat.mul_add, Nat.mul_one, show 2 ^ p * (2 * (A / 2 ^ (p + 1) / B)) = 2 ^ (p + 1) * (A / 2 ^ (p + 1) / B) by rw [Nat.pow_succ, Nat.mul_assoc], ← hv]
  omega
theorem div_keep (o : List Nat) (A B p : Nat) (hB : 0 < B) (hv : val o = 2 ^ (p + 1) * (A / 2 ^ (p + 1) / B)) (hlt : 2 * (A / 2 ^ (p + 1) % B) + A / 2 ^ p % 2 < B) : val o = 2 ^ p * (A / 2 ^ p / B) := by
  have h2 := ((div_step A B p hB).2.1 hlt).2
  rw [h2, show 2 ^ p * (2 * (A / 2 ^ (p + 1) / B)) = 2 ^ (p + 1) * (A / 2 ^ (p + 1) / B) by rw [Nat.pow_succ, Nat.mul_assoc], ← hv]
theorem Tryd.infoInt7 : (Tryd.prog.info? 3).map (fun i => (i.zero, i.size, i.bytes)) = some (some (.int .i64 0), 1, 8) := by kernel_rfl
set_option maxHeartbeats 8000000 in
theorem divide_any (va vb : Value) (a : List Nat) (B LB : Nat) (w : World) (sa : Sl w va a) (sb : Dg w vb B LB) (da : Digits a) (la : a.length ≤ 1000) (lb : LB ≤ 1000) (hB : 0 < B) :
    Calls Tryd.prog 27 #[va, vb] w (RetDg2 (val a / B) (val a % B) a.length (LB + 32 * a.length + 1) w) := by
  obtain ⟨i0, hi, hz0, hz1, hz2⟩ := info_parts Tryd.infoInt7
  have Da : Hid (Dg w va (val a) a.length) := ⟨a, sa, da, rfl, Nat.le_refl _⟩
  have Db := Lib.hid sb
  have hA : Hid (val a < 65536 ^ a.length) := vlow_lt da a.length
  obtain ⟨A, ca, rfl, hca, _⟩ := sa
  obtain ⟨n, hn⟩ : ∃ n, n = a.length := ⟨_, rfl⟩
  obtain ⟨N, hN⟩ : ∃ N, N = val a := ⟨_, rfl⟩
  rw [← hn] at la hca Da hA
  rw [← hN] at Da hA
  rw [← hn, ← hN]
  clear hn hN da sb
  go_enter Tryd.func27, Tryd.ntmps27
  go_wp2_with (at_make; refine wpList_make_full _ rfl _ _ 30 rfl w.heap.size 3 i0 (.int .i64 0) 1 Tryd.underlying30 hi hz0 hz1 _ _ _ _ n rfl rfl (by omega) (by omega) ?_ ?_ ?_ ?_)
  · rw [hz2]; omega
  · unfold maxLen; omega
  · omega
  intro w1 hown0 hgrow
  rw [ints_made] at hown0
  have hbel0 : Below w.heap.size w w1 := (bel_refl w).grown hgrow (Nat.le_refl _) (fun g hg => by cases hg)
  have hsz0 := hbel0.size
  clear hgrow
  go_wp2
  go_loopw [7, 8] (fun u t wr => ∃ (o : List Nat) (k : Int), -1 ≤ k ∧ k < 16 * (n : Int) ∧ t = .int .i64 k ∧ wr.ownsRow w.heap.size 3 1 (.slice (some ⟨w.heap.size, 0, none⟩) n n) n (ints o) ∧ Hid (o.length = n) ∧ Digits o ∧ Hid (val o = 2 ^ (k + 1).toNat * (N / 2 ^ (k + 1).toNat / B)) ∧ Hid (Dg wr u (N / 2 ^ (k + 1).toNat % B) (LB + 2 * (16 * n - (k + 1).toNat) + 1)) ∧ From (w.heap.size + 1) u ∧ Below w.heap.size w wr) (fun _ t _ => (intOf t + 1).toNat)
  case atStart =>
    have e0 : (16 * (n : Int) - 1 + 1).toNat = 16 * n := by omega
    refine ⟨List.replicate n 0, 16 * (n : Int) - 1, by omega, by omega, rfl, ?_, List.length_replicate, Digits.replicate _, ?_, ?_, ?_, bel_alloc hbel0 _⟩
    · exact hown0.alloc _
    · show val _ = _
      rw [e0, div_start N B n hA.out, val_replicate, Nat.zero_div, Nat.mul_zero]
    · show Dg _ _ _ _
      rw [e0, div_start N B n hA.out, Nat.zero_mod]
      exact ⟨[], ⟨_, _, rfl, Nat.le_refl _, fun i d hd => by simp at hd⟩, (fun d hd => absurd hd (by simp)), rfl, Nat.zero_le _⟩
    · intro k hk
      have h0 : w.heap.size < w1.heap.size := (hown0.lt _ rfl).2
      have hk' : w1.heap.size = k := by simpa [Value.ownBlock] using hk
      omega
  case round =>
    obtain ⟨o, k, hk0, hk1, rfl, hown, HL, hdo, HV, D7, hfr, hbel⟩ := hrel
    have hgl : w.heap.size < wr.heap.size := (hown.lt _ rfl).2
    by_cases hk : 0 ≤ k
    · obtain ⟨p, rfl⟩ := Int.eq_ofNat_of_zero_le hk
      have ep : ((p : Int) + 1).toNat = p + 1 := by omega
      rw [ep] at HV D7
      clear ep
      have hst := div_step N B p hB
      obtain ⟨R, hR⟩ : ∃ R, R = N / 2 ^ (p + 1) % B := ⟨_, rfl⟩
      obtain ⟨d, hd⟩ : ∃ d, d = N / 2 ^ p % 2 := ⟨_, rfl⟩
      have hd2 : d < 2 := by rw [hd]; exact Nat.mod_lt _ (by decide)
      have hRB : R < B := by rw [hR]; exact Nat.mod_lt _ hB
      simp only at hst
      rw [← hR, ← hd] at hst
      have HST := Lib.hid hst
      have HR := Lib.hid hR
      have Hd := Lib.hid hd
      rw [← hR] at D7
      have DaW := Lib.hid (Da.out.bel hbel)
      have DbW := Lib.hid (Db.out.bel hbel)
      have BIT : Hid (∀ w, Dg w (.slice A n ca) N n → Calls Tryd.prog 35 #[.slice A n ca, .int .i64 (p : Int)] w fun e w' => e = .returned (.int .i64 (d : Int)) ∧ w = w') := fun w h => by
        rw [hd]; exact bit_dg _ N n p w h (by omega) (by omega)
      clear hst hR hd
      have hsz := hbel.size
      have hlow : decide ((0 : Int) ≤ (p : Int)) = true := decide_eq_true (by omega)
      go_wp2_with fail
      refine (plus_dgF _ _ _ _ _ _ _ D7.out D7.out (by omega) (by omega)).mono ?_
      rintro e w2 ⟨v2, rfl, D2, hb2, fr2⟩
      have F2 : From (w.heap.size + 1) v2 := fun k hk => Nat.le_trans hgl (fr2 k hk)
      have hgl2 := Nat.lt_of_lt_of_le hgl hb2.size
      have hown2 := hown.kept (grown_of_bel hb2) (.inr (by simp [Value.ownBlock]))
      have hbel2 := bel_step hbel (Nat.le_refl _) hb2
      have DaW2 := Lib.hid (DaW.out.bel hb2)
      have DbW2 := Lib.hid (DbW.out.bel hb2)
      have hD2 := Lib.hid D2
      clear hb2 D2 hown hbel DaW DbW D7
      go_wp2_with fail
      refine (BIT.out _ DaW2.out).mono ?_
      rintro e w3 ⟨rfl, rfl⟩
      rcases (by omega : d = 0 ∨ d = 1) with hd0 | hd1
      · have t1 : ((d : Int) == 1) = false := by rw [hd0]; rfl
        have HD := Lib.hid hd0
        clear hd0
        have hD4 : Hid (Dg w2 v2 (2 * R + d) (LB + 2 * (16 * n - (p + 1)) + 3)) := (hD2.out.eq (by rw [HD.out]; omega)).le (by omega)
        clear hD2
        by_cases hge : B ≤ 2 * R + d
        · have hcm : (0 : Int) ≤ cmpN (2 * R + d) B := of_decide_eq_true (by rw [cmpN_ge]; exact decide_eq_true hge)
          go_wp2_with fail
          refine (compare_dg _ _ _ _ _ _ _ hD4.out DbW2.out (by omega) (by omega)).mono ?_
          rintro e w5 ⟨rfl, rfl⟩
          generalize cmpN (2 * R + d) B = cm at *
          go_wp2_with fail
          refine (minus_dgF _ _ _ _ _ _ _ hD4.out DbW2.out (by omega) (by omega) hge).mono ?_
          rintro e w6 ⟨v6, rfl, D6, hb6, fr6⟩
          have F6 : From (w.heap.size + 1) v6 := fun k hk => Nat.le_trans hgl2 (fr6 k hk)
          have hown6 := hown2.kept (grown_of_bel hb6) (.inr (by simp [Value.ownBlock]))
          have hbel6 := bel_step hbel2 (Nat.le_refl _) hb6
          have hD6 := Lib.hid D6
          have hp16 : p / 16 < n := by omega
          have hco : w6.cell? ⟨w.heap.size, p / 16, none⟩ = some (.int .i64 (dig o (p / 16) : Int)) := by
            rw [hown6.cellAt (p / 16) (by omega), ints_getElem (by rw [HL.out]; omega)]
          have hfo := hown6.frozenAt (p / 16)
          have hdl := dig_lt hdo (p / 16)
          have hz : dig o (p / 16) % 2 ^ (p % 16 + 1) = 0 := by
            rw [dig_val hdo]; exact dig_zero _ p (div_q o N B p d hB HV.out)
          have hor := i64_orbit (dig o (p / 16)) (p % 16) hdl (by omega) hz
          have hob := (or_bit (dig o (p / 16)) (p % 16) hdl (by omega) hz).1
          have NV := Lib.hid (div_set o N B p (by rw [HL.out]; omega) hB HV.out (by rw [← HR.out, ← Hd.out]; exact hge))
          have NR : Hid (N / 2 ^ p % B = 2 * R + d - B) := (HST.out.2.2 hge).1
          obtain ⟨D, hDD⟩ : ∃ D, D = dig o (p / 16) + 2 ^ (p % 16) := ⟨_, rfl⟩
          rw [← hDD] at hor hob
          rw [← hDD] at NV
          have hst6 := hown6.stored (p / 16) (.int .i64 (D : Int))
          have HO := Lib.hid hst6.1
          rw [← ints_set] at HO
          have hb7 := Lib.hid (bel_set hbel6 ⟨w.heap.size, p / 16, none⟩ (Nat.le_refl _) (.int .i64 (D : Int)))
          have hD7 : Hid (Dg (w6.setCell ⟨w.heap.size, p / 16, none⟩ (.int .i64 (D : Int))) v6 (2 * R + d - B) (LB + 2 * (16 * n - p) + 1)) := (D6.far (fun k hk => by have := F6 k hk; omega)).le (by omega)
          have ea : IntKind.i64.wrap ((p : Int) / 16) = (p : Int) / 16 := IntWalk.i64_in _ (by omega)
          have eb : (p : Int).tdiv 16 = (p : Int) / 16 := Int.tdiv_eq_ediv_of_nonneg (by omega)
          have ec : (p : Int).tmod 16 = ((p % 16 : Nat) : Int) := by rw [Int.tmod_eq_emod_of_nonneg (by omega)]; omega
          have ed : ((p : Int) / 16).toNat = p / 16 := by omega
          have ee : Op.shift .shl .i64 1 .i64 ((p % 16 : Nat) : Int) = pure (.int .i64 ((2 ^ (p % 16) : Nat) : Int)) := i64_shl1 (p % 16) (by omega)
          have ef : bits BinOp.or IntKind.i64 (dig o (p / 16) : Int) (wrap64 ((2 : Int) ^ (p % 16))) = (D : Int) := by
            have e2 : ((2 : Int) ^ (p % 16)) = ((2 ^ (p % 16) : Nat) : Int) := by simp
            have hp15 : 2 ^ (p % 16) ≤ 2 ^ 15 := Nat.pow_le_pow_right (by decide) (by omega)
            rw [e2]
            rw [IntWalk.wrap64_in _ (by generalize 2 ^ (p % 16) = z at hp15; omega)]
            exact hor
          have hDo := hdo.set (p / 16) (d := D) hob
          have HL2 : Hid ((o.set (p / 16) D).length = n) := by show _ = _; rw [List.length_set, HL.out]
          clear hDD hz hst6 hown6 hbel6 D6 hb6 hown2 hbel2 DaW2 DbW2 hD4
          go_wp2
          go_region
          go_wp2
          go_roundw
          case rel =>
            have e1 : ((p : Int) - 1 + 1).toNat = p := by omega
            refine ⟨o.set (p / 16) D, (p : Int) - 1, by omega, by omega, rfl, HO.out, HL2, hDo, ?_, ?_, F6, bel_drewN hb7.out 1⟩
            · show _ = _
              rw [e1]; exact NV.out
            · show Dg _ _ _ _
              rw [e1, NR.out]; exact hD7.out.drewN 1
          case measure => simp [intOf] <;> omega
        · have hcm : ¬ (0 : Int) ≤ cmpN (2 * R + d) B := of_decide_eq_false (by rw [cmpN_ge]; exact decide_eq_false hge)
          go_wp2_with fail
          refine (compare_dg _ _ _ _ _ _ _ hD4.out DbW2.out (by omega) (by omega)).mono ?_
          rintro e w5 ⟨rfl, rfl⟩
          generalize cmpN (2 * R + d) B = cm at *
          have NV := Lib.hid (div_keep o N B p hB HV.out (by rw [← HR.out, ← Hd.out]; omega))
          have NR : Hid (N / 2 ^ p % B = 2 * R + d) := (HST.out.2.1 (by omega)).1
          go_wp2
          go_roundw
          case rel =>
            have e1 : ((p : Int) - 1 + 1).toNat = p := by omega
            refine ⟨o, (p : Int) - 1, by omega, by omega, rfl, hown2, HL, hdo, ?_, ?_, F2, hbel2⟩
            · show _ = _
              rw [e1]; exact NV.out
            · show Dg _ _ _ _
              rw [e1, NR.out]; exact hD4.out.le (by omega)
          case measure => simp [intOf] <;> omega
      · have t1 : ((d : Int) == 1) = true := by rw [hd1]; rfl
        have HD := Lib.hid hd1
        clear hd1
        go_wp2_with fail
        refine (plus_dgF _ _ _ _ _ 1 _ (hD2.out.bel (bel_alloc (bel_refl _) _)) (Dg.one (by simp [go_sem])) (by omega) (by omega)).mono ?_
        rintro e w4 ⟨v4, rfl, D4, hb4', fr4⟩
        have F4 : From (w.heap.size + 1) v4 := fun k hk => by have := fr4 k hk; simp at this; omega
        have hgl4 : w.heap.size < w4.heap.size := by have := hb4'.size; simp at this; omega
        have hb4 := bel_trans (bel_alloc (bel_refl w2) _) hb4'
        have hown4 := hown2.kept (grown_of_bel hb4) (.inr (by simp [Value.ownBlock]))
        have hbel4 := bel_step hbel2 (Nat.le_refl _) hb4
        have DaW4 := Lib.hid (DaW2.out.bel hb4)
        have DbW4 := Lib.hid (DbW2.out.bel hb4)
        have hD4 : Hid (Dg w4 v4 (2 * R + d) (LB + 2 * (16 * n - (p + 1)) + 3)) := (D4.eq (by rw [HD.out]; omega)).le (by omega)
        clear hb4 hb4' D4 hown2 hbel2 DaW2 DbW2 hD2
        by_cases hge : B ≤ 2 * R + d
        · have hcm : (0 : Int) ≤ cmpN (2 * R + d) B := of_decide_eq_true (by rw [cmpN_ge]; exact decide_eq_true hge)
          go_wp2_with fail
          refine (compare_dg _ _ _ _ _ _ _ hD4.out DbW4.out (by omega) (by omega)).mono ?_
          rintro e w5 ⟨rfl, rfl⟩
          generalize cmpN (2 * R + d) B = cm at *
          go_wp2_with fail
          refine (minus_dgF _ _ _ _ _ _ _ hD4.out DbW4.out (by omega) (by omega) hge).mono ?_
          rintro e w6 ⟨v6, rfl, D6, hb6, fr6⟩
          have F6 : From (w.heap.size + 1) v6 := fun k hk => Nat.le_trans hgl4 (fr6 k hk)
          have hown6 := hown4.kept (grown_of_bel hb6) (.inr (by simp [Value.ownBlock]))
          have hbel6 := bel_step hbel4 (Nat.le_refl _) hb6
          have hD6 := Lib.hid D6
          have hp16 : p / 16 < n := by omega
          have hco : w6.cell? ⟨w.heap.size, p / 16, none⟩ = some (.int .i64 (dig o (p / 16) : Int)) := by
            rw [hown6.cellAt (p / 16) (by omega), ints_getElem (by rw [HL.out]; omega)]
          have hfo := hown6.frozenAt (p / 16)
          have hdl := dig_lt hdo (p / 16)
          have hz : dig o (p / 16) % 2 ^ (p % 16 + 1) = 0 := by
            rw [dig_val hdo]; exact dig_zero _ p (div_q o N B p d hB HV.out)
          have hor := i64_orbit (dig o (p / 16)) (p % 16) hdl (by omega) hz
          have hob := (or_bit (dig o (p / 16)) (p % 16) hdl (by omega) hz).1
          have NV := Lib.hid (div_set o N B p (by rw [HL.out]; omega) hB HV.out (by rw [← HR.out, ← Hd.out]; exact hge))
          have NR : Hid (N / 2 ^ p % B = 2 * R + d - B) := (HST.out.2.2 hge).1
          obtain ⟨D, hDD⟩ : ∃ D, D = dig o (p / 16) + 2 ^ (p % 16) := ⟨_, rfl⟩
          rw [← hDD] at hor hob
          rw [← hDD] at NV
          have hst6 := hown6.stored (p / 16) (.int .i64 (D : Int))
          have HO := Lib.hid hst6.1
          rw [← ints_set] at HO
          have hb7 := Lib.hid (bel_set hbel6 ⟨w.heap.size, p / 16, none⟩ (Nat.le_refl _) (.int .i64 (D : Int)))
          have hD7 : Hid (Dg (w6.setCell ⟨w.heap.size, p / 16, none⟩ (.int .i64 (D : Int))) v6 (2 * R + d - B) (LB + 2 * (16 * n - p) + 1)) := (D6.far (fun k hk => by have := F6 k hk; omega)).le (by omega)
          have ea : IntKind.i64.wrap ((p : Int) / 16) = (p : Int) / 16 := IntWalk.i64_in _ (by omega)
          have eb : (p : Int).tdiv 16 = (p : Int) / 16 := Int.tdiv_eq_ediv_of_nonneg (by omega)
          have ec : (p : Int).tmod 16 = ((p % 16 : Nat) : Int) := by rw [Int.tmod_eq_emod_of_nonneg (by omega)]; omega
          have ed : ((p : Int) / 16).toNat = p / 16 := by omega
          have ee : Op.shift .shl .i64 1 .i64 ((p % 16 : Nat) : Int) = pure (.int .i64 ((2 ^ (p % 16) : Nat) : Int)) := i64_shl1 (p % 16) (by omega)
          have ef : bits BinOp.or IntKind.i64 (dig o (p / 16) : Int) (wrap64 ((2 : Int) ^ (p % 16))) = (D : Int) := by
            have e2 : ((2 : Int) ^ (p % 16)) = ((2 ^ (p % 16) : Nat) : Int) := by simp
            have hp15 : 2 ^ (p % 16) ≤ 2 ^ 15 := Nat.pow_le_pow_right (by decide) (by omega)
            rw [e2]
            rw [IntWalk.wrap64_in _ (by generalize 2 ^ (p % 16) = z at hp15; omega)]
            exact hor
          have hDo := hdo.set (p / 16) (d := D) hob
          have HL2 : Hid ((o.set (p / 16) D).length = n) := by show _ = _; rw [List.length_set, HL.out]
          clear hDD hz hst6 hown6 hbel6 D6 hb6 hown4 hbel4 DaW4 DbW4 hD4
          go_wp2
          go_region
          go_wp2
          go_roundw
          case rel =>
            have e1 : ((p : Int) - 1 + 1).toNat = p := by omega
            refine ⟨o.set (p / 16) D, (p : Int) - 1, by omega, by omega, rfl, HO.out, HL2, hDo, ?_, ?_, F6, bel_drewN hb7.out 1⟩
            · show _ = _
              rw [e1]; exact NV.out
            · show Dg _ _ _ _
              rw [e1, NR.out]; exact hD7.out.drewN 1
          case measure => simp [intOf] <;> omega
        · have hcm : ¬ (0 : Int) ≤ cmpN (2 * R + d) B := of_decide_eq_false (by rw [cmpN_ge]; exact decide_eq_false hge)
          go_wp2_with fail
          refine (compare_dg _ _ _ _ _ _ _ hD4.out DbW4.out (by omega) (by omega)).mono ?_
          rintro e w5 ⟨rfl, rfl⟩
          generalize cmpN (2 * R + d) B = cm at *
          have NV := Lib.hid (div_keep o N B p hB HV.out (by rw [← HR.out, ← Hd.out]; omega))
          have NR : Hid (N / 2 ^ p % B = 2 * R + d) := (HST.out.2.1 (by omega)).1
          go_wp2
          go_roundw
          case rel =>
            have e1 : ((p : Int) - 1 + 1).toNat = p := by omega
            refine ⟨o, (p : Int) - 1, by omega, by omega, rfl, hown4, HL, hdo, ?_, ?_, F4, hbel4⟩
            · show _ = _
              rw [e1]; exact NV.out
            · show Dg _ _ _ _
              rw [e1, NR.out]; exact hD4.out.le (by omega)
          case measure => simp [intOf] <;> omega
    · have e1 : (k + 1).toNat = 0 := by omega
      rw [e1] at HV D7
      clear e1
      go_wp2
      go_ret2
      refine ⟨_, _, rfl, ⟨o, Sl.of_own (by rw [HL.out]; exact hown), hdo, ?_, by rw [HL.out]; exact Nat.le_refl _⟩, ?_, hbel⟩
      · rw [HV.out, Nat.pow_zero, Nat.one_mul, Nat.div_one]
      · have := D7.out
        rw [Nat.pow_zero, Nat.div_one] at this
        exact this.le (by omega)
theorem divide_dg (v u : Value) (A L B LB : Nat) (w : World) (h : Dg w v A L) (k : Dg w u B LB) (hL : L ≤ 1000) (hM : LB ≤ 1000) (hB : 0 < B) :
    Calls Tryd.prog 27 #[v, u] w (RetDg2 (A / B) (A % B) L (LB + 32 * L + 1) w) := by
  obtain ⟨l, h1, h2, rfl, h4⟩ := h
  exact (divide_any v u l B LB w h1 k h2 (by omega) hM hB).mono fun e w' ⟨v, u, q1, q2, q3, q4⟩ => ⟨v, u, q1, q2.le h4, q3.le (by omega), q4⟩
end Go.Proofs.YtfaocjcpnjmfiaaDoor
