/-
  Contracts of uint256's udivremBy1 and udivremKnuth over rows of words.
-/
import Derived.Test.YtbgmeppidedfbaaDoorDiv2
import Derived.Test.YtbgmeppidedfbaaDoorDivMath2
namespace Go.Proofs.YtbgmeppidedfbaaDoor
set_option maxRecDepth 20000
open Go.RowKit
set_option linter.unusedVariables false
set_option linter.unusedSimpArgs false
set_option maxRecDepth 20000
def RetBy1 (Q U : List W64) (d : W64) (b o : Nat) (w : World) (e : Ending) (w' : World) : Prop :=
  ∃ (Q' : List W64) (r : W64), e = .returned (V r) ∧ Turned Q Q' 0 (U.length - 1) ∧ wseg U 0 U.length = wseg Q' 0 (U.length - 1) * d.toNat + r.toNat ∧ r.toNat < d.toNat ∧ RowW w' b o Q' ∧ But [b] w w'
set_option maxHeartbeats 2000000 in
theorem udivremBy1_any (b o c p lq cq cu : Nat) (Q U : List W64) (d : W64) (w : World) (hQ : RowW w b o Q) (hU : RowW w c p U) (hne : c ≠ b) (hu : 2 ≤ U.length) (hlq : U.length - 1 ≤ lq) (hlq2 : U.length - 1 ≤ Q.length) (hbig : lq ≤ 1000000) (hbig2 : U.length ≤ 1000000)
    (hd : 9223372036854775808 ≤ d.toNat) (ht : (wd U (U.length - 1)).toNat < d.toNat) :
    Calls Tryd.prog 70 #[.slice (some ⟨b, o, none⟩) lq cq, .slice (some ⟨c, p, none⟩) U.length cu, V d] w (RetBy1 Q U d b o w) := by
  have HQ := Lib.hid hQ
  have HU := Lib.hid hU
  obtain ⟨n, hn⟩ : ∃ n, n = U.length := ⟨_, rfl⟩
  have hc0 := hU.cell (n - 1) (by omega)
  have K : ∀ e w', (∃ (Q' : List W64) (r : W64), e = Ending.returned (V r) ∧ Turned Q Q' 0 (n - 1) ∧ wseg U 0 n = wseg Q' 0 (n - 1) * d.toNat + r.toNat ∧ r.toNat < d.toNat ∧ RowW w' b o Q' ∧ But [b] w w') → RetBy1 Q U d b o w e w' := by
    intro e w' h
    rw [hn] at h
    exact h
  have HK := Lib.hid K
  rw [← hn] at hu hlq hlq2 hbig2 ht
  rw [← hn]
  have Hn := Lib.hid hn
  have Hd := Lib.hid hd
  have Ht := Lib.hid ht
  clear hQ hU hn K hd ht
  have g1 : (0 : Int) ≤ (n : Int) - 1 := by omega
  have g2 : ((n : Int) - 1).toNat = n - 1 := by omega
  have g3 : IntKind.i64.wrap ((n : Int) - 1) = (n : Int) - 1 := IntWalk.i64_in _ (by omega)
  have g4 : IntKind.i64.wrap ((n : Int) - 2) = (n : Int) - 2 := IntWalk.i64_in _ (by omega)
  go_enter Tryd.func70, Tryd.ntmps70
  go_wp2_with fail
  refine (recip_any d _ Hd.out).mono ?_
  rintro e w1 ⟨rfl, n1, rfl⟩
  have hc1 : (w.drewN n1).cell? ⟨c, p + (n - 1), none⟩ = some (V (wd U (n - 1))) := hc0
  go_wp2
  go_loopw [6, 8] (fun u t wr => ∃ (Q' : List W64) (r : W64) (z : Int), u = V r ∧ t = .int .i64 z ∧ -1 ≤ z ∧ z < (n : Int) - 1 ∧ Hid (Q'.length = Q.length ∧ ∀ i : Nat, (i : Int) ≤ z ∨ n - 1 ≤ i → wd Q' i = wd Q i) ∧ Hid (wseg U 0 n = 18446744073709551616 ^ (z + 1).toNat * (wseg Q' (z + 1).toNat (n - 1 - (z + 1).toNat) * d.toNat + r.toNat) + wseg U 0 (z + 1).toNat) ∧ Hid (r.toNat < d.toNat) ∧ RowW wr b o Q' ∧ Hid (RowW wr c p U) ∧ But [b] w wr) (fun _ t _ => (intOf t + 1).toNat)
  case atStart =>
    refine ⟨Q, wd U (n - 1), (n : Int) - 2, rfl, rfl, by omega, by omega, ⟨rfl, fun _ _ => rfl⟩, ?_, Ht, HQ.out.drewN _, HU.out.drewN _, (But.refl _ _).drewN _⟩
    show _ = _
    rw [show ((n : Int) - 2 + 1).toNat = n - 1 by omega, Nat.sub_self]
    obtain ⟨m, rfl⟩ : ∃ m, n = m + 1 := ⟨n - 1, by omega⟩
    rw [Nat.add_sub_cancel, wseg, wseg, Nat.zero_add, Nat.zero_mul, Nat.zero_add]
    omega
  case round =>
    obtain ⟨Q', r, z, rfl, rfl, hz0, hz1, HQL, HE, HR, hR, HU2, hB⟩ := hrel
    obtain ⟨wo, rfl⟩ : ∃ wo : World, wo = wr := ⟨_, rfl⟩
    by_cases hz : 0 ≤ z
    · obtain ⟨k, rfl⟩ := Int.eq_ofNat_of_zero_le hz
      have hll : k < Q'.length := by rw [HQL.out.1]; omega
      have hcu := HU2.out.cell k (by rw [← Hn.out]; omega)
      have hcq := hR.cell k hll
      have hfq := hR.free k hll
      have R2 := Lib.hid (hR.set k (q21 r (wd U k) d) hll)
      have E2 : Hid (wseg U 0 n = 18446744073709551616 ^ k * (wseg (Q'.set k (q21 r (wd U k) d)) k (n - 1 - k) * d.toNat + (r21 r (wd U k) d).toNat) + wseg U 0 k) := by
        have h1 := HE.out
        rw [show ((k : Int) + 1).toNat = k + 1 by omega] at h1
        have h2 := by1_round U Q' k 0 d.toNat r.toNat (q21 r (wd U k) d).toNat (r21 r (wd U k) d).toNat _ _ h1 (q21_toNat _ _ _ HR.out) (r21_toNat _ _ _ HR.out)
        show _ = _
        rw [h2, show n - 1 - k = (n - 1 - (k + 1)) + 1 by omega, wseg_head, wd_set _ _ _ _ hll, if_pos rfl, wseg_congr (l := Q'.set k (q21 r (wd U k) d)) (m := Q') (j := k + 1) (i := k + 1) (fun i hi => by rw [wd_set _ _ _ _ hll, if_neg (by omega)])]
      have L2 : Hid ((Q'.set k (q21 r (wd U k) d)).length = Q.length ∧ ∀ i : Nat, (i : Int) ≤ (k : Int) - 1 ∨ n - 1 ≤ i → wd (Q'.set k (q21 r (wd U k) d)) i = wd Q i) := by
        refine ⟨by rw [List.length_set]; exact HQL.out.1, fun i hi => ?_⟩
        rw [wd_set _ _ _ _ hll, if_neg (by omega)]
        exact HQL.out.2 i (by omega)
      have HR2 : Hid ((r21 r (wd U k) d).toNat < d.toNat) := by
        show _ < _
        rw [r21_toNat _ _ _ HR.out]
        exact Nat.mod_lt _ (by have := Hd.out; omega)
      have B2 := Lib.hid (hB.set (.inl (by simp)) (o + k) (V (q21 r (wd U k) d)) (b := b))
      have d1 : decide (k < n) = true := decide_eq_true (by omega)
      have d2 : decide (k < lq) = true := decide_eq_true (by omega)
      clear hR hB HE
      go_wp2_with (go_at_call 77; refine (udivrem2by1_any _ _ _ _ Hd.out HR.out).mono ?_; rintro e w' ⟨rfl, rfl⟩)
      go_roundw
      case rel =>
        have ez : ((k : Int) - 1 + 1).toNat = k := by omega
        refine ⟨_, _, (k : Int) - 1, rfl, rfl, by omega, by omega, L2, ?_, HR2, R2.out, HU2.out.far _ hne, B2.out⟩
        rw [ez]; exact E2
      case measure => simp [intOf] <;> omega
    · obtain rfl : z = -1 := by omega
      go_wp2
      go_ret
      refine HK.out _ _ ⟨Q', r, rfl, ⟨HQL.out.1, fun i hi => HQL.out.2 i (by omega)⟩, ?_, HR.out, hR, hB⟩
      have h1 := HE.out
      rw [show ((-1 : Int) + 1).toNat = 0 by omega] at h1
      rw [h1, Nat.pow_zero, Nat.one_mul, wseg, Nat.add_zero, Nat.sub_zero]
/-- The code's test on words is the test on numbers. -/
theorem kn_test (re ph pl u0 qe dl : W64) (h : qe.toNat * dl.toNat = pl.toNat + 2 ^ 64 * ph.toNat) :
    (re < ph → re.toNat * 18446744073709551616 + u0.toNat < qe.toNat * dl.toNat) ∧ ((ph == re) = true → u0 < pl → re.toNat * 18446744073709551616 + u0.toNat < qe.toNat * dl.toNat) ∧
    ((ph == re) = true → ¬ u0 < pl → ¬ re.toNat * 18446744073709551616 + u0.toNat < qe.toNat * dl.toNat) ∧ (¬ re < ph → (ph == re) = false → ¬ re.toNat * 18446744073709551616 + u0.toNat < qe.toNat * dl.toNat) := by
  have a1 := u0.isLt; have a2 := pl.isLt
  rw [h, BitVec.lt_def, BitVec.lt_def]
  refine ⟨fun k => by omega, fun k1 k2 => ?_, fun k1 k2 => ?_, fun k1 k2 => ?_⟩
  · rw [beq_iff_eq] at k1; subst k1; omega
  · rw [beq_iff_eq] at k1; subst k1; omega
  · have : ph.toNat ≠ re.toNat := fun e => by rw [BitVec.eq_of_toNat_eq e] at k2; simp at k2
    omega
def RetKnuth (Q U D : List W64) (m n : Nat) (bq oq bu ou : Nat) (w : World) (e : Ending) (w' : World) : Prop :=
  ∃ (Q' U' : List W64), e = .returned (.tuple #[]) ∧ Turned Q Q' 0 m ∧ U'.length = U.length ∧ wseg U 0 (m + n) = wseg Q' 0 m * wseg D 0 n + wseg U' 0 n ∧ wseg U' 0 n < wseg D 0 n ∧ RowW w' bq oq Q' ∧ RowW w' bu ou U' ∧ But [bq, bu] w w'
set_option maxHeartbeats 8000000 in
theorem udivremKnuth_any (bq oq bu ou bd od lq cq cu cd lu m n : Nat) (Q U D : List W64) (w : World) (hQ : RowW w bq oq Q) (hU : RowW w bu ou U) (hD : RowW w bd od D) (nqu : bq ≠ bu) (ndq : bd ≠ bq) (ndu : bd ≠ bu)
    (hlu : lu = U.length) (hm : lu = m + n) (hn : n = D.length) (hn2 : 2 ≤ n) (hm1 : 1 ≤ m) (hlq : m ≤ lq) (hlq2 : m ≤ Q.length) (hcu : lu ≤ cu) (hbig : lq ≤ 1000000) (hbig2 : lu ≤ 1000000)
    (hd : 9223372036854775808 ≤ (wd D (n - 1)).toNat) (ht : wseg U m n < wseg D 0 n) :
    Calls Tryd.prog 71 #[.slice (some ⟨bq, oq, none⟩) lq cq, .slice (some ⟨bu, ou, none⟩) lu cu, .slice (some ⟨bd, od, none⟩) n cd] w (RetKnuth Q U D m n bq oq bu ou w) := by
  have HQ := Lib.hid hQ
  have HU := Lib.hid hU
  have HD := Lib.hid hD
  have hc1 := hD.cell (n - 1) (by omega)
  have hc2 := hD.cell (n - 2) (by omega)
  have Hn := Lib.hid hn
  have Hlu := Lib.hid hlu
  have Hm := Lib.hid hm
  have Hd := Lib.hid hd
  have Ht := Lib.hid ht
  have hnlu : n + 1 ≤ lu := by omega
  clear hQ hU hD hn hlu hm hd ht
  go_enter Tryd.func71, Tryd.ntmps71
  go_wp2_with fail
  refine (recip_any (wd D (n - 1)) _ Hd.out).mono ?_
  rintro e w1 ⟨rfl, n1, rfl⟩
  go_wp2
  go_loopw [9] (fun t wr => ∃ (Q' U' : List W64) (z : Int), t = .int .i64 z ∧ -1 ≤ z ∧ z < (lu : Int) - (n : Int) ∧ Hid (Q'.length = Q.length ∧ ∀ i : Nat, (i : Int) ≤ z ∨ m ≤ i → wd Q' i = wd Q i) ∧ Hid (U'.length = U.length) ∧ Hid (wseg U 0 (m + n) = 18446744073709551616 ^ (z + 1).toNat * wseg Q' (z + 1).toNat (m - (z + 1).toNat) * wseg D 0 n + wseg U' 0 ((z + 1).toNat + n)) ∧ Hid (wseg U' (z + 1).toNat n < wseg D 0 n) ∧ RowW wr bq oq Q' ∧ RowW wr bu ou U' ∧ Hid (RowW wr bd od D) ∧ But [bq, bu] w wr) (fun t _ => (intOf t + 1).toNat)
  case atStart =>
    have ez : ((lu : Int) - (n : Int) - 1 + 1).toNat = m := by have := Hm.out; omega
    refine ⟨Q, U, (lu : Int) - (n : Int) - 1, rfl, by omega, by omega, ⟨rfl, fun _ _ => rfl⟩, rfl, ?_, ?_, HQ.out.drewN _, HU.out.drewN _, HD.out.drewN _, (But.refl _ _).drewN _⟩
    · show _ = _
      rw [ez, Nat.sub_self, wseg, Nat.mul_zero, Nat.zero_mul, Nat.zero_add]
    · show _ < _
      rw [ez]; exact Ht.out
  case round =>
    obtain ⟨Q', U', z, rfl, hz0, hz1, HQL, HUL, HE, HR, hRQ, hRU, HRD, hB⟩ := hrel
    obtain ⟨wo, rfl⟩ : ∃ wo : World, wo = wr := ⟨_, rfl⟩
    by_cases hz : 0 ≤ z
    · obtain ⟨p, rfl⟩ := Int.eq_ofNat_of_zero_le hz
      have hpm : p < m := by have := Hm.out; omega
      have hplu : p + n < lu := by have := Hm.out; omega
      have e1 : ((p : Int) + 1).toNat = p + 1 := by omega
      rw [e1] at HE HR
      clear e1
      have hu2 := hRU.cell (p + n) (by rw [HUL.out, ← Hlu.out]; omega)
      have hu1 := hRU.cell (p + n - 1) (by rw [HUL.out, ← Hlu.out]; omega)
      have hu0 := hRU.cell (p + n - 2) (by rw [HUL.out, ← Hlu.out]; omega)
      have XB : Hid (wseg U' p (n + 1) < wseg D 0 n * 18446744073709551616) := by
        show _ < _
        rw [wseg_head]
        have := HR.out
        have := (wd U' p).isLt
        omega
      have DG := Lib.hid (kn_digit U' D p n hn2 Hd.out XB.out)
      obtain ⟨X, hX⟩ : ∃ X, X = wseg U' p (n + 1) := ⟨_, rfl⟩
      obtain ⟨Dv, hDv⟩ : ∃ Dv, Dv = wseg D 0 n := ⟨_, rfl⟩
      rw [← hX, ← hDv] at DG
      have HX := Lib.hid hX
      have HDv := Lib.hid hDv
      clear hX hDv
      go_upto_if 68 with (fail)
      go_cut [13, 14, 15, 16] (fun s s1 s2 s3 wx => ∃ qh : W64, s = V qh ∧ Hid (X / Dv ≤ qh.toNat ∧ qh.toNat ≤ X / Dv + 1) ∧ wx = wo)
      case first =>
        by_cases hov : wd U' (p + n) < wd D (n - 1)
        · have hov' : ¬ wd D (n - 1) ≤ wd U' (p + n) := by rw [BitVec.le_def]; rw [BitVec.lt_def] at hov; omega
          have hovn : (wd U' (p + n)).toNat < (wd D (n - 1)).toNat := BitVec.lt_def.1 hov
          have KT := Lib.hid (kn_test (r21 (wd U' (p + n)) (wd U' (p + n - 1)) (wd D (n - 1))) (mulH (q21 (wd U' (p + n)) (wd U' (p + n - 1)) (wd D (n - 1))) (wd D (n - 2))) (mulL (q21 (wd U' (p + n)) (wd U' (p + n - 1)) (wd D (n - 1))) (wd D (n - 2))) (wd U' (p + n - 2)) _ _ (mul_spec _ _))
          have DG2 := Lib.hid (DG.out.2 hovn _ _ (q21_toNat _ _ _ hovn) (r21_toNat _ _ _ hovn))
          have UD : Hid (∀ w, Calls Tryd.prog 77 #[V (wd U' (p + n)), V (wd U' (p + n - 1)), V (wd D (n - 1)), V (recW (wd D (n - 1)))] w fun e w' => e = .returned (.tuple #[V (q21 (wd U' (p + n)) (wd U' (p + n - 1)) (wd D (n - 1))), V (r21 (wd U' (p + n)) (wd U' (p + n - 1)) (wd D (n - 1)))]) ∧ w = w') := fun w => udivrem2by1_any _ _ _ w Hd.out hovn
          have HOV := Lib.hid hov
          clear hov hovn
          generalize q21 (wd U' (p + n)) (wd U' (p + n - 1)) (wd D (n - 1)) = qe at *
          generalize r21 (wd U' (p + n)) (wd U' (p + n - 1)) (wd D (n - 1)) = re at *
          by_cases t1 : re < mulH qe (wd D (n - 2))
          · have G := Lib.hid (DG2.out.1 (KT.out.1 t1))
            go_wp2_with (first | (go_at_call 77; refine (UD.out _).mono ?_; rintro e w' ⟨rfl, rfl⟩) | (go_at_call 78; refine (mul64_any _ _ _).mono ?_; rintro e w' ⟨rfl, rfl⟩))
            go_meet
            refine ⟨_, rfl, ?_, rfl⟩
            have g := G.out
            show _ ∧ _
            rw [BitVec.toNat_sub_of_le (by rw [BitVec.le_def]; simp only [BitVec.toNat_ofNat]; omega)]
            exact ⟨g.1, g.2.1⟩
          · cases t2 : (mulH qe (wd D (n - 2)) == re)
            · have G := Lib.hid (DG2.out.2 (KT.out.2.2.2 t1 t2))
              go_wp2_with (first | (go_at_call 77; refine (UD.out _).mono ?_; rintro e w' ⟨rfl, rfl⟩) | (go_at_call 78; refine (mul64_any _ _ _).mono ?_; rintro e w' ⟨rfl, rfl⟩))
              go_meet
              exact ⟨_, rfl, G.out, rfl⟩
            · by_cases t3 : wd U' (p + n - 2) < mulL qe (wd D (n - 2))
              · have G := Lib.hid (DG2.out.1 (KT.out.2.1 t2 t3))
                go_wp2_with (first | (go_at_call 77; refine (UD.out _).mono ?_; rintro e w' ⟨rfl, rfl⟩) | (go_at_call 78; refine (mul64_any _ _ _).mono ?_; rintro e w' ⟨rfl, rfl⟩))
                go_meet
                refine ⟨_, rfl, ?_, rfl⟩
                have g := G.out
                show _ ∧ _
                rw [BitVec.toNat_sub_of_le (by rw [BitVec.le_def]; simp only [BitVec.toNat_ofNat]; omega)]
                exact ⟨g.1, g.2.1⟩
              · have G := Lib.hid (DG2.out.2 (KT.out.2.2.1 t2 t3))
                go_wp2_with (first | (go_at_call 77; refine (UD.out _).mono ?_; rintro e w' ⟨rfl, rfl⟩) | (go_at_call 78; refine (mul64_any _ _ _).mono ?_; rintro e w' ⟨rfl, rfl⟩))
                go_meet
                exact ⟨_, rfl, G.out, rfl⟩
        · have hov' : wd D (n - 1) ≤ wd U' (p + n) := by rw [BitVec.le_def]; rw [BitVec.lt_def] at hov; omega
          have G := Lib.hid (DG.out.1 (fun h => hov (BitVec.lt_def.2 h)))
          clear hov
          go_wp2
          go_meet
          exact ⟨18446744073709551615#64, rfl, G.out, rfl⟩
      case rest =>
        obtain ⟨qh, rfl, HG, rfl⟩ := hcut
        have SM : Hid (∀ w, RowW w bu ou U' → RowW w bd od D → Calls Tryd.prog 79 #[.slice (some ⟨bu, ou + p, none⟩) (lu - p) (cu - p), .slice (some ⟨bd, od, none⟩) n cd, V qh] w (RetSubMul U' D bu ou p qh w)) := fun w h1 h2 => by
          have h := subMulTo_any bu ou bd od p (lu - p) (cu - p) cd U' D qh w h1 h2 ndu (by rw [← Hn.out, HUL.out, ← Hlu.out]; omega) (by rw [← Hn.out]; omega) (by rw [← Hn.out]; omega) (by omega)
          rw [← Hn.out] at h
          exact h
        go_wp2_with fail
        refine (SM.out _ hRU HRD.out).mono ?_
        rintro e w2 ⟨L', br, rfl, HT0, HS0, hRL, hB2⟩
        rw [← Hn.out] at HT0 HS0
        have HT := Lib.hid HT0
        have HS := Lib.hid HS0
        have hRQ2 := Lib.hid (hRQ.but hB2 (by simp; exact nqu))
        have hRD2 := Lib.hid (HRD.out.but hB2 (by simp; exact ndu))
        have hBB := Lib.hid (hB.trans (hB2.mono (T := [bq, bu]) (fun k _ hk => by simp at hk; simp [hk])))
        have hLl : p + n < L'.length := by rw [HT.out.1, HUL.out, ← Hlu.out]; omega
        have hl2 := hRL.cell (p + n) hLl
        have fl2 := hRL.free (p + n) hLl
        have hRL2 := Lib.hid (hRL.set (p + n) (wd U' (p + n) - br) hLl)
        have hlx := wseg_lt L' p n
        have hux := wseg_lt U' p n
        have hdx := wseg_lt D 0 n
        have HX1 : X = wseg U' p n + 18446744073709551616 ^ n * (wd U' (p + n)).toNat := by rw [HX.out, wseg]
        have HX2 := (Nat.div_add_mod X Dv).symm
        have HX3 := Nat.mod_lt X (show 0 < Dv by rw [HDv.out]; exact Nat.lt_of_le_of_lt (Nat.zero_le _) HR.out)
        have HG1 := HG.out
        rw [← HDv.out] at HS0 hdx
        obtain ⟨q, hq⟩ : ∃ q, q = X / Dv := ⟨_, rfl⟩
        obtain ⟨r, hr⟩ : ∃ r, r = X % Dv := ⟨_, rfl⟩
        rw [← hq] at HX2 HG1
        rw [← hr] at HX2 HX3
        have hQl : p < Q'.length := by rw [HQL.out.1]; omega
        have hq2 := hRQ2.out.cell p hQl
        have fq2 := hRQ2.out.free p hQl
        have d1 : decide (p < lq) = true := decide_eq_true (by omega)
        have d2 : decide (p + n < lu) = true := decide_eq_true (by omega)
        have hsub : ∀ a : W64, a = a := fun _ => rfl
        clear hsub
        rcases (by omega : qh.toNat = q ∨ qh.toNat = q + 1) with h | h
        · obtain ⟨kb, kr⟩ := kn_right _ X _ _ Dv q r qh.toNat br.toNat _ HX1 HX2 HX3 hdx hlx hux HS0 h
          have hnlt : ¬ wd U' (p + n) < br := by rw [BitVec.lt_def]; omega
          have ez : ((p : Int) - 1 + 1).toNat = p := by omega
          have LQ : Hid ((Q'.set p qh).length = Q.length ∧ ∀ i : Nat, (i : Int) ≤ (p : Int) - 1 ∨ m ≤ i → wd (Q'.set p qh) i = wd Q i) := by
            refine ⟨by rw [List.length_set]; exact HQL.out.1, fun i hi => ?_⟩
            rw [wd_set _ _ _ _ hQl, if_neg (by omega)]
            exact HQL.out.2 i (by omega)
          have UL2 : Hid ((L'.set (p + n) (wd U' (p + n) - br)).length = U.length) := by show _ = _; rw [List.length_set, HT.out.1, HUL.out]
          have hseg : wseg (L'.set (p + n) (wd U' (p + n) - br)) p n = r := by
            rw [wseg_congr (l := (L'.set (p + n) (wd U' (p + n) - br))) (m := L') (j := p) (i := p) (fun i hi => by rw [wd_set _ _ _ _ hLl, if_neg (by omega)])]
            exact kr
          have E2 := Lib.hid (kn_step U U' (L'.set (p + n) (wd U' (p + n) - br)) Q' (Q'.set p qh) p m n Dv q r hpm (by rw [HDv.out]; exact HE.out) (by rw [← HX.out]; exact HX2) hseg (fun i hi => by rw [wd_set _ _ _ _ hLl, if_neg (by omega)]; exact HT.out.2 i (by omega)) (by rw [wd_set _ _ _ _ hQl, if_pos rfl]; exact h) (fun i hi => by rw [wd_set _ _ _ _ hQl, if_neg (by omega)]))
          have R2 : Hid (wseg (L'.set (p + n) (wd U' (p + n) - br)) p n < wseg D 0 n) := by show _ < _; rw [hseg, ← HDv.out]; exact HX3
          have RQ2 := Lib.hid ((hRQ2.out.far (c := bu) (p := ou + (p + n)) (V (wd U' (p + n) - br)) nqu).set p qh hQl)
          have RU2 := Lib.hid (hRL2.out.far (c := bq) (p := oq + p) (V qh) (fun e => nqu e.symm))
          have RD2 := Lib.hid ((hRD2.out.far (c := bu) (p := ou + (p + n)) (V (wd U' (p + n) - br)) ndu).far (c := bq) (p := oq + p) (V qh) ndq)
          have BB2 := Lib.hid ((hBB.out.set (b := bu) (.inl (by simp)) (ou + (p + n)) (V (wd U' (p + n) - br))).set (b := bq) (.inl (by simp)) (oq + p) (V qh))
          have HQ1 := Lib.hid hq
          have HR1 := Lib.hid hr
          clear hq hr HX1 HX2 HX3 HS0 hdx hlx hux HG1 kb kr hseg h ez hB2 HT0 hRQ hRL
          go_wp2
          go_roundw
          case rel =>
            have ez : ((p : Int) - 1 + 1).toNat = p := by omega
            refine ⟨_, _, (p : Int) - 1, rfl, by omega, by omega, LQ, UL2, ?_, ?_, RQ2.out, RU2.out, RD2, BB2.out⟩
            · rw [ez]; rw [HDv.out] at E2; exact E2
            · rw [ez]; exact R2
          case measure => simp [intOf] <;> omega
        · obtain ⟨kb, kl⟩ := kn_over _ X _ _ Dv q r qh.toNat br.toNat _ HX1 HX2 HX3 hdx hlx hux HS0 h
          have hlt2 : wd U' (p + n) < br := by rw [BitVec.lt_def]; omega
          have hq1 : (qh - 1#64).toNat = q := by
            rw [BitVec.toNat_sub_of_le (by rw [BitVec.le_def]; simp only [BitVec.toNat_ofNat]; omega)]
            simp only [BitVec.toNat_ofNat]
            omega
          have hS1 : wseg (L'.set (p + n) (wd U' (p + n) - br)) p n = wseg L' p n := wseg_congr (fun i hi => by rw [wd_set _ _ _ _ hLl, if_neg (by omega)])
          have AD : Hid (∀ w, RowW w bu ou (L'.set (p + n) (wd U' (p + n) - br)) → RowW w bd od D → Calls Tryd.prog 80 #[.slice (some ⟨bu, ou + p, none⟩) (lu - p) (cu - p), .slice (some ⟨bd, od, none⟩) n cd] w (RetAddTo (L'.set (p + n) (wd U' (p + n) - br)) D bu ou p w)) := fun w h1 h2 => by
            have h := addTo_any bu ou bd od p (lu - p) (cu - p) cd _ D w h1 h2 ndu (by rw [← Hn.out, List.length_set, HT.out.1, HUL.out, ← Hlu.out]; omega) (by rw [← Hn.out]; omega) (by rw [← Hn.out]; omega) (by omega)
            rw [← Hn.out] at h
            exact h
          have HQ1 := Lib.hid hq
          have HR1 := Lib.hid hr
          have HKL := Lib.hid kl
          have HX3' := Lib.hid HX3
          have HX2' := Lib.hid HX2
          have hdx' := Lib.hid hdx
          have hq1' := Lib.hid hq1
          have hS1' := Lib.hid hS1
          clear hq hr HX1 HX2 HX3 HS0 hdx hlx hux HG1 kb kl h hB2 HT0 hRQ hRL hq1 hS1 hq2 fq2
          go_wp2_with fail
          refine (AD.out _ hRL2.out (hRD2.out.far _ ndu)).mono ?_
          rintro e w4 ⟨L2, cr, rfl, HT20, HS2, hRL3, hB3⟩
          rw [← Hn.out] at HT20 HS2
          have HT2 := Lib.hid HT20
          have hL2 : p + n < L2.length := by rw [HT2.out.1, List.length_set]; exact hLl
          have hl3 := hRL3.cell (p + n) hL2
          have fl3 := hRL3.free (p + n) hL2
          have HX3 := HX3'.out
          have HX2 := HX2'.out
          have hq1 := hq1'.out
          have kb2 := kn_back (18446744073709551616 ^ n) r Dv (wseg L' p n) (wseg L2 p n) cr.toNat HKL.out (by rw [HS2, hS1'.out, HDv.out]) (by cases cr <;> decide) (Nat.lt_trans HX3 hdx'.out) (wseg_lt _ _ _)
          have RQ3 := Lib.hid ((hRQ2.out.far (c := bu) (p := ou + (p + n)) (V (wd U' (p + n) - br)) nqu).but hB3 (by simp; exact nqu))
          have hq3 := RQ3.out.cell p hQl
          have fq3 := RQ3.out.free p hQl
          have ez : ((p : Int) - 1 + 1).toNat = p := by omega
          have LQ : Hid ((Q'.set p (qh - 1#64)).length = Q.length ∧ ∀ i : Nat, (i : Int) ≤ (p : Int) - 1 ∨ m ≤ i → wd (Q'.set p (qh - 1#64)) i = wd Q i) := by
            refine ⟨by rw [List.length_set]; exact HQL.out.1, fun i hi => ?_⟩
            rw [wd_set _ _ _ _ hQl, if_neg (by omega)]
            exact HQL.out.2 i (by omega)
          have UL2 : Hid ((L2.set (p + n) (wd L2 (p + n) + bw cr)).length = U.length) := by show _ = _; rw [List.length_set, HT2.out.1, List.length_set, HT.out.1, HUL.out]
          have hseg : wseg (L2.set (p + n) (wd L2 (p + n) + bw cr)) p n = r := by
            rw [wseg_congr (l := (L2.set (p + n) (wd L2 (p + n) + bw cr))) (m := L2) (j := p) (i := p) (fun i hi => by rw [wd_set _ _ _ _ hL2, if_neg (by omega)])]
            exact kb2.2
          have E2 := Lib.hid (kn_step U U' (L2.set (p + n) (wd L2 (p + n) + bw cr)) Q' (Q'.set p (qh - 1#64)) p m n Dv q r hpm (by rw [HDv.out]; exact HE.out) (by rw [← HX.out]; exact HX2) hseg (fun i hi => by rw [wd_set _ _ _ _ hL2, if_neg (by omega)]; rw [HT2.out.2 i (by omega), wd_set _ _ _ _ hLl, if_neg (by omega)]; exact HT.out.2 i (by omega)) (by rw [wd_set _ _ _ _ hQl, if_pos rfl]; exact hq1) (fun i hi => by rw [wd_set _ _ _ _ hQl, if_neg (by omega)]))
          have R2 : Hid (wseg (L2.set (p + n) (wd L2 (p + n) + bw cr)) p n < wseg D 0 n) := by show _ < _; rw [hseg, ← HDv.out]; exact HX3
          have RU3 := Lib.hid ((hRL3.set (p + n) (wd L2 (p + n) + bw cr) hL2).far (c := bq) (p := oq + p) (V (qh - 1#64)) (fun e => nqu e.symm))
          have RQ4 := Lib.hid ((RQ3.out.far (c := bu) (p := ou + (p + n)) (V (wd L2 (p + n) + bw cr)) nqu).set p (qh - 1#64) hQl)
          have RD4 := Lib.hid ((((hRD2.out.far (c := bu) (p := ou + (p + n)) (V (wd U' (p + n) - br)) ndu).but hB3 (by simp; exact ndu)).far (c := bu) (p := ou + (p + n)) (V (wd L2 (p + n) + bw cr)) ndu).far (c := bq) (p := oq + p) (V (qh - 1#64)) ndq)
          have BB4 := Lib.hid ((((hBB.out.set (b := bu) (.inl (by simp)) (ou + (p + n)) (V (wd U' (p + n) - br))).trans (hB3.mono (T := [bq, bu]) (fun k _ hk => by simp at hk; simp [hk]))).set (b := bu) (.inl (by simp)) (ou + (p + n)) (V (wd L2 (p + n) + bw cr))).set (b := bq) (.inl (by simp)) (oq + p) (V (qh - 1#64)))
          clear HX2 HX3 hq1 kb2 hseg ez hB3 HT20 HS2 hRL3
          go_wp2
          go_roundw
          case rel =>
            have ez : ((p : Int) - 1 + 1).toNat = p := by omega
            refine ⟨_, _, (p : Int) - 1, rfl, by omega, by omega, LQ, UL2, ?_, ?_, RQ4.out, RU3.out, RD4, BB4.out⟩
            · rw [ez]; rw [HDv.out] at E2; exact E2
            · rw [ez]; exact R2
          case measure => simp [intOf] <;> omega
    · obtain rfl : z = -1 := by omega
      have h1 := HE.out
      have h2 := HR.out
      rw [show ((-1 : Int) + 1).toNat = 0 by omega] at h1 h2
      have H1 := Lib.hid h1
      have H2 := Lib.hid h2
      clear h1 h2 HE HR
      go_wp2
      go_end0
      refine ⟨Q', U', rfl, ⟨HQL.out.1, fun i hi => HQL.out.2 i (by omega)⟩, HUL.out, ?_, H2.out, hRQ, hRU, hB⟩
      rw [H1.out, Nat.pow_zero, Nat.one_mul, Nat.sub_zero, Nat.zero_add]
end Go.Proofs.YtbgmeppidedfbaaDoor
