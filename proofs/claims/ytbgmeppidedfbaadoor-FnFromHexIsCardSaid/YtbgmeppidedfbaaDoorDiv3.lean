/-
  Contracts of uint256's subMulTo and addTo over rows of words.
-/
import Derived.Test.YtbgmeppidedfbaaDoorDiv1
namespace Go.Proofs.YtbgmeppidedfbaaDoor
set_option maxRecDepth 20000
open Go.RowKit
set_option linter.unusedVariables false
set_option linter.unusedSimpArgs false
set_option maxRecDepth 20000
theorem sm_step (S S0 Y P x t y m br br' : Nat) (E : S + Y * m = S0 + P * br) (W : x + br' * 18446744073709551616 = t + y * m + br) : S + P * t + (Y + P * y) * m = S0 + P * x + P * 18446744073709551616 * br' := by
  have h : P * (x + br' * 18446744073709551616) = P * (t + y * m + br) := by rw [W]
  have e1 : P * (x + br' * 18446744073709551616) = P * x + P * 18446744073709551616 * br' := by grind
  have e2 : P * (t + y * m + br) = P * t + P * (y * m) + P * br := by grind
  have e3 : (Y + P * y) * m = Y * m + P * (y * m) := by grind
  rw [e1, e2] at h
  rw [e3]
  omega
theorem sm_round (L L' Y : List W64) (j k : Nat) (m br br' t : W64) (hk : j + k < L'.length) (hsame : ∀ i, j + k ≤ i → wd L' i = wd L i) (E : wseg L' j k + wseg Y 0 k * m.toNat = wseg L j k + 18446744073709551616 ^ k * br.toNat)
    (W : (wd L' (j + k)).toNat + br'.toNat * 18446744073709551616 = t.toNat + (wd Y k).toNat * m.toNat + br.toNat) :
    wseg (L'.set (j + k) t) j (k + 1) + wseg Y 0 (k + 1) * m.toNat = wseg L j (k + 1) + 18446744073709551616 ^ (k + 1) * br'.toNat := by
  have h1 : wseg (L'.set (j + k) t) j k = wseg L' j k := wseg_congr (fun i hi => by rw [wd_set _ _ _ _ hk, if_neg (by omega)])
  rw [wseg, wseg, wseg, h1, wd_set _ _ _ _ hk, if_pos rfl, Nat.zero_add, Nat.pow_succ, ← hsame (j + k) (Nat.le_refl _)]
  exact sm_step _ _ _ _ _ _ _ _ _ _ E W
theorem ad_round (L L' Y : List W64) (j k : Nat) (c c' : Bool) (t : W64) (hk : j + k < L'.length) (hsame : ∀ i, j + k ≤ i → wd L' i = wd L i) (E : wseg L' j k + 18446744073709551616 ^ k * c.toNat = wseg L j k + wseg Y 0 k)
    (W : (wd L' (j + k)).toNat + (wd Y k).toNat + c.toNat = t.toNat + 18446744073709551616 * c'.toNat) :
    wseg (L'.set (j + k) t) j (k + 1) + 18446744073709551616 ^ (k + 1) * c'.toNat = wseg L j (k + 1) + wseg Y 0 (k + 1) := by
  have h1 : wseg (L'.set (j + k) t) j k = wseg L' j k := wseg_congr (fun i hi => by rw [wd_set _ _ _ _ hk, if_neg (by omega)])
  rw [wseg, wseg, wseg, h1, wd_set _ _ _ _ hk, if_pos rfl, Nat.zero_add, Nat.pow_succ, ← hsame (j + k) (Nat.le_refl _)]
  generalize 18446744073709551616 ^ k = P at *
  have h : P * ((wd L' (j + k)).toNat + (wd Y k).toNat + c.toNat) = P * (t.toNat + 18446744073709551616 * c'.toNat) := by rw [W]
  have e1 : P * ((wd L' (j + k)).toNat + (wd Y k).toNat + c.toNat) = P * (wd L' (j + k)).toNat + P * (wd Y k).toNat + P * c.toNat := by grind
  have e2 : P * (t.toNat + 18446744073709551616 * c'.toNat) = P * t.toNat + P * 18446744073709551616 * c'.toNat := by grind
  rw [e1, e2] at h
  omega
/-- A row of which n words from j on have turned. -/
def Turned (L L' : List W64) (j n : Nat) : Prop := L'.length = L.length ∧ ∀ i, i < j ∨ j + n ≤ i → wd L' i = wd L i
theorem Turned.refl (L : List W64) (j n : Nat) : Turned L L j n := ⟨rfl, fun _ _ => rfl⟩
theorem Turned.set {L L' : List W64} {j k : Nat} (h : Turned L L' j k) (t : W64) (hk : j + k < L.length) : Turned L (L'.set (j + k) t) j (k + 1) :=
  ⟨by rw [List.length_set, h.1], fun i hi => by rw [wd_set _ _ _ _ (by rw [h.1]; exact hk), if_neg (by omega)]; exact h.2 i (by omega)⟩
def RetSubMul (L Y : List W64) (b o j : Nat) (m : W64) (w : World) (e : Ending) (w' : World) : Prop :=
  ∃ (L' : List W64) (br : W64), e = .returned (V br) ∧ Turned L L' j Y.length ∧ wseg L' j Y.length + wseg Y 0 Y.length * m.toNat = wseg L j Y.length + 18446744073709551616 ^ Y.length * br.toNat ∧ RowW w' b o L' ∧ But [b] w w'
set_option maxHeartbeats 2000000 in
theorem subMulTo_any (b o c p j lx cx cy : Nat) (L Y : List W64) (m : W64) (w : World) (hL : RowW w b o L) (hY : RowW w c p Y) (hne : c ≠ b) (hj : j + Y.length ≤ L.length) (hlx : Y.length ≤ lx) (hy : 0 < Y.length) (hbig : lx ≤ 1000000) :
    Calls Tryd.prog 79 #[.slice (some ⟨b, o + j, none⟩) lx cx, .slice (some ⟨c, p, none⟩) Y.length cy, V m] w (RetSubMul L Y b o j m w) := by
  have HL := Lib.hid hL
  have HY := Lib.hid hY
  obtain ⟨n, hn⟩ : ∃ n, n = Y.length := ⟨_, rfl⟩
  have hc0 := hL.cell (j + (n - 1)) (by omega)
  rw [← Nat.add_assoc] at hc0
  rw [← hn] at hj hlx hy
  have K : ∀ e w', (∃ (L' : List W64) (br : W64), e = Ending.returned (V br) ∧ Turned L L' j n ∧ wseg L' j n + wseg Y 0 n * m.toNat = wseg L j n + 18446744073709551616 ^ n * br.toNat ∧ RowW w' b o L' ∧ But [b] w w') → RetSubMul L Y b o j m w e w' := by
    intro e w' h
    rw [hn] at h
    exact h
  have HK := Lib.hid K
  rw [← hn]
  have Hn := Lib.hid hn
  clear hL hY hn K
  have g1 : (0 : Int) ≤ (n : Int) - 1 := by omega
  have g2 : ((n : Int) - 1).toNat = n - 1 := by omega
  have g3 : IntKind.i64.wrap ((n : Int) - 1) = (n : Int) - 1 := IntWalk.i64_in _ (by omega)
  go_enter Tryd.func79, Tryd.ntmps79
  go_wp2
  go_loopw [7, 8] (fun u t wr => ∃ (L' : List W64) (br : W64) (k : Nat), u = V br ∧ t = .int .i64 (k : Int) ∧ k ≤ n ∧ Hid (Turned L L' j k) ∧ Hid (wseg L' j k + wseg Y 0 k * m.toNat = wseg L j k + 18446744073709551616 ^ k * br.toNat) ∧ RowW wr b o L' ∧ Hid (RowW wr c p Y) ∧ But [b] w wr) (fun _ t _ => 1000002 - (intOf t).toNat)
  case atStart => exact ⟨L, 0#64, 0, rfl, rfl, by omega, Turned.refl _ _ _, (by show _ = _; simp [wseg]), HL.out, HY, But.refl _ _⟩
  case round =>
    obtain ⟨L', br, k, rfl, rfl, hk, HT, HE, hR, HY2, hB⟩ := hrel
    obtain ⟨wo, rfl⟩ : ∃ wo : World, wo = wr := ⟨_, rfl⟩
    by_cases hlt : k < n
    · have hll : j + k < L'.length := by rw [HT.out.1]; omega
      have hcx := hR.cell (j + k) hll
      have hfx := hR.free (j + k) hll
      rw [← Nat.add_assoc] at hcx hfx
      have hcy := HY2.out.cell k (by rw [← Hn.out]; exact hlt)
      have T2 := Lib.hid (HT.out.set (subD (subD (wd L' (j + k)) br false) (mulL (wd Y k) m) false) (by omega))
      have E2 := Lib.hid (sm_round L L' Y j k m br _ _ hll (fun i hi => HT.out.2 i (by omega)) HE.out (submul_word (wd L' (j + k)) (wd Y k) m br))
      have R2 := hR.set (j + k) (subD (subD (wd L' (j + k)) br false) (mulL (wd Y k) m) false) hll
      rw [← Nat.add_assoc] at R2
      have HR2 := Lib.hid R2
      have hd1 : decide (k < n) = true := decide_eq_true hlt
      have hd2 : decide (k < lx) = true := decide_eq_true (by omega)
      clear R2 hR
      go_wp2_with (go_at_call 78; refine (mul64_any _ _ _).mono ?_; rintro e w' ⟨rfl, rfl⟩)
      go_roundw
      case rel => exact ⟨_, _, k + 1, rfl, by go_num, by omega, T2, E2, HR2.out, HY2.out.far _ hne, hB.set (.inl (by simp)) _ _⟩
      case measure => simp [intOf] <;> omega
    · obtain rfl : k = n := by omega
      go_wp2
      go_ret
      exact HK.out _ _ ⟨L', br, rfl, HT.out, HE.out, hR, hB⟩
def RetAddTo (L Y : List W64) (b o j : Nat) (w : World) (e : Ending) (w' : World) : Prop :=
  ∃ (L' : List W64) (cr : Bool), e = .returned (V (bw cr)) ∧ Turned L L' j Y.length ∧ wseg L' j Y.length + 18446744073709551616 ^ Y.length * cr.toNat = wseg L j Y.length + wseg Y 0 Y.length ∧ RowW w' b o L' ∧ But [b] w w'
set_option maxHeartbeats 2000000 in
theorem addTo_any (b o c p j lx cx cy : Nat) (L Y : List W64) (w : World) (hL : RowW w b o L) (hY : RowW w c p Y) (hne : c ≠ b) (hj : j + Y.length ≤ L.length) (hlx : Y.length ≤ lx) (hy : 0 < Y.length) (hbig : lx ≤ 1000000) :
    Calls Tryd.prog 80 #[.slice (some ⟨b, o + j, none⟩) lx cx, .slice (some ⟨c, p, none⟩) Y.length cy] w (RetAddTo L Y b o j w) := by
  have HL := Lib.hid hL
  have HY := Lib.hid hY
  obtain ⟨n, hn⟩ : ∃ n, n = Y.length := ⟨_, rfl⟩
  have hc0 := hL.cell (j + (n - 1)) (by omega)
  rw [← Nat.add_assoc] at hc0
  rw [← hn] at hj hlx hy
  have K : ∀ e w', (∃ (L' : List W64) (cr : Bool), e = Ending.returned (V (bw cr)) ∧ Turned L L' j n ∧ wseg L' j n + 18446744073709551616 ^ n * cr.toNat = wseg L j n + wseg Y 0 n ∧ RowW w' b o L' ∧ But [b] w w') → RetAddTo L Y b o j w e w' := by
    intro e w' h
    rw [hn] at h
    exact h
  have HK := Lib.hid K
  rw [← hn]
  have Hn := Lib.hid hn
  clear hL hY hn K
  have g1 : (0 : Int) ≤ (n : Int) - 1 := by omega
  have g2 : ((n : Int) - 1).toNat = n - 1 := by omega
  have g3 : IntKind.i64.wrap ((n : Int) - 1) = (n : Int) - 1 := IntWalk.i64_in _ (by omega)
  go_enter Tryd.func80, Tryd.ntmps80
  go_wp2
  go_loopw [5, 6] (fun u t wr => ∃ (L' : List W64) (cr : Bool) (k : Nat), u = V (bw cr) ∧ t = .int .i64 (k : Int) ∧ k ≤ n ∧ Hid (Turned L L' j k) ∧ Hid (wseg L' j k + 18446744073709551616 ^ k * cr.toNat = wseg L j k + wseg Y 0 k) ∧ RowW wr b o L' ∧ Hid (RowW wr c p Y) ∧ But [b] w wr) (fun _ t _ => 1000002 - (intOf t).toNat)
  case atStart => exact ⟨L, false, 0, rfl, rfl, by omega, Turned.refl _ _ _, (by show _ = _; simp [wseg]), HL.out, HY, But.refl _ _⟩
  case round =>
    obtain ⟨L', cr, k, rfl, rfl, hk, HT, HE, hR, HY2, hB⟩ := hrel
    obtain ⟨wo, rfl⟩ : ∃ wo : World, wo = wr := ⟨_, rfl⟩
    by_cases hlt : k < n
    · have hll : j + k < L'.length := by rw [HT.out.1]; omega
      have hcx := hR.cell (j + k) hll
      have hfx := hR.free (j + k) hll
      rw [← Nat.add_assoc] at hcx hfx
      have hcy := HY2.out.cell k (by rw [← Hn.out]; exact hlt)
      have T2 := Lib.hid (HT.out.set (addS (wd L' (j + k)) (wd Y k) cr) (by omega))
      have E2 := Lib.hid (ad_round L L' Y j k cr _ _ hll (fun i hi => HT.out.2 i (by omega)) HE.out (add_spec' (wd L' (j + k)) (wd Y k) cr))
      have R2 := hR.set (j + k) (addS (wd L' (j + k)) (wd Y k) cr) hll
      rw [← Nat.add_assoc] at R2
      have HR2 := Lib.hid R2
      have hd1 : decide (k < n) = true := decide_eq_true hlt
      have hd2 : decide (k < lx) = true := decide_eq_true (by omega)
      clear R2 hR
      go_wp2
      go_region
      go_wp2
      go_roundw
      case rel => exact ⟨_, _, k + 1, rfl, by go_num, by omega, T2, E2, HR2.out.drew, (HY2.out.far _ hne).drew, (hB.set (.inl (by simp)) _ _).drew⟩
      case measure => simp [intOf] <;> omega
    · obtain rfl : k = n := by omega
      go_wp2
      go_ret
      exact HK.out _ _ ⟨L', cr, rfl, HT.out, HE.out, hR, hB⟩
end Go.Proofs.YtbgmeppidedfbaaDoor
