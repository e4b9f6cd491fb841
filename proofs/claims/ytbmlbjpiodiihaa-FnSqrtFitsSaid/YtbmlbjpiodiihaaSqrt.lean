/-
  The contract of uint256's Sqrt, whatever places receiver and operand are.
-/
import Derived.Test.YtbmlbjpiodiihaaSetw
import Derived.Test.YtbmlbjpiodiihaaBits
import Derived.Test.YtbmlbjpiodiihaaShift
import Derived.Test.YtbmlbjpiodiihaaShiftLaw
import Derived.Test.YtbmlbjpiodiihaaSqrtMath
import Derived.Deep.DeepCutAuto
import Derived.Deep.CutBlock
import Derived.Outline
namespace Go.Proofs.Ytbmlbjpiodiihaa
set_option maxRecDepth 20000
open Go.RowKit
set_option linter.unusedVariables false
set_option linter.unusedSectionVars false
set_option linter.unusedSimpArgs false
set_option maxRecDepth 20000
/-- Half a word; its lowest bit at the top. -/
def hlfW (v : W64) : W64 := shrW v 1#64
def topW (v : W64) : W64 := shlW v 63#64
theorem hlfW_toNat (v : W64) : (hlfW v).toNat = v.toNat / 2 := by unfold hlfW shrW; rw [BitVec.ushiftRight_eq', BitVec.toNat_ushiftRight, Nat.shiftRight_eq_div_pow]; rfl
theorem topW_toNat (v : W64) : (topW v).toNat = 2 ^ 63 * (v.toNat % 2) := by
  unfold topW shlW
  rw [BitVec.shiftLeft_eq', BitVec.toNat_shiftLeft, Nat.shiftLeft_eq]
  have : (63#64 : BitVec 64).toNat = 63 := rfl
  rw [this]
  omega
theorem sq_shr1 (x : W64) (k : IntKind) : Op.shift .shr .u64 (U x) k 1 = pure (.int .u64 (U (hlfW x))) := u64_shrU x 1#64 k
theorem sq_shl63 (x : W64) (k : IntKind) : Op.shift .shl .u64 (U x) k 63 = pure (.int .u64 (U (topW x))) := u64_shlU x 63#64 k
attribute [local go_sem ↓] sq_shr1 sq_shl63
theorem orTop (v u : W64) : (hlfW v ||| topW u).toNat = v.toNat / 2 + 2 ^ 63 * (u.toNat % 2) := by
  rw [BitVec.toNat_or, hlfW_toNat, topW_toNat, Nat.or_comm, ← Nat.two_pow_add_eq_or_of_lt (by have := v.isLt; omega)]
  omega
/-- Half a number. -/
def N4.half (z : N4) : N4 := ⟨hlfW z.a ||| topW z.b, hlfW z.b ||| topW z.c, hlfW z.c ||| topW z.d, hlfW z.d⟩
theorem half_toNat (z : N4) : z.half.toNat = z.toNat / 2 := by
  unfold N4.half N4.toNat
  dsimp only
  rw [orTop, orTop, orTop, hlfW_toNat]
  have := z.a.isLt; have := z.b.isLt; have := z.c.isLt; have := z.d.isLt
  omega
/-- What holds in the loop: the operand, and two new numbers. -/
structure SqW (c p g h : Nat) (x s t : N4) (w W : World) : Prop where
  ax : At4 W c p x
  fx : Free4 W c p
  a1 : At4 W g 0 s
  f1 : Free4 W g 0
  a2 : At4 W h 0 t
  f2 : Free4 W h 0
  bel : Below w.heap.size w W
section
variable {c p g h : Nat} {x s t : N4} {w W : World} (hc : c < w.heap.size) (hg : w.heap.size ≤ g) (hh : w.heap.size ≤ h) (hgh : g ≠ h)
include hc hg hh hgh
theorem SqW.setT (k : SqW c p g h x s t w W) (i : Nat) (hi : i < 4) (v : W64) : SqW c p g h x s (setw t i v) w ((W.setCell ⟨h, i, none⟩ (V v)).drew) :=
  ⟨at4_keep k.ax _ _ _ (by omega), free4_set k.fx _ _ _, at4_keep k.a1 _ _ _ hgh, free4_set k.f1 _ _ _, at4_set k.a2 i hi v, free4_set k.f2 _ _ _, bel_set' k.bel _ _ _ hh⟩
theorem SqW.putS (k : SqW c p g h x s t w W) (z : N4) (n : Nat) : SqW c p g h x z t w ((put4 W g 0 z).drewN n) :=
  ⟨(put4_far k.ax (fun e => by omega)).drewN n, (k.fx.put z).drewN n, (put4_at _ _ _ _ _ k.a1).drewN n, (k.f1.put z).drewN n, (put4_far k.a2 (fun e => by omega)).drewN n, (k.f2.put z).drewN n, bel_drewN (put4_bel' k.bel hg) n⟩
theorem SqW.putT (k : SqW c p g h x s t w W) (z : N4) (n : Nat) : SqW c p g h x s z w ((put4 W h 0 z).drewN n) :=
  ⟨(put4_far k.ax (fun e => by omega)).drewN n, (k.fx.put z).drewN n, (put4_far k.a1 (fun e => by omega)).drewN n, (k.f1.put z).drewN n, (put4_at _ _ _ _ _ k.a2).drewN n, (k.f2.put z).drewN n, bel_drewN (put4_bel' k.bel hh) n⟩
theorem SqW.but (k : SqW c p g h x s t w W) {W' : World} {z : N4} (hb : But [h] W W') (hz : At4 W' h 0 z) (fz : Free4 W' h 0) : SqW c p g h x s z w W' := by
  have l1 := k.ax.lt
  have l2 := k.a1.lt
  exact ⟨k.ax.but hb (by simp; omega), k.fx.but l1 hb (by simp; omega), k.a1.but hb (by simp; omega), k.f1.but l2 hb (by simp; omega), hz, fz, hb.bel k.bel (by simp; omega)⟩
end
theorem SqW.drewN {c p g h : Nat} {x s t : N4} {w W : World} (k : SqW c p g h x s t w W) (n : Nat) : SqW c p g h x s t w (W.drewN n) :=
  ⟨k.ax.drewN n, k.fx.drewN n, k.a1.drewN n, k.f1.drewN n, k.a2.drewN n, k.f2.drewN n, bel_drewN k.bel n⟩
/-- The quotient alone, its place still open to stores. -/
theorem udiv4f (bq c p d q : Nat) (x y : N4) (w : World) (hQ : RowW w bq 0 (List.replicate 4 0#64)) (hx : At4 w c p x) (fx : Free4 w c p) (hy : At4 w d q y) (n1 : bq ≠ c) (n2 : bq ≠ d) (hx0 : 0 < x.toNat) (hy0 : 0 < y.toNat) :
    Calls Try.prog 80 #[.slice (some ⟨bq, 0, none⟩) 4 4, .slice (some ⟨c, p, none⟩) 4 4, .pointer (some ⟨d, q, none⟩), .pointer none] w fun e w' => e = .returned (.tuple #[]) ∧ At4 w' bq 0 (ofN (x.toNat / y.toNat)) ∧ Free4 w' bq 0 ∧ But [bq] w w' := by
  have h := udivrem_any bq 0 4 4 c p 4 4 d q none x.l4 y w hQ (RowW.of4 hx fx) hy rfl (by omega) (by omega) (by omega) (by omega) (by omega) n1 n2 (fun b o e => by cases e) hy0 (by rw [N4.wseg4]; exact hx0)
  refine h.mono ?_
  rintro e w' ⟨Q', he, h1, h2, h3, h4, h5⟩
  rw [N4.wseg4] at h2
  refine ⟨he, ?_, h3.free4 (by omega), h5⟩
  rw [← n4_ofN h2]
  exact h3.at4 (by omega)
theorem row_zero {W : World} {h : Nat} (ha : At4 W h 0 ⟨0#64, 0#64, 0#64, 0#64⟩) (hf : Free4 W h 0) : RowW W h 0 (List.replicate 4 0#64) := RowW.of4 ha hf
/-- The number that lies at a place (for the measure of a loop). -/
def cellN (W : World) (g i : Nat) : Nat := match W.cell? ⟨g, i, none⟩ with
  | some (.int _ n) => n.toNat
  | _ => 0
def numAt (W : World) (g : Nat) : Nat := cellN W g 0 + 2 ^ 64 * cellN W g 1 + 2 ^ 128 * cellN W g 2 + 2 ^ 192 * cellN W g 3
theorem cellN_eq {W : World} {g i : Nat} {v : W64} (h : W.cell? ⟨g, i, none⟩ = some (V v)) : cellN W g i = v.toNat := by
  unfold cellN
  rw [h]
  show (U v).toNat = _
  unfold U
  omega
theorem numAt_eq {W : World} {g : Nat} {s : N4} (h : At4 W g 0 s) : numAt W g = s.toNat := by
  obtain ⟨h0, h1, h2, h3⟩ := h
  rw [Nat.zero_add] at h1 h2 h3
  unfold numAt N4.toNat
  rw [cellN_eq h0, cellN_eq h1, cellN_eq h2, cellN_eq h3]
/-- The relation of the great loop. -/
def SqR (X : Nat) (s t : N4) : Prop := rootN X ≤ s.toNat ∧ s.toNat ≤ 2 ^ 129 ∧ t.toNat = X / s.toNat
theorem SqR.sum {X : Nat} {s t : N4} (h : SqR X s t) (hX : 0 < X) (hX2 : X < 2 ^ 256) : (t.add s).half.toNat = (s.toNat + X / s.toNat) / 2 := by
  obtain ⟨h1, h2, h3⟩ := h
  have hr := rootN_pos hX
  have hq := newton_quo hr h1
  have hs := first_above hX2
  rw [half_toNat, add_toNat, h3, Nat.mod_eq_of_lt (by omega)]
  omega
theorem SqR.stop {X : Nat} {s t : N4} (h : SqR X s t) (hX : 0 < X) (hX2 : X < 2 ^ 256) (hl : (t.add s).half.ltc s = false) : s = ofN (rootN X) := by
  have hsum := h.sum hX hX2
  rw [ltc_eq, decide_eq_false_iff_not, hsum] at hl
  apply eq_ofN
  rw [newton_end h.1 (by omega), Nat.mod_eq_of_lt]
  rw [← newton_end h.1 (by omega)]
  exact toNat_lt s
theorem SqR.next {X : Nat} {s t : N4} (h : SqR X s t) (hX : 0 < X) (hX2 : X < 2 ^ 256) (hl : (t.add s).half.ltc s = true) :
    SqR X (t.add s).half (ofN (X / (t.add s).half.toNat)) ∧ (t.add s).half.toNat < s.toNat ∧ 0 < (t.add s).half.toNat := by
  have hsum := h.sum hX hX2
  rw [ltc_eq, decide_eq_true_eq] at hl
  obtain ⟨h1, h2, h3⟩ := h
  have hr := rootN_pos hX
  have ha := newton_above (x := X) (z := s.toNat) (by omega)
  rw [← hsum] at ha
  refine ⟨⟨ha, by omega, ?_⟩, hl, by omega⟩
  rw [ofN_toNat, Nat.mod_eq_of_lt (Nat.lt_of_le_of_lt (Nat.div_le_self _ _) hX2)]
/-- The estimate of the first line. -/
theorem SqR.start {x : N4} (hx : 0 < x.toNat) (k : Nat) (hk : k = (x.bits + 1) / 2) : SqR x.toNat ((⟨1#64, 0#64, 0#64, 0#64⟩ : N4).lsh (BitVec.ofNat 64 k)) (x.rsh (BitVec.ofNat 64 k)) := by
  obtain ⟨b1, b2, b3⟩ := bits_spec x
  have hk2 : k ≤ 128 := by omega
  have hn : (BitVec.ofNat 64 k).toNat = k := by rw [BitVec.toNat_ofNat]; omega
  have h1 : ((⟨1#64, 0#64, 0#64, 0#64⟩ : N4).lsh (BitVec.ofNat 64 k)).toNat = 2 ^ k := by
    rw [lsh_toNat, hn]
    have e : (⟨1#64, 0#64, 0#64, 0#64⟩ : N4).toNat = 1 := rfl
    rw [e, Nat.one_mul]
    exact Nat.mod_eq_of_lt (Nat.pow_lt_pow_right (by decide) (by omega))
  refine ⟨?_, ?_, ?_⟩
  · rw [h1, hk]
    exact first_above b1
  · rw [h1]
    exact Nat.pow_le_pow_right (by decide) (by omega)
  · rw [h1, rsh_toNat, hn]
set_option maxHeartbeats 4000000 in
/-- A number of more than 64 bits. -/
theorem sqrt_great (b o c p : Nat) (z x : N4) (w : World) (hz : At4 w b o z) (fz : Free4 w b o) (hx : At4 w c p x) (fx : Free4 w c p) (hu : x.isU = false) :
    Calls Try.prog 62 #[.pointer (some ⟨b, o, none⟩), .pointer (some ⟨c, p, none⟩)] w (RetLeft b o (ofN (rootN x.toNat)) w) := by
  have hb := hz.lt
  have hc := hx.lt
  have hX : 0 < x.toNat := by
    rcases Nat.eq_zero_or_pos x.toNat with h | h
    · exfalso
      have h2 : x = ⟨0#64, 0#64, 0#64, 0#64⟩ := toNat_inj (by rw [h]; rfl)
      rw [h2] at hu
      cases hu
    · exact h
  have HX := Lib.hid hX
  have HX2 := Lib.hid (toNat_lt x)
  have Hz := Lib.hid hz
  have Hf := Lib.hid fz
  have Hx := Lib.hid hx
  have Hfx := Lib.hid fx
  obtain ⟨n, hn⟩ : ∃ n, n = x.bits := ⟨_, rfl⟩
  have hn2 : n ≤ 256 := by rw [hn]; exact (bits_spec x).2.2
  obtain ⟨kk, hkk⟩ : ∃ kk, kk = BitVec.ofNat 64 ((n + 1) / 2) := ⟨_, rfl⟩
  have HR : Hid (SqR x.toNat ((⟨1#64, 0#64, 0#64, 0#64⟩ : N4).lsh kk) (x.rsh kk)) := by rw [hkk]; exact SqR.start hX ((n + 1) / 2) (by rw [hn])
  have BL : Hid (∀ W, At4 W c p x → Calls Try.prog 99 #[.pointer (some ⟨c, p, none⟩)] W fun e w' => e = .returned (.int .i64 (n : Nat)) ∧ w' = W) := fun W h => by rw [hn]; exact bitLen_any c p x W h
  have HU : Hid (((n : Int) + 1) / 2 = U kk) := by
    show _ = _
    rw [hkk, U_ofNat _ (by omega)]
    omega
  clear hz fz hx fx hX hn hkk
  go_enter Try.func62, Try.ntmps62
  go_wp2_with fail
  refine (isUint64_any c p x _ Hx.out).mono ?_
  rintro e w1 ⟨rfl, n1, rfl⟩
  go_wp2_with fail
  refine (newInt_any 1#64 _).mono ?_
  rintro e w2 ⟨g, rfl, m2⟩
  go_wp2_with fail
  refine (newInt_any 0#64 _).mono ?_
  rintro e w3 ⟨h, rfl, m3⟩
  have gg : w.heap.size ≤ g := by have := m2.ge; simpa using this
  have gh : w.heap.size ≤ h := by have := m3.ge; have := m2.bel.size; simp at this; omega
  have ne : g ≠ h := by have := m3.ge; have := m2.at4.lt; omega
  have S0 : Hid (SqW c p g h x ⟨1#64, 0#64, 0#64, 0#64⟩ ⟨0#64, 0#64, 0#64, 0#64⟩ w w3) := by
    have hx2 := (Hx.out.drewN n1).bel m2.bel
    have fx2 := (Hfx.out.drewN n1).bel (by simpa using hc) m2.bel
    exact ⟨hx2.bel m3.bel, fx2.bel hx2.lt m3.bel, m2.at4.bel m3.bel, m2.free.bel m2.at4.lt m3.bel, m3.at4, m3.free, bel_trans (bel_trans (bel_drewN (bel_refl w) n1) m2.bel) m3.bel⟩
  clear m2 m3
  have hU := HU.out
  go_wp2_with fail
  refine (BL.out _ S0.out.ax).mono ?_
  rintro e w4 ⟨rfl, rfl⟩
  go_wp2_with fail
  refine (lsh_any g 0 g 0 _ _ kk _ S0.out.a1 S0.out.f1 S0.out.a1 (Sep.rfl' _ _)).mono ?_
  rintro e w5 ⟨rfl, n5, rfl⟩
  have S1 := Lib.hid (SqW.putS hc gg gh ne S0.out ((⟨1#64, 0#64, 0#64, 0#64⟩ : N4).lsh kk) n5)
  clear S0
  generalize (put4 _ g 0 ((⟨1#64, 0#64, 0#64, 0#64⟩ : N4).lsh kk)).drewN n5 = w5 at S1 ⊢
  go_wp2_with fail
  refine (BL.out _ S1.out.ax).mono ?_
  rintro e w6 ⟨rfl, rfl⟩
  go_wp2_with fail
  refine (rsh_any h 0 c p _ _ kk _ S1.out.a2 S1.out.f2 S1.out.ax (Sep.blocks (by omega))).mono ?_
  rintro e w7 ⟨rfl, n7, rfl⟩
  have S2 := Lib.hid (SqW.putT hc gg gh ne S1.out (x.rsh kk) n7)
  clear S1 hU HU BL
  generalize (put4 _ h 0 (x.rsh kk)).drewN n7 = W at S2 ⊢
  generalize (⟨1#64, 0#64, 0#64, 0#64⟩ : N4).lsh kk = s0 at HR S2 ⊢
  generalize x.rsh kk = t0 at HR S2 ⊢
  go_upto_block 3 with fail
  go_loopw [55] (fun _ wx => ∃ s t, Hid (SqW c p g h x s t w wx) ∧ Hid (SqR x.toNat s t)) (fun _ wx => numAt wx g)
  case atStart => exact ⟨s0, t0, S2, HR⟩
  case round =>
    obtain ⟨s, t, HS, HQ⟩ := hrel
    obtain ⟨wo, rfl⟩ : ∃ wo : World, wo = wr := ⟨_, rfl⟩
    have HM := Lib.hid (numAt_eq HS.out.a1)
    go_wp2_with fail
    refine (add_any h 0 h 0 g 0 _ _ _ _ HS.out.a2 HS.out.f2 HS.out.a2 HS.out.a1 (Sep.rfl' _ _) (Sep.blocks (by omega))).mono ?_
    rintro e w1 ⟨rfl, m1, rfl⟩
    have T0 := Lib.hid (SqW.putT hc gg gh ne HS.out (t.add s) m1)
    clear HS
    obtain ⟨u, hu2⟩ : ∃ u, u = t.add s := ⟨_, rfl⟩
    have K1 : Hid (u.half.ltc s = false → s = ofN (rootN x.toNat)) := by rw [hu2]; exact HQ.out.stop HX.out HX2.out
    have K2 : Hid (u.half.ltc s = true → SqR x.toNat u.half (ofN (x.toNat / u.half.toNat)) ∧ u.half.toNat < s.toNat ∧ 0 < u.half.toNat) := by rw [hu2]; exact HQ.out.next HX.out HX2.out
    rw [← hu2] at T0 ⊢
    clear hu2 HQ
    go_upto_region 16 with fail
    generalize (put4 _ h 0 u).drewN m1 = W0 at T0 ⊢
    have q0 := T0.out.a2.c0
    have r0 := T0.out.a2.c1
    have f0 := T0.out.f2.f0
    simp only [Nat.zero_add] at r0
    go_region
    clear q0 f0 r0
    have T1 : Hid (SqW c p g h x s ⟨(hlfW u.a ||| topW u.b), u.b, u.c, u.d⟩ w ((W0.setCell ⟨h, 0, none⟩ (V (hlfW u.a ||| topW u.b))).drew)) := SqW.setT hc gg gh ne T0.out 0 (by decide) (hlfW u.a ||| topW u.b)
    clear T0
    go_upto_region 17 with fail
    generalize (W0.setCell ⟨h, 0, none⟩ (V (hlfW u.a ||| topW u.b))).drew = W1 at T1 ⊢
    have q1 := T1.out.a2.c1
    have r1 := T1.out.a2.c2
    have f1 := T1.out.f2.f1
    simp only [Nat.zero_add] at q1 f1
    simp only [Nat.zero_add] at r1
    go_region
    clear q1 f1 r1
    have T2 : Hid (SqW c p g h x s ⟨(hlfW u.a ||| topW u.b), (hlfW u.b ||| topW u.c), u.c, u.d⟩ w ((W1.setCell ⟨h, 1, none⟩ (V (hlfW u.b ||| topW u.c))).drew)) := SqW.setT hc gg gh ne T1.out 1 (by decide) (hlfW u.b ||| topW u.c)
    clear T1
    go_upto_region 18 with fail
    generalize (W1.setCell ⟨h, 1, none⟩ (V (hlfW u.b ||| topW u.c))).drew = W2 at T2 ⊢
    have q2 := T2.out.a2.c2
    have r2 := T2.out.a2.c3
    have f2 := T2.out.f2.f2
    simp only [Nat.zero_add] at q2 f2
    simp only [Nat.zero_add] at r2
    go_region
    clear q2 f2 r2
    have T3 : Hid (SqW c p g h x s ⟨(hlfW u.a ||| topW u.b), (hlfW u.b ||| topW u.c), (hlfW u.c ||| topW u.d), u.d⟩ w ((W2.setCell ⟨h, 2, none⟩ (V (hlfW u.c ||| topW u.d))).drew)) := SqW.setT hc gg gh ne T2.out 2 (by decide) (hlfW u.c ||| topW u.d)
    clear T2
    go_upto_region 19 with fail
    generalize (W2.setCell ⟨h, 2, none⟩ (V (hlfW u.c ||| topW u.d))).drew = W3 at T3 ⊢
    have q3 := T3.out.a2.c3
    have f3 := T3.out.f2.f3
    simp only [Nat.zero_add] at q3 f3
    go_region
    clear q3 f3
    have T4 : Hid (SqW c p g h x s ⟨(hlfW u.a ||| topW u.b), (hlfW u.b ||| topW u.c), (hlfW u.c ||| topW u.d), (hlfW u.d)⟩ w ((W3.setCell ⟨h, 3, none⟩ (V (hlfW u.d))).drew)) := SqW.setT hc gg gh ne T3.out 3 (by decide) (hlfW u.d)
    clear T3
    go_upto_region 20 with fail
    generalize (W3.setCell ⟨h, 3, none⟩ (V (hlfW u.d))).drew = W4 at T4 ⊢
    have T5 : Hid (SqW c p g h x s u.half w W4) := T4.out
    clear T4
    cases hl : u.half.ltc s
    · have he := K1.out hl
      clear K1 K2
      go_wp2_with fail
      refine (lt_any h 0 g 0 _ _ _ T5.out.a2 T5.out.a1).mono ?_
      rintro e w5 ⟨rfl, m5, rfl⟩
      have T6 := Lib.hid (T5.out.drewN m5)
      clear T5
      have HZ := Lib.hid (Hz.out.bel T6.out.bel)
      have HF := Lib.hid (Hf.out.bel hb T6.out.bel)
      have HE := Lib.hid he
      clear he
      go_wp2_with fail
      refine (set_any b o g 0 z s _ HZ.out HF.out T6.out.a1 (Sep.blocks (by omega))).mono ?_
      rintro e w7 ⟨rfl, m7, rfl⟩
      go_wp2
      go_ret
      rw [← HE.out]
      exact ⟨rfl, Left.of_alloc T6.out.bel hb⟩
    · obtain ⟨N1, N2, N3⟩ := K2.out hl
      have HN1 := Lib.hid N1
      have HN2 := Lib.hid N2
      have HN3 := Lib.hid N3
      clear K1 K2 N1 N2 N3
      go_wp2_with fail
      refine (lt_any h 0 g 0 _ _ _ T5.out.a2 T5.out.a1).mono ?_
      rintro e w5 ⟨rfl, m5, rfl⟩
      have T6 := Lib.hid (T5.out.drewN m5)
      clear T5
      generalize u.half = v at *
      go_wp2_with fail
      refine (set_any g 0 h 0 _ _ _ T6.out.a1 T6.out.f1 T6.out.a2 (Sep.blocks (by omega))).mono ?_
      rintro e w7 ⟨rfl, m7, rfl⟩
      have T7 := Lib.hid (SqW.putS hc gg gh ne T6.out v m7)
      clear T6
      go_wp2_with fail
      refine (clear_any h 0 _ _ T7.out.a2 T7.out.f2).mono ?_
      rintro e w8 ⟨rfl, m8, rfl⟩
      have T8 := Lib.hid (SqW.putT hc gg gh ne T7.out ⟨0#64, 0#64, 0#64, 0#64⟩ m8)
      clear T7
      go_upto_region 24 with fail
      generalize (put4 _ h 0 ⟨0#64, 0#64, 0#64, 0#64⟩).drewN m8 = W9 at T8 ⊢
      have hsl := fun b o w => sliceAll4 b o w
      have UD : Hid (∀ j, Calls Try.prog 80 #[.slice (some ⟨h, 0, none⟩) 4 4, .slice (some ⟨c, p, none⟩) 4 4, .pointer (some ⟨g, 0, none⟩), .pointer none] (W9.drewN j) fun e w' => e = .returned (.tuple #[]) ∧ SqW c p g h x v (ofN (x.toNat / v.toNat)) w w') := fun j => by
        have k := T8.out.drewN j
        refine (udiv4f h c p g 0 x v _ (row_zero k.a2 k.f2) k.ax k.fx k.a1 (by omega) (by omega) HX.out HN3.out).mono ?_
        rintro e w' ⟨h1, h2, h3, h4⟩
        exact ⟨h1, SqW.but hc gg gh ne k h4 h2 h3⟩
      go_region_held3 (fun w' => True) (trivial) ((go_at_call 80; refine (UD.out 1).mono ?_; rintro e w10 ⟨rfl, hS⟩))
      have T10 := Lib.hid hS
      have HM2 := Lib.hid (numAt_eq hS.a1)
      clear hS UD hsl T8
      go_wp2
      go_roundw
      case rel => exact ⟨v, _, T10, HN1⟩
      case measure =>
        rw [HM2.out, HM.out]
        exact HN2.out
/-- The first estimate, as a word. -/
def pwW (m : Nat) : W64 := BitVec.ofNat 64 (2 ^ m)
theorem pwW_toNat (m : Nat) (h : m < 64) : (pwW m).toNat = 2 ^ m := by
  unfold pwW
  rw [BitVec.toNat_ofNat]
  exact Nat.mod_eq_of_lt (Nat.pow_lt_pow_right (by decide) h)
theorem sq_first (m : Nat) (h : m < 64) : IntKind.u64.wrap (2 ^ m) = U (pwW m) := by
  have e : (2 : Int) ^ m = ((2 ^ m : Nat) : Int) := by norm_cast
  have h2 : 2 ^ m < 2 ^ 64 := Nat.pow_lt_pow_right (by decide) h
  rw [e, IntKind.wrap_u64]
  unfold U
  rw [pwW_toNat m h]
  generalize 2 ^ m = P at h2
  omega
/-- The relation of the small loop. -/
def SqS (X : Nat) (z : W64) : Prop := rootN X ≤ z.toNat ∧ z.toNat ≤ 2 ^ 33
theorem SqS.sum {X z : W64} (h : SqS X.toNat z) (hX : 0 < X.toNat) : (hlfW (z + quoW X z)).toNat = (z.toNat + X.toNat / z.toNat) / 2 := by
  obtain ⟨h1, h2⟩ := h
  have hr := rootN_pos hX
  have hq := newton_quo hr h1
  have hs := first_above (k := 64) X.isLt
  rw [hlfW_toNat, BitVec.toNat_add, quoW_toNat, Nat.mod_eq_of_lt (by omega)]
theorem SqS.stop {X z : W64} (h : SqS X.toNat z) (hX : 0 < X.toNat) (hl : z ≤ hlfW (z + quoW X z)) : z.toNat = rootN X.toNat := by
  rw [BitVec.le_def, h.sum hX] at hl
  exact newton_end h.1 hl
theorem SqS.next {X z : W64} (h : SqS X.toNat z) (hX : 0 < X.toNat) (hl : ¬ z ≤ hlfW (z + quoW X z)) : SqS X.toNat (hlfW (z + quoW X z)) ∧ (hlfW (z + quoW X z)).toNat < z.toNat := by
  have hsum := h.sum hX
  rw [BitVec.le_def, hsum] at hl
  have hr := rootN_pos hX
  have ha := newton_above (x := X.toNat) (z := z.toNat) (by have := h.1; omega)
  rw [← hsum] at ha hl
  have := h.2
  exact ⟨⟨ha, by omega⟩, by omega⟩
theorem SqS.start {X : W64} (hX : 0 < X.toNat) (m : Nat) (hm : m = (Lib.bitLen X.toNat + 1) / 2) : SqS X.toNat (pwW m) := by
  obtain ⟨b1, b2, b3, b4⟩ := word_bits X (fun e => by rw [e] at hX; exact absurd hX (by decide))
  have hn : (pwW m).toNat = 2 ^ m := pwW_toNat m (by omega)
  refine ⟨?_, ?_⟩
  · rw [hn, hm]
    exact first_above b4
  · rw [hn]
    exact Nat.pow_le_pow_right (by decide) (by omega)
theorem rootN_small {n : Nat} (h : n < 2) : rootN n = n := by
  match n, h with
  | 0, _ => rfl
  | 1, _ => rfl
attribute [local go_sem] u64_quo u64_quo'
set_option maxHeartbeats 4000000 in
/-- A number of 64 bits. -/
theorem sqrt_small (b o c p : Nat) (z x : N4) (w : World) (hz : At4 w b o z) (fz : Free4 w b o) (hx : At4 w c p x) (hu : x.isU = true) :
    Calls Try.prog 62 #[.pointer (some ⟨b, o, none⟩), .pointer (some ⟨c, p, none⟩)] w (RetLeft b o (ofN (rootN x.toNat)) w) := by
  have hb := hz.lt
  have Hz := Lib.hid hz
  have Hf := Lib.hid fz
  have Hx := Lib.hid hx
  have HX : Hid (x.toNat = x.a.toNat) := isU_toNat hu
  obtain ⟨l, hl⟩ : ∃ l, l = Lib.bitLen x.a.toNat := ⟨_, rfl⟩
  have LA : Hid (∀ W : World, Calls Try.prog 96 #[V x.a] W fun e w' => e = .returned (.int .i64 (l : Nat)) ∧ W = w') := fun W => by rw [hl]; exact len64_any x.a W
  have hl2 : l ≤ 64 := by rw [hl]; exact bl_le _ x.a.isLt
  obtain ⟨m, hm⟩ : ∃ m, m = (l + 1) / 2 := ⟨_, rfl⟩
  have hm2 : m < 64 := by omega
  have HU : ((l : Int) + 1) / 2 = (m : Int) := by omega
  have SF := sq_first m hm2
  have HS : Hid (0 < x.a.toNat → SqS x.a.toNat (pwW m)) := fun h => SqS.start h m (by rw [hm, hl])
  clear hz fz hx hl hm
  generalize pwW m = z0 at *
  go_enter Try.func62, Try.ntmps62
  go_wp2_with fail
  refine (isUint64_any c p x _ Hx.out).mono ?_
  rintro e w1 ⟨rfl, n1, rfl⟩
  go_wp2_with fail
  refine (uint64_any c p x _ (Hx.out.drewN n1)).mono ?_
  rintro e w2 ⟨rfl, n2, rfl⟩
  go_wp2_with fail
  refine (LA.out _).mono ?_
  rintro e w3 ⟨rfl, rfl⟩
  by_cases h2 : x.a.toNat < 2
  · have d2 : decide (U x.a < 2) = true := by rw [decide_eq_true_eq]; unfold U; omega
    have R : Hid (⟨x.a, 0#64, 0#64, 0#64⟩ = ofN (rootN x.toNat)) := by
      show _ = _
      rw [HX.out, rootN_small h2]
      exact (ofN_small _ _ rfl).symm
    go_wp2_with fail
    refine (setUint64_any b o z x.a _ (Hz.out.drewN _) (Hf.out.drewN _)).mono ?_
    rintro e w4 ⟨rfl, n4, rfl⟩
    go_wp2
    go_ret
    rw [← R.out]
    exact ⟨rfl, Left.of_drew _ _ _ _ _ _⟩
  · have d2 : decide (U x.a < 2) = false := by rw [decide_eq_false_iff_not]; unfold U; omega
    have HP : Hid (0 < x.a.toNat) := by show _ < _; omega
    have HQ := Lib.hid (HS.out HP.out)
    clear HS h2
    go_wp2_with fail
    go_loop [6, 7] (fun a _ => ∃ v : W64, a = V v ∧ Hid (SqS x.a.toNat v)) (fun a _ => (intOf a).toNat)
    case atStart => exact ⟨z0, rfl, HQ⟩
    case round =>
      obtain ⟨v, rfl, HV⟩ := hrel
      have hv : ¬ U v = 0 := by
        have := HV.out.1
        have := rootN_pos HP.out
        unfold U
        omega
      by_cases hc : v ≤ hlfW (v + quoW x.a v)
      · have R : Hid (⟨v, 0#64, 0#64, 0#64⟩ = ofN (rootN x.toNat)) := by
          show _ = _
          rw [HX.out, ← HV.out.stop HP.out hc]
          exact (ofN_small _ _ rfl).symm
        go_wp2_with fail
        refine (setUint64_any b o z v _ (Hz.out.drewN _) (Hf.out.drewN _)).mono ?_
        rintro e w4 ⟨rfl, n4, rfl⟩
        go_wp2
        go_ret
        rw [← R.out]
        exact ⟨rfl, Left.of_drew _ _ _ _ _ _⟩
      · obtain ⟨N1, N2⟩ := HV.out.next HP.out hc
        have HN1 := Lib.hid N1
        have HN2 := Lib.hid N2
        clear N1 N2
        go_wp2
        go_round
        case rel => exact ⟨_, rfl, HN1⟩
        case measure =>
          have := HN2.out
          simp [intOf, U]
          omega
theorem sqrtInt_any (b o c p : Nat) (z x : N4) (w : World) (hz : At4 w b o z) (fz : Free4 w b o) (hx : At4 w c p x) (fx : Free4 w c p) :
    Calls Try.prog 62 #[.pointer (some ⟨b, o, none⟩), .pointer (some ⟨c, p, none⟩)] w (RetLeft b o (ofN (rootN x.toNat)) w) := by
  cases hu : x.isU
  · exact sqrt_great b o c p z x w hz fz hx fx hu
  · exact sqrt_small b o c p z x w hz fz hx hu
end Go.Proofs.Ytbmlbjpiodiihaa
