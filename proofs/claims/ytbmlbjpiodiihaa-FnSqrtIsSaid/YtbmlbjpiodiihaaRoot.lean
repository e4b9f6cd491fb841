/-
  The reference's root.
-/
import Derived.Test.YtbmlbjpiodiihaaDig7
import Derived.Test.YtbmlbjpiodiihaaSpec1
import Derived.Test.YtbmlbjpiodiihaaSqrtMath
namespace Go.Proofs.Ytbmlbjpiodiihaa
set_option maxRecDepth 20000
open Go.RowKit
set_option linter.unusedVariables false
set_option linter.unusedSimpArgs false
set_option maxRecDepth 20000
/-- The relation of the loop: the root so far, all but its lowest k bits. -/
def RtR (X o k : Nat) : Prop := o * o ≤ X ∧ X < (o + 2 ^ k) * (o + 2 ^ k)
theorem RtR.start {X n : Nat} (h : X < 65536 ^ n) : RtR X 0 (8 * n + 1) := by
  refine ⟨by omega, ?_⟩
  have e : (65536 : Nat) ^ n = 2 ^ (8 * n) * 2 ^ (8 * n) := by rw [← Nat.pow_add, show (65536 : Nat) = 2 ^ 16 from rfl, ← Nat.pow_mul]; congr 1; omega
  rw [e] at h
  rw [Nat.zero_add]
  have := sq_mono (show 2 ^ (8 * n) ≤ 2 ^ (8 * n + 1) from Nat.pow_le_pow_right (by decide) (by omega))
  omega
theorem RtR.yes {X o k : Nat} (h : RtR X o (k + 1)) (hc : (o + 2 ^ k) * (o + 2 ^ k) ≤ X) : RtR X (o + 2 ^ k) k := by
  have := root_bit h.1 h.2
  rw [if_pos hc] at this
  exact this
theorem RtR.no {X o k : Nat} (h : RtR X o (k + 1)) (hc : ¬ (o + 2 ^ k) * (o + 2 ^ k) ≤ X) : RtR X o k := by
  have := root_bit h.1 h.2
  rw [if_neg hc] at this
  exact this
theorem RtR.done {X o : Nat} (h : RtR X o 0) : o = rootN X := rootN_unique h.1 (by have := h.2; rwa [Nat.pow_zero] at this)
theorem mul8 (n : Nat) (h : n ≤ 100) : IntKind.i64.wrap (8 * (n : Int)) = ((8 * n : Nat) : Int) := by
  rw [show (8 * (n : Int)) = ((8 * n : Nat) : Int) by omega]
  exact IntWalk.i64_in _ (by omega)
set_option maxHeartbeats 4000000 in
theorem root_dg (v : Value) (X L : Nat) (w : World) (h : Dg w v X L) (hL : L ≤ 64) : Calls Try.prog 63 #[v] w (RetDg (rootN X) 2000 w) := by
  have D0 := Lib.hid h
  obtain ⟨l, sl, dl, vl, ll⟩ := h
  obtain ⟨A, cap, rfl, hcap, hcells⟩ := sl
  have RS : Hid (RtR X 0 (8 * l.length + 1)) := RtR.start (by rw [← vl]; exact vlow_lt dl l.length)
  obtain ⟨n, hn⟩ : ∃ n, n = l.length := ⟨_, rfl⟩
  rw [← hn] at RS D0 hcap ll ⊢
  have n64 : n ≤ 64 := by omega
  clear hcells vl dl hn ll
  go_enter Try.func63, Try.ntmps63
  go_wp2
  go_loopw [3, 4] (fun s t wr => ∃ k o : Nat, k ≤ 8 * n + 1 ∧ t = .int .i64 ((k : Int) - 1) ∧ Hid (Dg wr s o (66 + (8 * n + 1 - k))) ∧ Hid (RtR X o k) ∧ Hid (Below w.heap.size w wr)) (fun _ t _ => (intOf t + 1).toNat)
  case atStart =>
    refine ⟨8 * n + 1, 0, Nat.le_refl _, by congr 1; omega, ?_, RS, bel_alloc (bel_refl w) _⟩
    exact ⟨[], ⟨_, _, rfl, Nat.le_refl _, fun i d hd => by simp at hd⟩, (fun d hd => absurd hd (by simp)), rfl, by simp⟩
  case round =>
    obtain ⟨k, o, hk, rfl, HD, HR, HB⟩ := hrel
    obtain ⟨wo, rfl⟩ : ∃ wo : World, wo = wr := ⟨_, rfl⟩
    rcases Nat.eq_zero_or_pos k with h0 | hp
    · subst h0
      have HE : Hid (o = rootN X) := HR.out.done
      go_wp2
      go_ret
      refine ⟨_, rfl, ?_, HB.out⟩
      rw [← HE.out]
      exact HD.out.le (by omega)
    · obtain ⟨m, rfl⟩ : ∃ m, k = m + 1 := ⟨k - 1, by omega⟩
      have dk : decide ((m : Int) ≥ 0) = true := decide_eq_true (by omega)
      have e1 : ((m + 1 : Nat) : Int) - 1 = (m : Int) := by omega
      rw [e1]
      clear e1
      have lm : 66 + (8 * n + 1 - (m + 1)) ≤ 700 := by omega
      go_wp2_with fail
      refine (power_any m _ (by omega)).mono ?_
      rintro e w1 ⟨v1, rfl, P1, hb1⟩
      have HP1 := Lib.hid P1
      have D1 := Lib.hid (HD.out.bel hb1)
      have HB1 := Lib.hid (bel_trans HB.out hb1)
      have A1 := Lib.hid hb1
      clear P1 HD HB hb1
      go_wp2_with fail
      refine (plus_dg _ _ _ _ _ _ _ D1.out HP1.out (by omega) (by omega)).mono ?_
      rintro e w2 ⟨v2, rfl, P2, hb2⟩
      have HP2 := Lib.hid (P2.le (show max (66 + (8 * n + 1 - (m + 1))) 65 + 1 ≤ 66 + (8 * n + 1 - m) by omega))
      have D2 := Lib.hid (D1.out.bel hb2)
      have HB2 := Lib.hid (bel_trans HB1.out hb2)
      have A2 := Lib.hid (bel_trans A1.out hb2)
      clear P2 HP1 D1 HB1 hb2 A1
      go_wp2_with fail
      refine (times_dg _ _ _ _ _ _ _ HP2.out HP2.out (by omega) (by omega)).mono ?_
      rintro e w3 ⟨v3, rfl, P3, hb3⟩
      have HP3 := Lib.hid P3
      have D3 := Lib.hid (D2.out.bel hb3)
      have N3 := Lib.hid (HP2.out.bel hb3)
      have HB3 := Lib.hid (bel_trans HB2.out hb3)
      have X3 := Lib.hid (D0.out.bel HB3.out)
      clear P3 HP2 D2 HB2 hb3 A2
      go_wp2_with fail
      refine (compare_dg _ _ _ _ _ _ _ HP3.out X3.out (by omega) (by omega)).mono ?_
      rintro e w4 ⟨rfl, rfl⟩
      by_cases hc : (o + 2 ^ m) * (o + 2 ^ m) ≤ X
      · have hcm : decide (cmpN ((o + 2 ^ m) * (o + 2 ^ m)) X ≤ 0) = true := by rw [decide_eq_true_eq]; unfold cmpN; split <;> (try split) <;> omega
        have NR := Lib.hid (HR.out.yes hc)
        clear hc HR
        generalize cmpN ((o + 2 ^ m) * (o + 2 ^ m)) X = cc at *
        go_wp2
        go_roundw
        case rel => exact ⟨m, o + 2 ^ m, by omega, rfl, N3, NR, HB3⟩
        case measure => simp [intOf] <;> omega
      · have hcm : decide (cmpN ((o + 2 ^ m) * (o + 2 ^ m)) X ≤ 0) = false := by rw [decide_eq_false_iff_not]; unfold cmpN; split <;> (try split) <;> omega
        have NR := Lib.hid (HR.out.no hc)
        clear hc HR
        generalize cmpN ((o + 2 ^ m) * (o + 2 ^ m)) X = cc at *
        go_wp2
        go_roundw
        case rel => exact ⟨m, o, by omega, rfl, D3.out.le (by omega), NR, HB3⟩
        case measure => simp [intOf] <;> omega
/-- The root of a number, by worth. -/
def N4.root (x : N4) : N4 := ofN (rootN x.toNat)
set_option maxHeartbeats 4000000 in
theorem specSqrt_any (x : N4) (w : World) : Calls Try.prog 35 #[x.v] w (RetBel (N4.v x.root) w) := by
  go_enter Try.func35, Try.ntmps35
  have R : Hid (x.root = ofN (rootN x.toNat)) := rfl
  go_wp2_with fail
  refine (whole_dg x _).mono ?_
  rintro e w1 ⟨v1, rfl, P1, hb1⟩
  have HB1 := Lib.hid (bel_trans (bel_alloc (bel_alloc (bel_refl w) _) _) hb1)
  have T1 : Hid (w1.there (w.heap.size + 1) 0 4) := there_bel (there_at _ _ _ _ _ (by simp) (by simp [go_sem])) (by omega) hb1
  have HP1 := Lib.hid P1
  clear P1 hb1
  go_wp2_with fail
  refine (root_dg _ _ _ _ HP1.out (by omega)).mono ?_
  rintro e w2 ⟨v2, rfl, P2, hb2⟩
  have HB2 := Lib.hid (bel_trans HB1.out hb2)
  have T2 : Hid (w2.there (w.heap.size + 1) 0 4) := there_bel T1.out (by omega) hb2
  have HP2 := Lib.hid P2
  clear P2 hb2
  go_wp2_with fail
  refine (cut_dg _ _ _ _ HP2.out (by omega)).mono ?_
  rintro e w3 ⟨rfl, hb3⟩
  have hbel := bel_trans HB2.out hb3
  have hres : w3.there (w.heap.size + 1) 0 4 := there_bel T2.out (by omega) hb3
  rw [← R.out]
  clear HB2 hb3 T1 T2 HP2 HP1 HB1
  generalize x.root = r at *
  go_wp2_with (refine wpList_store_mid rfl 26 _ _ rfl (w.heap.size + 1) 0 [V (r).a, V (r).b, V (r).c, V (r).d].toArray rfl rfl hres (by kernel_rfl) (by simp [Value.oneCell']) ?_)
  exact retBel_row rfl rfl (w.heap.size + 1) [V (r).a, V (r).b, V (r).c, V (r).d] _ rfl (World.rangeAt_setCells_same w3 _ 0 _ hres) Try.underlying26 rfl (by kernel_rfl) rfl (setCells_bel hbel (by omega))
end Go.Proofs.Ytbmlbjpiodiihaa
