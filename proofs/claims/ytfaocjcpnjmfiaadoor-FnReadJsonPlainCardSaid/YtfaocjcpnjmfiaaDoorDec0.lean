/-
  The reference's Length, IsNought, Decimal.
-/
import Derived.Test.YtfaocjcpnjmfiaaDoorByt1
import Derived.Test.YtfaocjcpnjmfiaaDoorLenS
import Derived.Lib.ItoaNum
namespace Go.Proofs.YtfaocjcpnjmfiaaDoor
set_option maxRecDepth 20000
open Go.RowKit
set_option linter.unusedVariables false
set_option linter.unusedSimpArgs false
set_option maxRecDepth 20000
set_option maxHeartbeats 400000 in
theorem isNought_dg (v : Value) (N L : Nat) (w : World) (h : Dg w v N L) (hL : L ≤ 100000) :
    Calls Tryd.prog 29 #[v] w fun e w' => e = .returned (.bool (decide (N = 0))) ∧ w = w' := by
  have C := Lib.hid (compare_dg v (.slice none 0 0) N 0 L 0 w h (Dg.nil w) hL (by omega))
  by_cases h0 : N = 0
  · have e1 : cmpN N 0 = 0 := by unfold cmpN; rw [if_neg (by omega), if_pos h0]
    rw [e1] at C
    clear e1 h
    go_enter Tryd.func29, Tryd.ntmps29
    go_wp2_with (go_at_call 36; refine C.out.mono ?_; rintro e w' ⟨rfl, rfl⟩)
    go_ret
    exact ⟨by simp [h0], rfl⟩
  · have e1 : cmpN N 0 = 1 := by unfold cmpN; rw [if_neg (by omega), if_neg h0]
    rw [e1] at C
    clear e1 h
    go_enter Tryd.func29, Tryd.ntmps29
    go_wp2_with (go_at_call 36; refine C.out.mono ?_; rintro e w' ⟨rfl, rfl⟩)
    go_ret
    exact ⟨by simp [h0], rfl⟩
def strLen : Value → Nat
  | .string s => s.data.size
  | _ => 0
theorem nDigits_le : ∀ (k u : Nat), 1 ≤ k → u < 10 ^ k → Lib.nDigits u ≤ k
  | 0, u, h, _ => by omega
  | k + 1, u, _, hu => by
    by_cases h10 : u < 10
    · rw [Lib.nDigits_small h10]; omega
    · rw [Lib.nDigits_big h10]
      rcases Nat.eq_zero_or_pos k with h0 | h0
      · subst h0; omega
      · have := nDigits_le k (u / 10) h0 (by rw [Nat.pow_succ] at hu; omega)
        omega
theorem slb_one (w : World) (d : UInt8) : SlB (w.alloc (.cells #[.int .u8 (d.toNat : Int)] 5)) (.slice (some ⟨w.heap.size, 0, none⟩) 1 1) [d] :=
  ⟨some ⟨w.heap.size, 0, none⟩, 1, rfl, Nat.le_refl _, fun i b hb => by
    match i, hb with
    | 0, hb => simp at hb; subst hb; exact ⟨_, _, rfl, by simp [go_sem]⟩
    | i + 1, hb => simp at hb⟩
theorem dg_ten (w : World) : Dg (w.alloc (.cells #[.int .i64 10] 3)) (.slice (some ⟨w.heap.size, 0, none⟩) 1 1) 10 1 := by
  refine ⟨[10], ⟨some ⟨w.heap.size, 0, none⟩, 1, rfl, Nat.le_refl _, fun i d hd => ?_⟩, (fun d hd => by simp at hd; omega), rfl, Nat.le_refl _⟩
  match i, hd with
  | 0, hd => simp at hd; subst hd; exact ⟨_, _, rfl, by simp [go_sem]⟩
  | i + 1, hd => simp at hd
theorem dec_step (m : Nat) (tail : List UInt8) (X : Nat) (h : Lib.decDigits X = Lib.decDigits m ++ tail) :
    (m / 10 = 0 → Lib.decDigits X = UInt8.ofNat (48 + m % 10) :: tail) ∧ (m / 10 ≠ 0 → Lib.decDigits X = Lib.decDigits (m / 10) ++ (UInt8.ofNat (48 + m % 10) :: tail)) := by
  refine ⟨fun h0 => ?_, fun h0 => ?_⟩
  · rw [h, Lib.decDigits, dif_pos (by omega), show m % 10 = m by omega]; rfl
  · rw [h, Lib.decDigits, dif_neg (by omega), List.append_assoc]; rfl
set_option maxHeartbeats 4000000 in
theorem decimal_any (x : N4) (w : World) : Calls Tryd.prog 12 #[x.v] w (RetBel (.string ⟨(Lib.decDigits x.toNat).toArray⟩) w) := by
  go_enter Tryd.func12, Tryd.ntmps12
  go_wp2_with (go_at_call 26; refine (whole_dg x _).mono ?_; rintro e w1 ⟨v1, rfl, D1, hb1⟩; have HB1 := Lib.hid (bel_trans (bel_alloc (bel_refl w) _) hb1); have HD1 := Lib.hid D1; clear D1 hb1)
  have HLX : Hid (Lib.nDigits x.toNat ≤ 78) := nDigits_le 78 x.toNat (by omega) (by have := N4.lt256 x; exact Nat.lt_of_lt_of_le this (by decide))
  go_loopw [3, 4, 5, 6, 9] (fun v t a b c wr => ∃ (m : Nat) (u q1 q2 q3 : Value) (tail : List UInt8), u = v ∧ q1 = a ∧ q2 = b ∧ q3 = c ∧ t = .string ⟨tail.toArray⟩ ∧ Hid (Dg wr u m 16) ∧ Hid (Lib.decDigits x.toNat = Lib.decDigits m ++ tail) ∧ Below w.heap.size w wr) (fun _ t _ _ _ _ => 100 - strLen t)
  case atStart => exact ⟨x.toNat, _, _, _, _, [], rfl, rfl, rfl, rfl, rfl, HD1, by show _ = _; simp, HB1.out⟩
  case round =>
    obtain ⟨m, u, q1, q2, q3, tail, rfl, rfl, rfl, rfl, rfl, HD, HT, hbel⟩ := hrel
    obtain ⟨wo, rfl⟩ : ∃ wo : World, wo = wr := ⟨_, rfl⟩
    have hlen : Hid (tail.length + Lib.nDigits m = Lib.nDigits x.toNat ∧ 1 ≤ Lib.nDigits m) := by
      refine ⟨?_, Lib.nDigits_pos m⟩
      have := congrArg List.length HT.out
      rw [List.length_append, Lib.decDigits_length, Lib.decDigits_length] at this
      omega
    have hst := dec_step m tail x.toNat HT.out
    obtain ⟨q, hq⟩ : ∃ q, q = m / 10 := ⟨_, rfl⟩
    obtain ⟨r, hr⟩ : ∃ r, r = m % 10 := ⟨_, rfl⟩
    have hr10 : r < 10 := by rw [hr]; exact Nat.mod_lt _ (by decide)
    rw [← hq, ← hr] at hst
    obtain ⟨d, hd⟩ : ∃ d, d = UInt8.ofNat (48 + r) := ⟨_, rfl⟩
    rw [← hd] at hst
    have HS := Lib.hid hst
    have DIV : Hid (∀ w v1 v2, Dg w v1 m 16 → Dg w v2 10 1 → Calls Tryd.prog 27 #[v1, v2] w (RetDg2 q r 16 (1 + 32 * 16 + 1) w)) := fun w v1 v2 h1 h2 => by
      rw [hq, hr]; exact divide_dg _ _ m 16 10 1 w h1 h2 (by omega) (by omega) (by omega)
    have AT : Hid (∀ w v L, L ≤ 100000 → Dg w v r L → Calls Tryd.prog 28 #[v, .int .i64 0] w fun e w' => e = .returned (.int .i64 (r : Int)) ∧ w = w') := fun w v L hL h => by
      have e := at_dg v r L 0 w h hL (by omega) (by omega)
      rwa [show (r / 65536 ^ (0 : Int).toNat % 65536) = r by simp; omega] at e
    have e1 : IntKind.i64.wrap (48 + (r : Int)) = 48 + (r : Int) := IntWalk.i64_in _ (by omega)
    have e2 : IntKind.u8.wrap (48 + (r : Int)) = (d.toNat : Int) := by
      rw [hd, UInt8.toNat_ofNat']
      simp [IntKind.wrap, IntKind.bits, IntKind.signed]
    have hcat : (⟨#[d]⟩ : ByteArray) ++ ⟨tail.toArray⟩ = ⟨(d :: tail).toArray⟩ := by
      apply ByteArray.ext
      rw [ByteArray.data_append]
      simp
    have hcat2 : (⟨[d].toArray⟩ : ByteArray) ++ ⟨tail.toArray⟩ = ⟨(d :: tail).toArray⟩ := hcat
    clear hst hq hr hd
    have hN : Hid (Lib.nDigits x.toNat ≤ 78) := HLX
    have hlt : ¬ 9223372036854775807 < 1 + tail.length := by have h1 := hlen.out; have h2 := hN.out; omega
    rcases Nat.eq_zero_or_pos q with h0 | h0
    · have hd0 : decide (q = 0) = true := decide_eq_true h0
      have HE := Lib.hid (HS.out.1 h0)
      go_wp2_with (first
        | (go_at_call 27; refine (DIV.out _ _ _ (HD.out.bel (bel_alloc (bel_refl _) _)) (dg_ten _)).mono ?_; rintro e w2 ⟨vq, vr, rfl, Dq, Dr, hb2⟩; have hbel2 := Lib.hid (bel_trans (bel_alloc hbel _) hb2); have HDq := Lib.hid Dq; have HDr := Lib.hid Dr; clear Dq Dr hb2)
        | (go_at_call 28; refine (AT.out _ _ _ (by omega) HDr.out).mono ?_; rintro e w3 ⟨rfl, rfl⟩; have hconv := conv_slb (slb_one w2 d))
        | (go_at_call 29; refine (isNought_dg _ q 16 _ (HDq.out.bel (bel_alloc (bel_refl _) _)) (by omega)).mono ?_; rintro e w4 ⟨rfl, rfl⟩))
      go_ret
      rw [HE.out]
      exact retBel rfl (bel_alloc hbel2.out _)
    · have hd0 : decide (q = 0) = false := decide_eq_false (by omega)
      have HE := Lib.hid (HS.out.2 (by omega))
      go_wp2_with (first
        | (go_at_call 27; refine (DIV.out _ _ _ (HD.out.bel (bel_alloc (bel_refl _) _)) (dg_ten _)).mono ?_; rintro e w2 ⟨vq, vr, rfl, Dq, Dr, hb2⟩; have hbel2 := Lib.hid (bel_trans (bel_alloc hbel _) hb2); have HDq := Lib.hid Dq; have HDr := Lib.hid Dr; clear Dq Dr hb2)
        | (go_at_call 28; refine (AT.out _ _ _ (by omega) HDr.out).mono ?_; rintro e w3 ⟨rfl, rfl⟩; have hconv := conv_slb (slb_one w2 d))
        | (go_at_call 29; refine (isNought_dg _ q 16 _ (HDq.out.bel (bel_alloc (bel_refl _) _)) (by omega)).mono ?_; rintro e w4 ⟨rfl, rfl⟩))
      go_roundw
      case rel => exact ⟨q, _, _, _, _, d :: tail, rfl, rfl, rfl, rfl, rfl, HDq.out.bel (bel_alloc (bel_refl _) _), HE, bel_alloc hbel2.out _⟩
      case measure =>
        have h1 := hlen.out
        have h2 := hN.out
        simp [strLen]
        omega
end Go.Proofs.YtfaocjcpnjmfiaaDoor
