/-
  The reference's scaled and Floats.
-/
import Derived.Test.YtpjljjajnfoccaaLenS
import Derived.Test.YtpjljjajnfoccaaFl
import Derived.Test.YtpjljjajnfoccaaImpl0
import Derived.Deep.DeepCutAuto
namespace Go.Proofs.Ytpjljjajnfoccaa
open Go.RowKit
set_option linter.unusedVariables false
set_option linter.unusedSimpArgs false
set_option maxRecDepth 20000
/-- A number of 64 bits with a fraction: the nearest one to a whole number. -/
def fl (N : Nat) : Value := .float .f64 (Fl.rep N)
theorem fl_zero : fl 0 = .float .f64 0 := by
  unfold fl
  congr 1
theorem fl_of_int (t u : TypeId) (n : Nat) (h : Try.prog.underlying u = some (.float .f64)) (hs : (Try.prog.underlying t).isSome = true) (w : World) : (convert t u (.int .i64 (n : Int))).run Try.prog w = .ok (fl n) w := by
  rw [run_convert_int_float w t u .i64 .f64 _ hs h]
  unfold fl floatOfInt FloatKind.nearest
  congr 2
theorem fl_of_u64 (t u : TypeId) (x : W64) (h : Try.prog.underlying u = some (.float .f64)) (hs : (Try.prog.underlying t).isSome = true) (w : World) : (convert t u (.int .u64 (U x))).run Try.prog w = .ok (fl x.toNat) w := by
  rw [run_convert_int_float w t u .u64 .f64 _ hs h]
  unfold fl floatOfInt FloatKind.nearest U
  congr 2
theorem fl_mul (t : TypeId) {a b : Nat} (ha : Fl.Exact a) (hb : Fl.Exact b) (w : World) : (binOp .mul t (fl a) (fl b)).run Try.prog w = .ok (fl (a * b)) w :=
  run_float_arith w .mul t .f64 _ _ _ (Fl.mul_exact ha hb)
theorem fl_add (t : TypeId) {a b : Nat} (ha : Fl.Exact a) (hb : Fl.Exact b) (w : World) : (binOp .add t (fl a) (fl b)).run Try.prog w = .ok (fl (a + b)) w :=
  run_float_arith w .add t .f64 _ _ _ (Fl.add_exact ha hb)
theorem fl_digit : Fl.rep 65536 = 4679240012837945344 := by decide
theorem fl_two : Fl.rep 2 = 4611686018427387904 := by decide
theorem exact_le {N : Nat} (h : N ≤ 9007199254740992) : Fl.Exact N := by
  have := Fl.exact_shift N 0 h (by omega)
  rwa [Nat.pow_zero, Nat.mul_one] at this
theorem val_step (l : List Nat) (hd : Digits l) (i : Nat) : val l / 65536 ^ i = val l / 65536 ^ (i + 1) * 65536 + dig l i := by
  rw [dig_val hd i, Nat.pow_succ, ← Nat.div_div_eq_div_mul]
  have := Nat.div_add_mod (val l / 65536 ^ i) 65536
  omega
set_option maxHeartbeats 1000000 in
theorem scaled_any (v : Value) (N L n : Nat) (w : World) (h : Dg w v N L) (hL : L ≤ 1000) (hN : N ≤ 9007199254740992) (hn : n ≤ 50) :
    Calls Try.prog 34 #[v, .int .i64 (n : Int)] w fun e w' => e = .returned (fl (N * 2 ^ n)) ∧ w = w' := by
  obtain ⟨l, hs, hd, hv, hl⟩ := h
  obtain ⟨A, c, rfl, hc, hcell⟩ := hs
  obtain ⟨M, hM⟩ : ∃ M, M = l.length := ⟨_, rfl⟩
  have hML : M ≤ 1000 := by omega
  have HS : Hid (∀ i : Nat, i < M → ∃ b o, A = some ⟨b, o, none⟩ ∧ w.cell? ⟨b, o + i, none⟩ = some (.int .i64 (dig l i : Int))) := fun i hi => by
    refine hcell i (dig l i) ?_
    unfold dig
    rw [List.getD_eq_getElem?_getD, List.getElem?_eq_getElem (by omega)]
    rfl
  have HV : Hid (∀ i, N / 65536 ^ i = N / 65536 ^ (i + 1) * 65536 + dig l i) := fun i => by rw [← hv]; exact val_step l hd i
  have HD : Hid (∀ i, dig l i < 65536) := fun i => by rw [dig_val hd i]; exact Nat.mod_lt _ (by decide)
  have H0 : Hid (N / 65536 ^ M = 0) := by
    show _ = _
    rw [← hv, hM]
    exact Nat.div_eq_of_lt (vlow_lt hd l.length)
  have HN := Lib.hid hN
  rw [← hM]
  clear hd hv hl hc hcell hM hN
  have c1 : Value.float .f64 4679240012837945344 = fl 65536 := by unfold fl; rw [fl_digit]
  have c2 : Value.float .f64 4611686018427387904 = fl 2 := by unfold fl; rw [fl_two]
  go_enter Try.func34, Try.ntmps34
  go_wp2
  go_loop [5, 6] (fun u t => ∃ i : Nat, i ≤ M ∧ t = .int .i64 ((i : Int) - 1) ∧ u = fl (N / 65536 ^ i)) (fun _ t => (intOf t + 1).toNat)
  case atStart => exact ⟨M, Nat.le_refl _, by go_num, by rw [H0.out, fl_zero]⟩
  case round =>
    obtain ⟨i, hi, rfl, rfl⟩ := hrel
    rcases Nat.eq_zero_or_pos i with h0 | h0
    · subst h0
      have e0 : N / 65536 ^ 0 = N := by rw [Nat.pow_zero, Nat.div_one]
      rw [e0]
      clear e0
      go_wp2
      go_loop [1, 5] (fun t u => ∃ j : Nat, j ≤ n ∧ t = .int .i64 (j : Int) ∧ u = fl (N * 2 ^ (n - j))) (fun t _ => (intOf t).toNat)
      case atStart => exact ⟨n, Nat.le_refl _, rfl, by rw [Nat.sub_self, Nat.pow_zero, Nat.mul_one]⟩
      case round =>
        obtain ⟨j, hj, rfl, rfl⟩ := hrel
        rcases Nat.eq_zero_or_pos j with h1 | h1
        · subst h1
          go_wp2
          go_ret
          exact ⟨rfl, rfl⟩
        · obtain ⟨k, rfl⟩ : ∃ k, j = k + 1 := ⟨j - 1, by omega⟩
          have hN := HN.out
          have hmul := fun t w => fl_mul t (Fl.exact_shift N (n - (k + 1)) (by omega) (by omega)) (exact_le (N := 2) (by omega)) w
          have e : N * 2 ^ (n - (k + 1)) * 2 = N * 2 ^ (n - k) := by rw [Nat.mul_assoc, ← Nat.pow_succ]; congr 2; omega
          rw [e] at hmul
          clear e
          go_wp2
          go_round
          case rel => exact ⟨k, by omega, by go_num, rfl⟩
          case measure => simp [intOf] <;> omega
    · obtain ⟨j, rfl⟩ : ∃ j, i = j + 1 := ⟨i - 1, by omega⟩
      obtain ⟨b, o, rfl, hcj⟩ := HS.out j (by omega)
      have hlo : N / 65536 ^ (j + 1) * 65536 ≤ N := Nat.le_trans (Nat.mul_le_mul_left _ (by rw [Nat.pow_succ]; exact Nat.le_mul_of_pos_left _ (Nat.pow_pos (by decide)))) (Nat.div_mul_le_self N (65536 ^ (j + 1)))
      have hN := HN.out
      have hdj := HD.out j
      have hmul := fun t w => fl_mul t (exact_le (N := N / 65536 ^ (j + 1)) (by omega)) (exact_le (N := 65536) (by omega)) w
      have hcv : Value.float .f64 (floatOfInt .f64 ((dig l j : Nat) : Int)) = fl (dig l j) := by
        unfold fl floatOfInt FloatKind.nearest
        congr 2
      have hv := HV.out j
      have hle : N / 65536 ^ j ≤ N := Nat.div_le_self _ _
      have hadd := fun t w => fl_add t (exact_le (N := N / 65536 ^ (j + 1) * 65536) (by omega)) (exact_le (N := dig l j) (by omega)) w
      rw [← hv] at hadd
      clear hv hle hlo hdj
      go_wp2
      go_round
      case rel => exact ⟨j, by omega, by go_num, rfl⟩
      case measure => simp [intOf] <;> omega
theorem dg_new1 (w : World) : Dg (w.alloc (.cells #[.int .i64 1] 3)) (.slice (some ⟨w.heap.size, 0, none⟩) 1 1) 1 1 := by
  refine ⟨[1], ⟨_, 1, rfl, Nat.le_refl _, fun i d hd => ?_⟩, ?_, rfl, Nat.le_refl _⟩
  · match i, hd with
    | 0, hd => cases hd; exact ⟨_, _, rfl, by simp [go_sem]⟩
  · intro d hd; simp at hd; subst hd; decide
theorem exact_order {N : Nat} (h : Fl.Exact N) : (FloatKind.f64.format.order (Fl.rep N) (Fl.rep N) == some .eq) = true := by
  obtain ⟨m, e, h1, _⟩ := h
  show (Ieee.Datum.order (Ieee.double.read (Fl.rep N)) (Ieee.double.read (Fl.rep N)) == some .eq) = true
  rw [h1]
  simp only [Ieee.Datum.order]
  rw [show compare (Ieee.signed false m (e - min e e).toNat) (Ieee.signed false m (e - min e e).toNat) = .eq from Std.ReflCmp.compare_self]
  rfl
theorem len_ex (v : Nat) (h : v < 2 ^ 64) : ∃ nb, nb ≤ 64 ∧ v < 2 ^ nb ∧ (nb = 0 ∨ 2 ^ (nb - 1) ≤ v) := by
  by_cases h0 : v = 0
  · exact ⟨0, by omega, by omega, .inl rfl⟩
  · have a := Nat.log2_self_le h0
    have b := @Nat.lt_log2_self v
    have c := (Nat.log2_lt (k := 64) h0).2 h
    exact ⟨v.log2 + 1, by omega, b, .inr a⟩
set_option maxHeartbeats 2000000 in
theorem floats_any (x : N4) (w : World) (hx : x.toNat < 2 ^ 64) :
    Calls Try.prog 17 #[x.v] w fun e w' => ∃ lo hi, e = .returned (.tuple #[fl lo, fl hi]) ∧ (Fl.rep x.toNat = Fl.rep lo ∧ Fl.Exact lo ∨ Fl.rep x.toNat = Fl.rep hi ∧ Fl.Exact hi) ∧ Below w.heap.size w w' := by
  obtain ⟨nb, hnb, h1, h2⟩ := len_ex x.toNat hx
  by_cases hs : nb ≤ 53
  · have hv : x.toNat < 9007199254740992 := Nat.lt_of_lt_of_le h1 (Nat.pow_le_pow_right (by decide) hs)
    have H1 := Lib.hid h1
    have H2 := Lib.hid h2
    have HV := Lib.hid hv
    clear h1 h2 hx hv
    have hmax : max (0 : Int) ((nb : Int) - 53) = ((0 : Nat) : Int) := by omega
    go_enter Try.func17, Try.ntmps17
    go_wp2_with fail
    refine (whole_dg x _).mono ?_
    rintro e w1 ⟨va, rfl, Da, hb1⟩
    go_wp2_with fail
    refine (length_dg va _ _ nb _ Da (by omega) H1.out H2.out).mono ?_
    rintro e w2 ⟨rfl, rfl⟩
    go_wp2_with fail
    refine (power_any 0 _ (by omega)).mono ?_
    rintro e w3 ⟨vp, rfl, Dp, hb3⟩
    go_wp2_with fail
    refine (divide_dg va vp _ _ _ _ _ (Da.bel hb3) Dp (by omega) (by omega) (by decide)).mono ?_
    rintro e w4 ⟨vq, vr, rfl, Dq, Dr, hb4⟩
    rw [Nat.pow_zero, Nat.div_one] at Dq
    have BE := Lib.hid (bel_trans (bel_trans (bel_trans (bel_alloc (bel_refl w) _) hb1) hb3) hb4)
    clear hb1 hb3 hb4 Da Dp Dr
    go_wp2_with fail
    refine (scaled_any vq x.toNat 16 0 _ Dq (by omega) (Nat.le_of_lt HV.out) (by omega)).mono ?_
    rintro e w5 ⟨rfl, rfl⟩
    go_wp2_with fail
    refine (scaled_any vq x.toNat 16 0 _ Dq (by omega) (Nat.le_of_lt HV.out) (by omega)).mono ?_
    rintro e w5 ⟨rfl, rfl⟩
    go_wp2
    go_ret2
    exact ⟨_, _, rfl, .inl ⟨rfl, exact_le (by have := HV.out; omega)⟩, BE.out⟩
  · obtain ⟨n, rfl⟩ : ∃ n, nb = n + 53 := ⟨nb - 53, by omega⟩
    have hn0 : 0 < n := by omega
    have h2' : 2 ^ (n + 52) ≤ x.toNat := by
      rcases h2 with h2 | h2
      · omega
      · rwa [show n + 53 - 1 = n + 52 by omega] at h2
    have hne : x.toNat ≠ 0 := by have := Nat.two_pow_pos (n + 52); omega
    have hlog : x.toNat.log2 = n + 52 := by
      have a := (Nat.le_log2 (k := n + 52) hne).2 h2'
      have b := (Nat.log2_lt (k := n + 53) hne).2 h1
      omega
    have hround := Fl.rep_round x.toNat n hne hlog (by omega)
    have hp := Nat.two_pow_pos n
    have hq : x.toNat / 2 ^ n < 9007199254740992 := by
      rw [Nat.div_lt_iff_lt_mul hp]
      rw [Nat.add_comm n 53, Nat.pow_add] at h1
      exact h1
    obtain ⟨q, hqe⟩ : ∃ q, q = x.toNat / 2 ^ n := ⟨_, rfl⟩
    obtain ⟨r, hre⟩ : ∃ r, r = x.toNat % 2 ^ n := ⟨_, rfl⟩
    obtain ⟨P, hPe⟩ : ∃ P, P = 2 ^ n := ⟨_, rfl⟩
    have DIV : Hid (∀ va vp w, Dg w va x.toNat 16 → Dg w vp P 65 → Calls Try.prog 23 #[va, vp] w (RetDg2 q r 16 (65 + 32 * 16 + 1) w)) := fun va vp w h k => by
      rw [hqe, hre]
      rw [hPe] at k
      exact divide_dg va vp _ _ _ _ w h k (by omega) (by omega) hp
    have POW : Hid (∀ w, Calls Try.prog 32 #[.int .i64 (n : Int)] w (RetDg P 65 w)) := fun w => by rw [hPe]; exact power_any n w (by omega)
    have SC : Hid (∀ v N L w, Dg w v N L → L ≤ 1000 → N ≤ 9007199254740992 → Calls Try.prog 34 #[v, .int .i64 (n : Int)] w fun e w' => e = .returned (fl (N * P)) ∧ w = w') := fun v N L w h k1 k2 => by
      rw [hPe]
      exact scaled_any v N L n w h k1 k2 (by omega)
    rw [← hqe, ← hre, ← hPe] at hround
    have EX : Hid (∀ k, k ≤ 9007199254740992 → Fl.Exact (k * P)) := fun k hk => by rw [hPe]; exact Fl.exact_shift k n hk (by omega)
    rw [← hqe] at hq
    have H1 := Lib.hid h1
    have H2 := Lib.hid h2
    have HQ := Lib.hid hq
    have HR := Lib.hid hround
    have hnl : n ≤ 11 := by omega
    have hmax : max (0 : Int) (((n + 53 : Nat) : Int) - 53) = (n : Int) := by omega
    have hcase : cmpN (r + r) P = -1 ∧ r + r < P ∨ cmpN (r + r) P = 0 ∧ r + r = P ∨ cmpN (r + r) P = 1 ∧ P < r + r := by
      unfold cmpN
      rcases Nat.lt_trichotomy (r + r) P with h | h | h
      · exact .inl ⟨if_pos h, h⟩
      · exact .inr (.inl ⟨by rw [if_neg (by omega), if_pos h], h⟩)
      · exact .inr (.inr ⟨by rw [if_neg (by omega), if_neg (by omega)], h⟩)
    have CMP : Hid (∀ v u w, Dg w v (r + r) 600 → Dg w u P 65 → Calls Try.prog 33 #[v, u] w fun e w' => e = .returned (.int .i64 (cmpN (r + r) P)) ∧ w = w') := fun v u w h k => compare_dg v u _ _ _ _ w h k (by omega) (by omega)
    clear hx h1 h2 h2' hne hlog hround hp hq hqe hre hPe hs hnb
    have hc3 : ∃ ci : Int, cmpN (r + r) P = ci ∧ (ci = -1 ∧ r + r < P ∨ ci = 0 ∧ r + r = P ∨ ci = 1 ∧ P < r + r) := ⟨_, rfl, hcase⟩
    obtain ⟨ci, hci, hc4⟩ := hc3
    rw [hci] at CMP
    clear hcase hci
    rcases hc4 with ⟨rfl, hrp⟩ | ⟨rfl, hrp⟩ | ⟨rfl, hrp⟩
    all_goals
      have HRP := Lib.hid hrp
      clear hrp
      go_enter Try.func17, Try.ntmps17
      go_wp2_with fail
      refine (whole_dg x _).mono ?_
      rintro e w1 ⟨va, rfl, Da, hb1⟩
      go_wp2_with fail
      refine (length_dg va _ _ (n + 53) _ Da (by omega) H1.out H2.out).mono ?_
      rintro e w2 ⟨rfl, rfl⟩
      go_wp2_with fail
      refine (POW.out _).mono ?_
      rintro e w3 ⟨vp, rfl, Dp, hb3⟩
      go_wp2_with fail
      refine (DIV.out va vp _ (Da.bel hb3) Dp).mono ?_
      rintro e w4 ⟨vq, vr, rfl, Dq, Dr, hb4⟩
      have BE := Lib.hid (bel_trans (bel_trans (bel_trans (bel_alloc (bel_refl w) _) hb1) hb3) hb4)
      clear hb1 hb3 hb4 Da Dp
      go_wp2_with fail
      refine (plus_dg vr vr _ _ _ _ _ Dr Dr (by omega) (by omega)).mono ?_
      rintro e w5 ⟨vs, rfl, Ds, hb5⟩
      go_wp2_with fail
      refine (POW.out _).mono ?_
      rintro e w6 ⟨vp2, rfl, Dp2, hb6⟩
      go_wp2_with fail
      refine (CMP.out _ _ _ ((Ds.bel hb6).le (by omega)) Dp2).mono ?_
      rintro e w7 ⟨rfl, rfl⟩
      have Dq6 := (Dq.bel hb5).bel hb6
      have BE6 := Lib.hid (bel_trans (bel_trans BE.out hb5) hb6)
      clear hb5 hb6 Dr Ds Dp2 Dq BE
      go_wp2_with fail
    · refine (SC.out vq q 16 _ Dq6 (by omega) (Nat.le_of_lt HQ.out)).mono ?_
      rintro e w8 ⟨rfl, rfl⟩
      go_wp2_with fail
      refine (SC.out vq q 16 _ Dq6 (by omega) (Nat.le_of_lt HQ.out)).mono ?_
      rintro e w8 ⟨rfl, rfl⟩
      go_wp2
      go_ret2
      refine ⟨_, _, rfl, .inl ⟨?_, EX.out q (Nat.le_of_lt HQ.out)⟩, BE6.out⟩
      rw [HR.out, if_neg]
      have := HRP.out
      simp
      omega
    · refine (plus_dg vq _ q 1 16 1 _ (Dq6.bel (bel_alloc (bel_refl _) _)) (dg_new1 w6) (by omega) (by omega)).mono ?_
      rintro e w8 ⟨vh, rfl, Dh, hb8⟩
      have Dq8 := (Dq6.bel (bel_alloc (bel_refl _) _)).bel hb8
      have BE8 := Lib.hid (bel_trans (bel_alloc BE6.out _) hb8)
      clear hb8 Dq6 BE6
      go_wp2_with fail
      refine (SC.out vq q 16 _ Dq8 (by omega) (Nat.le_of_lt HQ.out)).mono ?_
      rintro e w9 ⟨rfl, rfl⟩
      go_wp2_with fail
      refine (SC.out vh (q + 1) 17 _ Dh (by omega) HQ.out).mono ?_
      rintro e w9 ⟨rfl, rfl⟩
      go_wp2
      go_ret2
      refine ⟨_, _, rfl, ?_, BE8.out⟩
      rw [HR.out]
      split
      · exact .inr ⟨rfl, EX.out _ HQ.out⟩
      · exact .inl ⟨rfl, EX.out q (Nat.le_of_lt HQ.out)⟩
    · refine (plus_dg vq _ q 1 16 1 _ (Dq6.bel (bel_alloc (bel_refl _) _)) (dg_new1 w6) (by omega) (by omega)).mono ?_
      rintro e w8 ⟨vh, rfl, Dh, hb8⟩
      have BE8 := Lib.hid (bel_trans (bel_alloc BE6.out _) hb8)
      clear hb8 Dq6 BE6
      go_wp2_with fail
      refine (SC.out vh (q + 1) 17 _ Dh (by omega) HQ.out).mono ?_
      rintro e w9 ⟨rfl, rfl⟩
      go_wp2_with fail
      refine (SC.out vh (q + 1) 17 _ Dh (by omega) HQ.out).mono ?_
      rintro e w9 ⟨rfl, rfl⟩
      go_wp2
      go_ret2
      refine ⟨_, _, rfl, .inl ⟨?_, EX.out _ HQ.out⟩, BE8.out⟩
      rw [HR.out, if_pos]
      have := HRP.out
      rw [decide_eq_true (by omega)]
      rfl
theorem isU_toNat (x : N4) (h : x.isU = true) : x.toNat = x.a.toNat := by
  unfold N4.isU at h
  simp only [beq_iff_eq, BitVec.or_eq_zero_iff] at h
  unfold N4.toNat
  rw [h.1.1, h.1.2, h.2]
  simp
set_option maxHeartbeats 1000000 in
theorem float64_any (b o : Nat) (x : N4) (w : World) (hx : At4 w b o x) (hu : x.isU = true) :
    Calls Try.prog 36 #[.pointer (some ⟨b, o, none⟩)] w fun e w' => e = .returned (fl x.toNat) ∧ ∃ n, w' = w.drewN n := by
  have K : Hid (Value.float .f64 (floatOfInt .f64 (U x.a)) = fl x.toNat) := by
    show _ = _
    rw [isU_toNat x hu]
    unfold fl floatOfInt FloatKind.nearest U
    congr 2
  go_enter Try.func36, Try.ntmps36
  go_wp2_with fail
  refine (isUint64_any b o x _ hx).mono ?_
  rintro e w1 ⟨rfl, n, rfl⟩
  go_wp2_with fail
  refine (uint64_any b o x _ (hx.drewN n)).mono ?_
  rintro e w1 ⟨rfl, m, rfl⟩
  go_wp2
  go_ret
  rw [K.out]
  exact ⟨rfl, n + m, rfl⟩
theorem implFloat64_any (x : N4) (w : World) (hu : x.isU = true) : Calls Try.prog 18 #[x.v] w (RetBel (fl x.toNat) w) := by
  go_enter Try.func18, Try.ntmps18
  go_wp2_with fail
  refine (intOf_any x _).mono ?_
  rintro e w1 ⟨B, rfl, m⟩
  have hb := bel_trans (bel_alloc (bel_refl w) _) m.bel
  go_wp2_with fail
  refine (float64_any B 0 x _ m.at4 hu).mono ?_
  rintro e w2 ⟨rfl, n, rfl⟩
  go_wp2
  go_ret
  exact retBel rfl (bel_drewN hb n)
end Go.Proofs.Ytpjljjajnfoccaa
