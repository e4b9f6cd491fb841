/-
  The reference's Times, bit and Divide, by worth.
-/
import Derived.Test.YtfaocjcpnjmfiaaDoorMath
namespace Go.Proofs.YtfaocjcpnjmfiaaDoor
set_option maxRecDepth 20000
open Go.RowKit
set_option linter.unusedVariables false
set_option linter.unusedSimpArgs false
theorem at_quiet (v : Value) (l : List Nat) (i : Int) (w : World) (hs : Sl w v l) (hl : l.length ≤ 1000000) (h0 : 0 ≤ i) (h1 : i ≤ 1000000) :
    Calls Tryd.prog 28 #[v, .int .i64 i] w fun e w' => e = .returned (.int .i64 (dig l i.toNat : Nat)) ∧ w' = w :=
  (at_any v l i w hs hl h0 h1).mono fun _ _ ⟨he, hw⟩ => ⟨he, hw.symm⟩
theorem Tryd.infoInt6 : (Tryd.prog.info? 3).map (fun i => (i.zero, i.size, i.bytes)) = some (some (.int .i64 0), 1, 8) := by kernel_rfl
set_option maxHeartbeats 4000000 in
theorem times_any (va vb : Value) (a b : List Nat) (w : World) (sa : Sl w va a) (sb : Sl w vb b) (da : Digits a) (db : Digits b) (la : a.length ≤ 300000) (lb : b.length ≤ 300000) :
    Calls Tryd.prog 17 #[va, vb] w (RetVal (val a * val b) (a.length + b.length + 1) w) := by
  obtain ⟨i0, hi, hz0, hz1, hz2⟩ := info_parts Tryd.infoInt6
  have Sa := Lib.hid sa
  have Sb := Lib.hid sb
  obtain ⟨A, ca, rfl, hca, _⟩ := sa
  obtain ⟨B, cb, rfl, _, _⟩ := sb
  obtain ⟨n, hn⟩ : ∃ n, n = a.length := ⟨_, rfl⟩
  obtain ⟨m, hm⟩ : ∃ m, m = b.length := ⟨_, rfl⟩
  rw [← hn] at la hca
  rw [← hm] at lb
  rw [← hn] at Sa
  rw [← hm] at Sb
  rw [← hn, ← hm]
  have Hn := Lib.hid hn
  have Hm := Lib.hid hm
  clear hn hm
  go_enter Tryd.func17, Tryd.ntmps17
  go_wp2_with (at_make; refine wpList_make_full _ rfl _ _ 30 rfl w.heap.size 3 i0 (.int .i64 0) 1 Tryd.underlying30 hi hz0 hz1 _ _ _ _ (n + m + 1) rfl rfl (by omega) (by omega) ?_ ?_ ?_ ?_)
  · rw [hz2]; omega
  · unfold maxLen; omega
  · omega
  intro w1 hown0 hgrow
  rw [ints_made] at hown0
  have hbel0 : Below w.heap.size w w1 := (bel_refl w).grown hgrow (Nat.le_refl _) (fun g hg => by cases hg)
  clear hgrow
  go_wp2
  go_loopw [6, 7, 8] (fun t u x wr => ∃ (o : List Nat) (i : Nat) (q q' : Value), u = q ∧ x = q' ∧ t = .int .i64 (i : Int) ∧ wr.ownsRow w.heap.size 3 1 (.slice (some ⟨w.heap.size, 0, none⟩) (n + m + 1) (n + m + 1)) (n + m + 1) (ints o) ∧ Hid (o.length = n + m + 1) ∧ Digits o ∧ i ≤ n ∧ Hid (val o = vlow a i * val b) ∧ Below w.heap.size w wr) (fun t _ _ _ => 700002 - (intOf t).toNat)
  case atStart => exact ⟨List.replicate (n + m + 1) 0, 0, _, _, rfl, rfl, rfl, hown0, List.length_replicate, Digits.replicate _, by omega, (by show val _ = _; rw [val_replicate, vlow, Nat.zero_mul]), hbel0⟩
  case round =>
    obtain ⟨o, i, q, q', rfl, rfl, rfl, hown, HL, hdo, hin, HV, hbel⟩ := hrel
    obtain ⟨wo, rfl⟩ : ∃ wo : World, wo = wr := ⟨_, rfl⟩
    by_cases hlt : i < n
    · have hd1 : decide (i < n) = true := decide_eq_true hlt
      have dai := dig_lt da i
      go_wp2
      go_loopw [7, 8] (fun u x wr => ∃ (o : List Nat) (r k : Nat), u = .int .i64 (r : Int) ∧ x = .int .i64 (k : Int) ∧ wr.ownsRow w.heap.size 3 1 (.slice (some ⟨w.heap.size, 0, none⟩) (n + m + 1) (n + m + 1)) (n + m + 1) (ints o) ∧ Hid (o.length = n + m + 1) ∧ Digits o ∧ r ≤ 65535 ∧ k ≤ m + 1 ∧ Hid (val o + 65536 ^ (i + k) * r = vlow a i * val b + 65536 ^ i * (dig a i * vlow b k)) ∧ Below w.heap.size w wr) (fun _ x _ => 700002 - (intOf x).toNat)
      case atStart => exact ⟨o, 0, 0, rfl, rfl, hown, HL, hdo, by omega, by omega, (by show _ = _; rw [HV.out, vlow]; simp), hbel⟩
      case round =>
        obtain ⟨o, r, k, rfl, rfl, hown, HL, hdo, hr1, hk1, HE, hbel⟩ := hrel
        by_cases hc : k < m ∨ 0 < r
        · have hkm : k ≤ m := by
            by_cases h : k < m
            · omega
            · have := times_bound o a b i k r da db HE.out (by omega) (by rw [← Hm.out]; omega)
              rw [← Hm.out] at this; exact this
          have hw1 : (decide (k < m) = true) ∨ (decide (k < m) = false ∧ decide ((0 : Int) < (r : Int)) = true ∧ decide (0 < r) = true) := by
            by_cases h : k < m
            · exact .inl (decide_eq_true h)
            · exact .inr ⟨decide_eq_false h, decide_eq_true (by omega), decide_eq_true (by omega)⟩
          obtain ⟨ba, oa, hA, hcell⟩ : ∃ ba oa, A = some ⟨ba, oa, none⟩ ∧ wr.cell? ⟨ba, oa + i, none⟩ = some (.int .i64 (dig a i : Int)) := by
            obtain ⟨A', ca', h1, h2, h3⟩ := Sa.out.bel hbel
            cases h1
            obtain ⟨ba, oa, e1, e2⟩ := h3 i (dig a i) (by unfold dig; rw [List.getD_eq_getElem?_getD, List.getElem?_eq_getElem (by rw [← Hn.out]; exact hlt)]; rfl)
            exact ⟨ba, oa, e1, e2⟩
          subst hA
          have SbW := Lib.hid (Sb.out.bel hbel)
          have hco : wr.cell? ⟨w.heap.size, i + k, none⟩ = some (.int .i64 (dig o (i + k) : Int)) := by
            rw [hown.cellAt (i + k) (by omega), ints_getElem (by rw [HL.out]; omega)]
          have hfo := hown.frozenAt (i + k)
          have dbk := dig_lt db k
          have dok := dig_lt hdo (i + k)
          obtain ⟨p, hp⟩ : ∃ p, p = dig a i * dig b k := ⟨_, rfl⟩
          have hpb : p ≤ 65535 * 65535 := by rw [hp]; exact Nat.mul_le_mul (by omega) (by omega)
          have e2 : IntKind.i64.wrap ((dig a i : Int) * (dig b k : Int)) = (p : Int) := by
            rw [hp]; rw [hp] at hpb
            have : (dig a i : Int) * (dig b k : Int) = ((dig a i * dig b k : Nat) : Int) := by simp
            rw [this]
            generalize dig a i * dig b k = z at hpb
            exact IntWalk.i64_in _ (by omega)
          obtain ⟨S, hS⟩ : ∃ S, S = r + dig o (i + k) + p := ⟨_, rfl⟩
          have hSb : S ≤ 4294967295 := by omega
          have e1 : IntKind.i64.wrap ((i : Int) + (k : Int)) = (i : Int) + (k : Int) := IntWalk.i64_in _ (by omega)
          have e3 : IntKind.i64.wrap ((r : Int) + (dig o (i + k) : Int)) = (r : Int) + (dig o (i + k) : Int) := IntWalk.i64_in _ (by omega)
          have e4 : IntKind.i64.wrap ((r : Int) + (dig o (i + k) : Int) + (p : Int)) = (S : Int) := by rw [hS, IntWalk.i64_in _ (by omega)]; omega
          have g1 : (0 : Int) ≤ (i : Int) + (k : Int) := by omega
          have g2 : ((i : Int) + (k : Int)).toNat = i + k := by omega
          have hst := hown.stored (i + k) (.int .i64 ((S % 65536 : Nat) : Int))
          have ST := Lib.hid (times_step o b i k r (dig a i) S (vlow a i * val b) HE.out (by rw [hS, hp]) (by rw [HL.out]; omega))
          have hown2 := hst.1
          rw [← ints_set] at hown2
          have HO := Lib.hid hown2
          have hb2 := Lib.hid (bel_set hbel ⟨w.heap.size, i + k, none⟩ (Nat.le_refl _) (.int .i64 ((S % 65536 : Nat) : Int)))
          have hDo := hdo.set (i + k) (d := S % 65536) (by omega)
          have HL2 : Hid ((o.set (i + k) (S % 65536)).length = n + m + 1) := by show _ = _; rw [List.length_set, HL.out]
          have hbb : (decide (i + k < n + m + 1)) = true := decide_eq_true (by omega)
          have Hp := Lib.hid hp
          have HS := Lib.hid hS
          clear hp hS hst hown2 hown HE
          rcases hw1 with d1 | ⟨d1, d2, d3⟩
          all_goals
            go_wp2
            go_quiet ((go_at_call 28; exact Calls.quiet_of_same (at_quiet _ b _ _ (SbW.out.drewN _) (by rw [← Hm.out]; omega) (by omega) (by omega))))
            go_wp2
            go_roundw
            case rel =>
              refine ⟨o.set (i + k) (S % 65536), S / 65536, k + 1, by simp, by go_num, ?_, HL2, hDo, by omega, by omega, ST, ?_⟩
              · rw [show (S : Int) % 65536 = ((S % 65536 : Nat) : Int) by omega]; exact HO.out
              · rw [show (S : Int) % 65536 = ((S % 65536 : Nat) : Int) by omega]; exact bel_drewN hb2.out nq
            case measure => simp [intOf] <;> omega
        · have d1 : decide (k < m) = false := decide_eq_false (by omega)
          have d2 : decide ((0 : Int) < (r : Int)) = false := decide_eq_false (by omega)
          have d3 : decide (0 < r) = false := decide_eq_false (by omega)
          have r0 : r = 0 := by omega
          have N : Hid (val o = vlow a (i + 1) * val b) := times_end o a b i k (by rw [r0] at HE; exact HE.out) (by rw [← Hm.out]; omega)
          clear HE r0
          go_wp2
          go_roundw
          case rel => exact ⟨o, i + 1, _, _, rfl, rfl, by go_num, hown, HL, hdo, by omega, N, hbel⟩
          case measure => simp [intOf] <;> omega
    · have hd1 : decide (i < n) = false := decide_eq_false hlt
      have N : Hid (val o = val a * val b) := by show val o = _; rw [HV.out, vlow_ge (by rw [← Hn.out]; omega)]
      go_wp2
      go_ret
      exact ⟨_, o, rfl, ⟨Sl.of_own (by rw [HL.out]; exact hown), From.of_own hown⟩, hdo, N.out, by rw [HL.out]; omega, hbel⟩
theorem times_dg (v u : Value) (a b L M : Nat) (w : World) (h : Dg w v a L) (k : Dg w u b M) (hL : L ≤ 300000) (hM : M ≤ 300000) :
    Calls Tryd.prog 17 #[v, u] w (RetDg (a * b) (L + M + 1) w) := by
  obtain ⟨l, h1, h2, rfl, h4⟩ := h
  obtain ⟨m, k1, k2, rfl, k4⟩ := k
  exact (times_any v u l m w h1 k1 h2 k2 (by omega) (by omega)).mono fun e w' ⟨v, o, q1, q2, q3, q4, q5, q6⟩ => ⟨v, q1, ⟨o, q2.1, q3, q4, by omega⟩, q6⟩
theorem i64_shr_nat (x k : Nat) (hk : k ≤ 64) : Op.shift .shr .i64 (x : Int) .i64 (k : Int) = pure (.int .i64 ((x / 2 ^ k : Nat) : Int)) := by
  rw [shift_shr_any _ _ _ _ (by omega)]
  congr 2
  rw [Int.toNat_natCast, show min k (IntKind.i64.bits) = k from Nat.min_eq_left hk]
  simp
theorem i64_and1 (x : Nat) (h : x < 9223372036854775808) : bits .and .i64 (x : Int) 1 = ((x % 2 : Nat) : Int) := by
  have h1 := (bits_nat .i64 63 (by decide) (fun n h0 h1 => IntWalk.i64_in n (by omega)) x 1 (by omega) (by decide)).1
  have e : x &&& 1 = x % 2 := Nat.and_two_pow_sub_one_eq_mod x 1
  rw [e] at h1
  exact h1
set_option maxHeartbeats 1000000 in
theorem bit_dg (v : Value) (N L : Nat) (n : Nat) (w : World) (h : Dg w v N L) (hL : L ≤ 100000) (hn : n ≤ 1000000) :
    Calls Tryd.prog 35 #[v, .int .i64 (n : Int)] w fun e w' => e = .returned (.int .i64 ((N / 2 ^ n % 2 : Nat) : Int)) ∧ w = w' := by
  have H := Lib.hid h
  clear h
  have h0 : (0 : Int) ≤ (n : Int) := by omega
  obtain ⟨d, hd⟩ : ∃ d, d = N / 65536 ^ (n / 16) % 65536 := ⟨_, rfl⟩
  have hdl : d < 65536 := by rw [hd]; exact Nat.mod_lt _ (by decide)
  have A0 : ∀ w, Dg w v N L → Calls Tryd.prog 28 #[v, .int .i64 ((n : Int) / 16)] w fun e w' => e = .returned (.int .i64 (d : Int)) ∧ w = w' := fun w h => by
    have := at_dg v N L ((n : Int) / 16) w h hL (by omega) (by omega)
    rw [show ((n : Int) / 16).toNat = n / 16 by omega, ← hd] at this
    exact this
  have A := Lib.hid A0
  have s1 : (d : Int) / 2 ^ (n % 16) = ((d / 2 ^ (n % 16) : Nat) : Int) := by simp
  obtain ⟨q, hq⟩ : ∃ q, q = d / 2 ^ (n % 16) := ⟨_, rfl⟩
  have hql : q < 65536 := by rw [hq]; exact Nat.lt_of_le_of_lt (Nat.div_le_self _ _) hdl
  rw [← hq] at s1
  have s2 := i64_and1 q (by omega)
  have E : Hid (q % 2 = N / 2 ^ n % 2) := by show _ = _; rw [hq, hd, bit_of]
  clear A0 hd hq
  rw [← E.out]
  clear E
  go_enter Tryd.func35, Tryd.ntmps35
  go_wp2_with (go_at_call 28; refine (A.out _ H.out).mono ?_; rintro e w' ⟨rfl, rfl⟩)
  go_ret
  exact ⟨rfl, rfl⟩
/-- Two new slices of digits. -/
def RetDg2 (q r L M : Nat) (w : World) (e : Ending) (w' : World) : Prop := ∃ v u, e = .returned (.tuple #[v, u]) ∧ Dg w' v q L ∧ Dg w' u r M ∧ Below w.heap.size w w'
theorem Dg.one {w : World} {B : Nat} (h : w.cell? ⟨B, 0, none⟩ = some (.int .i64 1)) : Dg w (.slice (some ⟨B, 0, none⟩) 1 1) 1 1 := by
  refine ⟨[1], ⟨some ⟨B, 0, none⟩, 1, rfl, Nat.le_refl _, fun i d hd => ⟨B, 0, rfl, ?_⟩⟩, ?_, rfl, Nat.le_refl _⟩
  · match i with
    | 0 => simp at hd; subst hd; exact h
    | i + 1 => simp at hd
  · intro d hd; simp at hd; omega
theorem cmpN_ge (a b : Nat) : decide (0 ≤ cmpN a b) = decide (b ≤ a) := by
  unfold cmpN
  by_cases h : a < b
  · rw [if_pos h, decide_eq_false (show ¬ b ≤ a by omega)]; rfl
  · rw [if_neg h, decide_eq_true (show b ≤ a by omega)]; split <;> rfl
theorem i64_orbit (d r : Nat) (hd : d < 65536) (hr : r < 16) (hz : d % 2 ^ (r + 1) = 0) : bits .or .i64 (d : Int) ((2 ^ r : Nat) : Int) = ((d + 2 ^ r : Nat) : Int) := by
  obtain ⟨h1, h2⟩ := or_bit d r hd hr hz
  have hp : 2 ^ r < 2 ^ 63 := Nat.pow_lt_pow_right (by decide) (by omega)
  rw [(bits_nat .i64 63 (by decide) (fun n h0 h1 => IntWalk.i64_in n (by omega)) d (2 ^ r) (by omega) hp).2, h2]
end Go.Proofs.YtfaocjcpnjmfiaaDoor
