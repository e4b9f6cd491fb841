/-
  The contract of uint256's Log10.
-/
import Derived.Test.YtpjljjajnfoccaaDoorPows
import Derived.Test.YtpjljjajnfoccaaDoorLogMath
import Derived.Test.YtpjljjajnfoccaaDoorBits
import Derived.Test.YtpjljjajnfoccaaDoorRead
import Derived.Test.YtpjljjajnfoccaaDoorImpl0
import Derived.Test.YtpjljjajnfoccaaDoorHeldM
import Derived.BigQuiet
namespace Go.Proofs.YtpjljjajnfoccaaDoor
open Go.RowKit
set_option linter.unusedVariables false
set_option linter.unusedSimpArgs false
set_option maxRecDepth 20000
/-- The logarithm to base 10, floored; 0 of 0. -/
def logN (v : Nat) : Nat := Lib.nDigits v - 1
set_option maxHeartbeats 2000000 in
theorem log10_zero (b o : Nat) (x : N4) (w : World) (hx : At4 w b o x) (h0 : x.toNat = 0) :
    Calls Tryd.prog 44 #[.pointer (some ⟨b, o, none⟩)] w fun e w' => e = .returned (.int .u64 ((logN x.toNat : Nat) : Int)) ∧ w' = w := by
  have e0 : x = ⟨0#64, 0#64, 0#64, 0#64⟩ := toNat_inj h0
  have hb : x.bits = 0 := by rw [e0]; decide
  have hl : logN x.toNat = 0 := by rw [h0]; unfold logN; rw [Lib.nDigits_small (by omega)]
  go_enter Tryd.func44, Tryd.ntmps44
  go_wp2_with fail
  refine (bitLen_any b o x _ hx).mono ?_
  rintro e w1 ⟨rfl, rfl⟩
  rw [hb]
  go_wp2
  go_ret
  rw [hl]
  exact ⟨rfl, rfl⟩
set_option maxHeartbeats 2000000 in
theorem log10_small1 (b o : Nat) (x : N4) (w : World) (hx : At4 w b o x) (hp : Pows w) (h0 : x.toNat ≠ 0) (hs : x.bits ≤ 64) (hlt : x.toNat < 10 ^ logT x.bits) :
    Calls Tryd.prog 44 #[.pointer (some ⟨b, o, none⟩)] w fun e w' => e = .returned (.int .u64 ((logN x.toNat : Nat) : Int)) ∧ ∃ n, w' = w.drewN n := by
  obtain ⟨b1, b2, b3⟩ := bits_spec x
  obtain ⟨b4, b5⟩ := b2 h0
  obtain ⟨k1, k2, k3, k4⟩ := log_law b4 b3 b5 b1
  obtain ⟨t, ht⟩ : ∃ t, t = logT x.bits := ⟨_, rfl⟩
  have hT : (((x.bits : Nat) : Int) + 1) * 1233 / 4096 = (t : Int) := by rw [ht]; unfold logT; omega
  obtain ⟨k5, k6, k7⟩ := k3 hlt
  rw [← ht] at k5 k7
  have K7 : Hid (logN x.toNat = t - 1) := k7
  clear k6 k7
  have hxa : x.toNat = x.a.toNat := by
    have h64 : x.toNat < 2 ^ 64 := Nat.lt_of_lt_of_le b1 (Nat.pow_le_pow_right (by decide) hs)
    unfold N4.toNat at h64 ⊢
    omega
  have k2 := k2 hs
  rw [← ht] at hlt k2
  have p64 := hp.p64 t k2
  have hs' : ((x.bits : Nat) : Int) ≤ 64 := by omega
  have hti : (0 : Int) ≤ (t : Int) ∧ (t : Int) < 20 := by omega
  have hw1 : IntKind.u64.wrap ((t : Int) - 1) = ((t - 1 : Nat) : Int) := by rw [IntKind.wrap_u64]; omega
  have hdec : decide (U x.a < ((10 ^ t : Nat) : Int)) = true := decide_eq_true (by unfold U; rw [← hxa]; exact Int.ofNat_lt.2 hlt)
  clear hlt hxa hs
  have BL : Hid (Calls Tryd.prog 42 #[.pointer (some ⟨b, o, none⟩)] w fun e w' => e = .returned (.int .i64 (x.bits : Nat)) ∧ w' = w) := bitLen_any b o x w hx
  clear k1 k2 k3 k4 b1 b2 b3 b5 hp ht h0
  generalize x.bits = nb at *
  generalize logN x.toNat = lg at *
  generalize 10 ^ t = P at *
  have x0 := hx.c0
  clear hx
  go_enter Tryd.func44, Tryd.ntmps44
  go_wp2_with fail
  refine BL.out.mono ?_
  rintro e w1 ⟨rfl, rfl⟩
  go_wp2
  go_quiet (fail)
  go_wp2
  go_ret
  rw [K7.out]
  refine ⟨?_, _, rfl⟩
  first | rfl | (congr 2; done) | (congr 2; first | exact hw1 | exact hw0 | (rw [hw1]) | (rw [hw0]))
set_option maxHeartbeats 2000000 in
theorem log10_small0 (b o : Nat) (x : N4) (w : World) (hx : At4 w b o x) (hp : Pows w) (h0 : x.toNat ≠ 0) (hs : x.bits ≤ 64) (hlt : ¬ x.toNat < 10 ^ logT x.bits) :
    Calls Tryd.prog 44 #[.pointer (some ⟨b, o, none⟩)] w fun e w' => e = .returned (.int .u64 ((logN x.toNat : Nat) : Int)) ∧ ∃ n, w' = w.drewN n := by
  obtain ⟨b1, b2, b3⟩ := bits_spec x
  obtain ⟨b4, b5⟩ := b2 h0
  obtain ⟨k1, k2, k3, k4⟩ := log_law b4 b3 b5 b1
  obtain ⟨t, ht⟩ : ∃ t, t = logT x.bits := ⟨_, rfl⟩
  have hT : (((x.bits : Nat) : Int) + 1) * 1233 / 4096 = (t : Int) := by rw [ht]; unfold logT; omega
  have k7 := k4 hlt
  rw [← ht] at k7
  have K7 : Hid (logN x.toNat = t) := k7
  clear k7
  have hxa : x.toNat = x.a.toNat := by
    have h64 : x.toNat < 2 ^ 64 := Nat.lt_of_lt_of_le b1 (Nat.pow_le_pow_right (by decide) hs)
    unfold N4.toNat at h64 ⊢
    omega
  have k2 := k2 hs
  rw [← ht] at hlt k2
  have p64 := hp.p64 t k2
  have hs' : ((x.bits : Nat) : Int) ≤ 64 := by omega
  have hti : (0 : Int) ≤ (t : Int) ∧ (t : Int) < 20 := by omega
  have hw0 : IntKind.u64.wrap (t : Int) = (t : Int) := by rw [IntKind.wrap_u64]; omega
  have hdec : decide (U x.a < ((10 ^ t : Nat) : Int)) = false := decide_eq_false (by unfold U; rw [← hxa]; exact fun h => hlt (Int.ofNat_lt.1 h))
  have ht20 : decide ((20 : Int) ≤ (t : Int)) = false := decide_eq_false (by omega)
  clear hlt hxa hs
  have BL : Hid (Calls Tryd.prog 42 #[.pointer (some ⟨b, o, none⟩)] w fun e w' => e = .returned (.int .i64 (x.bits : Nat)) ∧ w' = w) := bitLen_any b o x w hx
  clear k1 k2 k3 k4 b1 b2 b3 b5 hp ht h0
  generalize x.bits = nb at *
  generalize logN x.toNat = lg at *
  generalize 10 ^ t = P at *
  have x0 := hx.c0
  clear hx
  go_enter Tryd.func44, Tryd.ntmps44
  go_wp2_with fail
  refine BL.out.mono ?_
  rintro e w1 ⟨rfl, rfl⟩
  go_wp2
  go_quiet (fail)
  go_wp2
  go_ret
  rw [K7.out]
  refine ⟨?_, _, rfl⟩
  first | rfl | (congr 2; done) | (congr 2; first | exact hw1 | exact hw0 | (rw [hw1]) | (rw [hw0]))
set_option maxHeartbeats 2000000 in
theorem log10_mid (b o : Nat) (x : N4) (w : World) (hx : At4 w b o x) (hp : Pows w) (h0 : x.toNat ≠ 0) (hs : ¬ x.bits ≤ 64) (hm : logT x.bits < 20) :
    Calls Tryd.prog 44 #[.pointer (some ⟨b, o, none⟩)] w fun e w' => e = .returned (.int .u64 ((logN x.toNat : Nat) : Int)) ∧ ∃ n, w' = w.drewN n := by
  obtain ⟨b1, b2, b3⟩ := bits_spec x
  obtain ⟨b4, b5⟩ := b2 h0
  obtain ⟨k1, k2, k3, k4⟩ := log_law b4 b3 b5 b1
  obtain ⟨t, ht⟩ : ∃ t, t = logT x.bits := ⟨_, rfl⟩
  have hT : (((x.bits : Nat) : Int) + 1) * 1233 / 4096 = (t : Int) := by rw [ht]; unfold logT; omega
  have hnlt : ¬ x.toNat < 10 ^ logT x.bits := fun h => by
    obtain ⟨_, k6, _⟩ := k3 h
    rcases k6 with k6 | k6 <;> omega
  have k7 := k4 hnlt
  rw [← ht] at k7 hm
  have K7 : Hid (logN x.toNat = t) := k7
  clear k7 hnlt
  have hs' : decide (((x.bits : Nat) : Int) ≤ 64) = false := decide_eq_false (by omega)
  have ht20 : decide ((20 : Int) ≤ (t : Int)) = false := decide_eq_false (by omega)
  have hw0 : IntKind.u64.wrap (t : Int) = (t : Int) := by rw [IntKind.wrap_u64]; omega
  clear hs
  have BL : Hid (Calls Tryd.prog 42 #[.pointer (some ⟨b, o, none⟩)] w fun e w' => e = .returned (.int .i64 (x.bits : Nat)) ∧ w' = w) := bitLen_any b o x w hx
  clear k1 k2 k3 k4 b1 b2 b3 b5 hp ht h0
  generalize x.bits = nb at *
  generalize logN x.toNat = lg at *
  clear hx
  go_enter Tryd.func44, Tryd.ntmps44
  go_wp2_with fail
  refine BL.out.mono ?_
  rintro e w1 ⟨rfl, rfl⟩
  go_wp2
  go_quiet (fail)
  go_wp2
  go_ret
  rw [K7.out]
  refine ⟨?_, _, rfl⟩
  first | rfl | (congr 2; done) | (congr 2; first | exact hw1 | exact hw0 | (rw [hw1]) | (rw [hw0]))
set_option maxHeartbeats 2000000 in
theorem log10_big1 (b o : Nat) (x : N4) (w : World) (hx : At4 w b o x) (hp : Pows w) (h0 : x.toNat ≠ 0) (hs : ¬ x.bits ≤ 64) (hm : 20 ≤ logT x.bits) (hlt : x.toNat < 10 ^ logT x.bits) :
    Calls Tryd.prog 44 #[.pointer (some ⟨b, o, none⟩)] w fun e w' => e = .returned (.int .u64 ((logN x.toNat : Nat) : Int)) ∧ ∃ n, w' = w.drewN n := by
  obtain ⟨b1, b2, b3⟩ := bits_spec x
  obtain ⟨b4, b5⟩ := b2 h0
  obtain ⟨k1, k2, k3, k4⟩ := log_law b4 b3 b5 b1
  obtain ⟨t, ht⟩ : ∃ t, t = logT x.bits := ⟨_, rfl⟩
  have hT : (((x.bits : Nat) : Int) + 1) * 1233 / 4096 = (t : Int) := by rw [ht]; unfold logT; omega
  obtain ⟨k5, k6, k7⟩ := k3 hlt
  rw [← ht] at k5 k7
  have hs' : decide (((x.bits : Nat) : Int) ≤ 64) = false := decide_eq_false (by omega)
  rw [← ht] at hm hlt k1
  obtain ⟨s, rfl⟩ : ∃ s, t = s + 20 := ⟨t - 20, by omega⟩
  have ht20 : (20 : Int) ≤ (s : Int) + 20 := by omega
  have ht20' : (s : Int) + 20 - 20 = (s : Int) := by omega
  have hsi : (0 : Int) ≤ (s : Int) ∧ (s : Int) < 60 := by omega
  have hws : IntKind.i64.wrap (s : Int) = (s : Int) := IntWalk.i64_in _ (by omega)
  have hpw := hp.pw s (by omega)
  have hval : (ofN (10 ^ (20 + s))).toNat = 10 ^ (s + 20) := by
    rw [ofN_toNat, Nat.add_comm 20 s]
    refine Nat.mod_eq_of_lt (Nat.lt_of_le_of_lt (Nat.pow_le_pow_right (by decide) (show s + 20 ≤ 77 by omega)) (by decide))
  have LT := Lib.hid (fun n => lt_any b o 1 (s * 4) x (ofN (10 ^ (20 + s))) (w.drewN n) (hx.drewN n) (hpw.drewN n))
  have K7 : Hid (logN x.toNat = s + 20 - 1) := k7
  have hl : x.ltc (ofN (10 ^ (20 + s))) = true := by rw [ltc_eq, hval]; exact decide_eq_true hlt
  rw [hl] at LT
  clear k6 k7 hlt hval hpw hl hs
  have hw1 : IntKind.u64.wrap (((s : Int) + 20) - 1) = ((s + 20 - 1 : Nat) : Int) := by rw [IntKind.wrap_u64]; omega
  have BL : Hid (Calls Tryd.prog 42 #[.pointer (some ⟨b, o, none⟩)] w fun e w' => e = .returned (.int .i64 (x.bits : Nat)) ∧ w' = w) := bitLen_any b o x w hx
  clear k1 k2 k3 k4 b1 b2 b3 b5 hp ht h0
  generalize x.bits = nb at *
  generalize logN x.toNat = lg at *
  clear hx
  go_enter Tryd.func44, Tryd.ntmps44
  go_wp2_with fail
  refine BL.out.mono ?_
  rintro e w1 ⟨rfl, rfl⟩
  go_wp2
  refine wp_region_noPanic ?_
  refine wp_region_held_drew (S := (fun w' => True)) (by kernel_rfl) (by trivial) (fun hHeld => ?_)
  refine hm_take (i := 0) (v := ?_) rfl rfl (by kernel_rfl) (by kernel_rfl) (by kernel_rfl) (fun _ _ _ h => h) rfl ?_ (by assumption) ?_
  rotate_left
  · (intro w hSw; (try dsimp only at hSw); go_simp; try with_reducible rfl)
  try simp only [Act.put, List.setIfInBounds_toArray, List.set_cons_zero, List.set_cons_succ]
  refine hm_take (i := 1) (v := ?_) rfl rfl (by kernel_rfl) (by kernel_rfl) (by kernel_rfl) (fun _ _ _ h => h) rfl ?_ (by assumption) ?_
  rotate_left
  · (intro w hSw; (try dsimp only at hSw); go_simp; try with_reducible rfl)
  try simp only [Act.put, List.setIfInBounds_toArray, List.set_cons_zero, List.set_cons_succ]
  refine hm_take (i := 2) (v := ?_) rfl rfl (by kernel_rfl) (by kernel_rfl) (by kernel_rfl) (fun _ _ _ h => h) rfl ?_ (by assumption) ?_
  rotate_left
  · (intro w hSw; (try dsimp only at hSw); go_simp; try with_reducible rfl)
  try simp only [Act.put, List.setIfInBounds_toArray, List.set_cons_zero, List.set_cons_succ]
  refine hm_skip (i := 3) rfl rfl (by kernel_rfl) (by kernel_rfl) (by kernel_rfl) (fun _ _ _ h => h) rfl (by assumption) ?_
  try simp only [Act.put, List.setIfInBounds_toArray, List.set_cons_zero, List.set_cons_succ]
  refine hm_skip (i := 4) rfl rfl (by kernel_rfl) (by kernel_rfl) (by kernel_rfl) (fun _ _ _ h => h) rfl (by assumption) ?_
  try simp only [Act.put, List.setIfInBounds_toArray, List.set_cons_zero, List.set_cons_succ]
  refine hm_skip (i := 5) rfl rfl (by kernel_rfl) (by kernel_rfl) (by kernel_rfl) (fun _ _ _ h => h) rfl (by assumption) ?_
  try simp only [Act.put, List.setIfInBounds_toArray, List.set_cons_zero, List.set_cons_succ]
  refine hm_skip (i := 6) rfl rfl (by kernel_rfl) (by kernel_rfl) (by kernel_rfl) (fun _ _ _ h => h) rfl (by assumption) ?_
  try simp only [Act.put, List.setIfInBounds_toArray, List.set_cons_zero, List.set_cons_succ]
  refine hm_skip (i := 7) rfl rfl (by kernel_rfl) (by kernel_rfl) (by kernel_rfl) (fun _ _ _ h => h) rfl (by assumption) ?_
  try simp only [Act.put, List.setIfInBounds_toArray, List.set_cons_zero, List.set_cons_succ]
  refine hm_skip (i := 8) rfl rfl (by kernel_rfl) (by kernel_rfl) (by kernel_rfl) (fun _ _ _ h => h) rfl (by assumption) ?_
  try simp only [Act.put, List.setIfInBounds_toArray, List.set_cons_zero, List.set_cons_succ]
  refine hm_skip (i := 9) rfl rfl (by kernel_rfl) (by kernel_rfl) (by kernel_rfl) (fun _ _ _ h => h) rfl (by assumption) ?_
  try simp only [Act.put, List.setIfInBounds_toArray, List.set_cons_zero, List.set_cons_succ]
  refine hm_skip (i := 10) rfl rfl (by kernel_rfl) (by kernel_rfl) (by kernel_rfl) (fun _ _ _ h => h) rfl (by assumption) ?_
  try simp only [Act.put, List.setIfInBounds_toArray, List.set_cons_zero, List.set_cons_succ]
  refine hm_take (i := 11) (v := ?_) rfl rfl (by kernel_rfl) (by kernel_rfl) (by kernel_rfl) (fun _ _ _ h => h) rfl ?_ (by assumption) ?_
  rotate_left
  · (intro w hSw; (try dsimp only at hSw); go_simp; try with_reducible rfl)
  try simp only [Act.put, List.setIfInBounds_toArray, List.set_cons_zero, List.set_cons_succ]
  refine hm_take (i := 12) (v := ?_) rfl rfl (by kernel_rfl) (by kernel_rfl) (by kernel_rfl) (fun _ _ _ h => h) rfl ?_ (by assumption) ?_
  rotate_left
  · (intro w hSw; (try dsimp only at hSw); go_simp; try with_reducible rfl)
  try simp only [Act.put, List.setIfInBounds_toArray, List.set_cons_zero, List.set_cons_succ]
  refine hm_take (i := 13) (v := ?_) rfl rfl (by kernel_rfl) (by kernel_rfl) (by kernel_rfl) (fun _ _ _ h => h) rfl ?_ (by assumption) ?_
  rotate_left
  · (intro w hSw; (try dsimp only at hSw); go_simp; try with_reducible rfl)
  try simp only [Act.put, List.setIfInBounds_toArray, List.set_cons_zero, List.set_cons_succ]
  refine hm_take (i := 14) (v := ?_) rfl rfl (by kernel_rfl) (by kernel_rfl) (by kernel_rfl) (fun _ _ _ h => h) rfl ?_ (by assumption) ?_
  rotate_left
  · (intro w hSw; (try dsimp only at hSw); go_simp; try with_reducible rfl)
  try simp only [Act.put, List.setIfInBounds_toArray, List.set_cons_zero, List.set_cons_succ]
  refine hm_take (i := 15) (v := ?_) rfl rfl (by kernel_rfl) (by kernel_rfl) (by kernel_rfl) (fun _ _ _ h => h) rfl ?_ (by assumption) ?_
  rotate_left
  · (intro w hSw; (try dsimp only at hSw); go_simp; try with_reducible rfl)
  try simp only [Act.put, List.setIfInBounds_toArray, List.set_cons_zero, List.set_cons_succ]
  refine hm_take (i := 16) (v := ?_) rfl rfl (by kernel_rfl) (by kernel_rfl) (by kernel_rfl) (fun _ _ _ h => h) rfl ?_ (by assumption) ?_
  rotate_left
  · (intro w hSw; (try dsimp only at hSw); go_simp; try with_reducible rfl)
  try simp only [Act.put, List.setIfInBounds_toArray, List.set_cons_zero, List.set_cons_succ]
  refine hm_take (i := 17) (v := ?_) rfl rfl (by kernel_rfl) (by kernel_rfl) (by kernel_rfl) (fun _ _ _ h => h) rfl ?_ (by assumption) ?_
  rotate_left
  · (intro w hSw; (try dsimp only at hSw); go_simp; try with_reducible rfl)
  try simp only [Act.put, List.setIfInBounds_toArray, List.set_cons_zero, List.set_cons_succ]
  refine hm_take (i := 18) (v := ?_) rfl rfl (by kernel_rfl) (by kernel_rfl) (by kernel_rfl) (fun _ _ _ h => h) rfl ?_ (by assumption) ?_
  rotate_left
  · (intro w hSw; (try dsimp only at hSw); go_simp; try with_reducible rfl)
  try simp only [Act.put, List.setIfInBounds_toArray, List.set_cons_zero, List.set_cons_succ]
  refine hm_take (i := 19) (v := ?_) rfl rfl (by kernel_rfl) (by kernel_rfl) (by kernel_rfl) (fun _ _ _ h => h) rfl ?_ (by assumption) ?_
  rotate_left
  · (intro w hSw; (try dsimp only at hSw); go_simp; try with_reducible rfl)
  try simp only [Act.put, List.setIfInBounds_toArray, List.set_cons_zero, List.set_cons_succ]
  refine hm_call (i := 20) rfl (by kernel_rfl) rfl (fun K hK => ?_)
  go_simp
  (go_at_call 70; refine (LT.out 1).mono ?_; rintro e w1 ⟨rfl, n1, rfl⟩)
  (try go_wp2_with fail)
  refine hK.out _ _ (by (try dsimp only); all_goals trivial) (fun hHeld => ?_)
  clear hK K
  try simp only [Act.put, List.setIfInBounds_toArray, List.set_cons_zero, List.set_cons_succ]
  refine hm_take (i := 21) (v := ?_) rfl rfl (by kernel_rfl) (by kernel_rfl) (by kernel_rfl) (fun _ _ _ h => h) rfl ?_ (by assumption) ?_
  rotate_left
  · (intro w hSw; (try dsimp only at hSw); go_simp; try with_reducible rfl)
  try simp only [Act.put, List.setIfInBounds_toArray, List.set_cons_zero, List.set_cons_succ]
  refine hm_take (i := 22) (v := ?_) rfl rfl (by kernel_rfl) (by kernel_rfl) (by kernel_rfl) (fun _ _ _ h => h) rfl ?_ (by assumption) ?_
  rotate_left
  · (intro w hSw; (try dsimp only at hSw); go_simp; try with_reducible rfl)
  try simp only [Act.put, List.setIfInBounds_toArray, List.set_cons_zero, List.set_cons_succ]
  refine wpAnyH_done (by kernel_rfl) ?_ _
  refine NoPanic.normal ?_
  go_wp2
  go_ret
  rw [K7.out]
  refine ⟨?_, _, rfl⟩
  first | rfl | (congr 2; done) | (congr 2; first | exact hw1 | exact hw0 | (rw [hw1]) | (rw [hw0]))
set_option maxHeartbeats 2000000 in
theorem log10_big0 (b o : Nat) (x : N4) (w : World) (hx : At4 w b o x) (hp : Pows w) (h0 : x.toNat ≠ 0) (hs : ¬ x.bits ≤ 64) (hm : 20 ≤ logT x.bits) (hlt : ¬ x.toNat < 10 ^ logT x.bits) :
    Calls Tryd.prog 44 #[.pointer (some ⟨b, o, none⟩)] w fun e w' => e = .returned (.int .u64 ((logN x.toNat : Nat) : Int)) ∧ ∃ n, w' = w.drewN n := by
  obtain ⟨b1, b2, b3⟩ := bits_spec x
  obtain ⟨b4, b5⟩ := b2 h0
  obtain ⟨k1, k2, k3, k4⟩ := log_law b4 b3 b5 b1
  obtain ⟨t, ht⟩ : ∃ t, t = logT x.bits := ⟨_, rfl⟩
  have hT : (((x.bits : Nat) : Int) + 1) * 1233 / 4096 = (t : Int) := by rw [ht]; unfold logT; omega
  have k7 := k4 hlt
  rw [← ht] at k7
  have hs' : decide (((x.bits : Nat) : Int) ≤ 64) = false := decide_eq_false (by omega)
  rw [← ht] at hm hlt k1
  obtain ⟨s, rfl⟩ : ∃ s, t = s + 20 := ⟨t - 20, by omega⟩
  have ht20 : (20 : Int) ≤ (s : Int) + 20 := by omega
  have ht20' : (s : Int) + 20 - 20 = (s : Int) := by omega
  have hsi : (0 : Int) ≤ (s : Int) ∧ (s : Int) < 60 := by omega
  have hws : IntKind.i64.wrap (s : Int) = (s : Int) := IntWalk.i64_in _ (by omega)
  have hpw := hp.pw s (by omega)
  have hval : (ofN (10 ^ (20 + s))).toNat = 10 ^ (s + 20) := by
    rw [ofN_toNat, Nat.add_comm 20 s]
    refine Nat.mod_eq_of_lt (Nat.lt_of_le_of_lt (Nat.pow_le_pow_right (by decide) (show s + 20 ≤ 77 by omega)) (by decide))
  have LT := Lib.hid (fun n => lt_any b o 1 (s * 4) x (ofN (10 ^ (20 + s))) (w.drewN n) (hx.drewN n) (hpw.drewN n))
  have K7 : Hid (logN x.toNat = s + 20) := k7
  have hl : x.ltc (ofN (10 ^ (20 + s))) = false := by rw [ltc_eq, hval]; exact decide_eq_false hlt
  rw [hl] at LT
  clear k7 hlt hval hpw hl hs
  have hw0 : IntKind.u64.wrap ((s : Int) + 20) = ((s + 20 : Nat) : Int) := by rw [IntKind.wrap_u64]; omega
  have BL : Hid (Calls Tryd.prog 42 #[.pointer (some ⟨b, o, none⟩)] w fun e w' => e = .returned (.int .i64 (x.bits : Nat)) ∧ w' = w) := bitLen_any b o x w hx
  clear k1 k2 k3 k4 b1 b2 b3 b5 hp ht h0
  generalize x.bits = nb at *
  generalize logN x.toNat = lg at *
  clear hx
  go_enter Tryd.func44, Tryd.ntmps44
  go_wp2_with fail
  refine BL.out.mono ?_
  rintro e w1 ⟨rfl, rfl⟩
  go_wp2
  refine wp_region_noPanic ?_
  refine wp_region_held_drew (S := (fun w' => True)) (by kernel_rfl) (by trivial) (fun hHeld => ?_)
  refine hm_take (i := 0) (v := ?_) rfl rfl (by kernel_rfl) (by kernel_rfl) (by kernel_rfl) (fun _ _ _ h => h) rfl ?_ (by assumption) ?_
  rotate_left
  · (intro w hSw; (try dsimp only at hSw); go_simp; try with_reducible rfl)
  try simp only [Act.put, List.setIfInBounds_toArray, List.set_cons_zero, List.set_cons_succ]
  refine hm_take (i := 1) (v := ?_) rfl rfl (by kernel_rfl) (by kernel_rfl) (by kernel_rfl) (fun _ _ _ h => h) rfl ?_ (by assumption) ?_
  rotate_left
  · (intro w hSw; (try dsimp only at hSw); go_simp; try with_reducible rfl)
  try simp only [Act.put, List.setIfInBounds_toArray, List.set_cons_zero, List.set_cons_succ]
  refine hm_take (i := 2) (v := ?_) rfl rfl (by kernel_rfl) (by kernel_rfl) (by kernel_rfl) (fun _ _ _ h => h) rfl ?_ (by assumption) ?_
  rotate_left
  · (intro w hSw; (try dsimp only at hSw); go_simp; try with_reducible rfl)
  try simp only [Act.put, List.setIfInBounds_toArray, List.set_cons_zero, List.set_cons_succ]
  refine hm_skip (i := 3) rfl rfl (by kernel_rfl) (by kernel_rfl) (by kernel_rfl) (fun _ _ _ h => h) rfl (by assumption) ?_
  try simp only [Act.put, List.setIfInBounds_toArray, List.set_cons_zero, List.set_cons_succ]
  refine hm_skip (i := 4) rfl rfl (by kernel_rfl) (by kernel_rfl) (by kernel_rfl) (fun _ _ _ h => h) rfl (by assumption) ?_
  try simp only [Act.put, List.setIfInBounds_toArray, List.set_cons_zero, List.set_cons_succ]
  refine hm_skip (i := 5) rfl rfl (by kernel_rfl) (by kernel_rfl) (by kernel_rfl) (fun _ _ _ h => h) rfl (by assumption) ?_
  try simp only [Act.put, List.setIfInBounds_toArray, List.set_cons_zero, List.set_cons_succ]
  refine hm_skip (i := 6) rfl rfl (by kernel_rfl) (by kernel_rfl) (by kernel_rfl) (fun _ _ _ h => h) rfl (by assumption) ?_
  try simp only [Act.put, List.setIfInBounds_toArray, List.set_cons_zero, List.set_cons_succ]
  refine hm_skip (i := 7) rfl rfl (by kernel_rfl) (by kernel_rfl) (by kernel_rfl) (fun _ _ _ h => h) rfl (by assumption) ?_
  try simp only [Act.put, List.setIfInBounds_toArray, List.set_cons_zero, List.set_cons_succ]
  refine hm_skip (i := 8) rfl rfl (by kernel_rfl) (by kernel_rfl) (by kernel_rfl) (fun _ _ _ h => h) rfl (by assumption) ?_
  try simp only [Act.put, List.setIfInBounds_toArray, List.set_cons_zero, List.set_cons_succ]
  refine hm_skip (i := 9) rfl rfl (by kernel_rfl) (by kernel_rfl) (by kernel_rfl) (fun _ _ _ h => h) rfl (by assumption) ?_
  try simp only [Act.put, List.setIfInBounds_toArray, List.set_cons_zero, List.set_cons_succ]
  refine hm_skip (i := 10) rfl rfl (by kernel_rfl) (by kernel_rfl) (by kernel_rfl) (fun _ _ _ h => h) rfl (by assumption) ?_
  try simp only [Act.put, List.setIfInBounds_toArray, List.set_cons_zero, List.set_cons_succ]
  refine hm_take (i := 11) (v := ?_) rfl rfl (by kernel_rfl) (by kernel_rfl) (by kernel_rfl) (fun _ _ _ h => h) rfl ?_ (by assumption) ?_
  rotate_left
  · (intro w hSw; (try dsimp only at hSw); go_simp; try with_reducible rfl)
  try simp only [Act.put, List.setIfInBounds_toArray, List.set_cons_zero, List.set_cons_succ]
  refine hm_take (i := 12) (v := ?_) rfl rfl (by kernel_rfl) (by kernel_rfl) (by kernel_rfl) (fun _ _ _ h => h) rfl ?_ (by assumption) ?_
  rotate_left
  · (intro w hSw; (try dsimp only at hSw); go_simp; try with_reducible rfl)
  try simp only [Act.put, List.setIfInBounds_toArray, List.set_cons_zero, List.set_cons_succ]
  refine hm_take (i := 13) (v := ?_) rfl rfl (by kernel_rfl) (by kernel_rfl) (by kernel_rfl) (fun _ _ _ h => h) rfl ?_ (by assumption) ?_
  rotate_left
  · (intro w hSw; (try dsimp only at hSw); go_simp; try with_reducible rfl)
  try simp only [Act.put, List.setIfInBounds_toArray, List.set_cons_zero, List.set_cons_succ]
  refine hm_take (i := 14) (v := ?_) rfl rfl (by kernel_rfl) (by kernel_rfl) (by kernel_rfl) (fun _ _ _ h => h) rfl ?_ (by assumption) ?_
  rotate_left
  · (intro w hSw; (try dsimp only at hSw); go_simp; try with_reducible rfl)
  try simp only [Act.put, List.setIfInBounds_toArray, List.set_cons_zero, List.set_cons_succ]
  refine hm_take (i := 15) (v := ?_) rfl rfl (by kernel_rfl) (by kernel_rfl) (by kernel_rfl) (fun _ _ _ h => h) rfl ?_ (by assumption) ?_
  rotate_left
  · (intro w hSw; (try dsimp only at hSw); go_simp; try with_reducible rfl)
  try simp only [Act.put, List.setIfInBounds_toArray, List.set_cons_zero, List.set_cons_succ]
  refine hm_take (i := 16) (v := ?_) rfl rfl (by kernel_rfl) (by kernel_rfl) (by kernel_rfl) (fun _ _ _ h => h) rfl ?_ (by assumption) ?_
  rotate_left
  · (intro w hSw; (try dsimp only at hSw); go_simp; try with_reducible rfl)
  try simp only [Act.put, List.setIfInBounds_toArray, List.set_cons_zero, List.set_cons_succ]
  refine hm_take (i := 17) (v := ?_) rfl rfl (by kernel_rfl) (by kernel_rfl) (by kernel_rfl) (fun _ _ _ h => h) rfl ?_ (by assumption) ?_
  rotate_left
  · (intro w hSw; (try dsimp only at hSw); go_simp; try with_reducible rfl)
  try simp only [Act.put, List.setIfInBounds_toArray, List.set_cons_zero, List.set_cons_succ]
  refine hm_take (i := 18) (v := ?_) rfl rfl (by kernel_rfl) (by kernel_rfl) (by kernel_rfl) (fun _ _ _ h => h) rfl ?_ (by assumption) ?_
  rotate_left
  · (intro w hSw; (try dsimp only at hSw); go_simp; try with_reducible rfl)
  try simp only [Act.put, List.setIfInBounds_toArray, List.set_cons_zero, List.set_cons_succ]
  refine hm_take (i := 19) (v := ?_) rfl rfl (by kernel_rfl) (by kernel_rfl) (by kernel_rfl) (fun _ _ _ h => h) rfl ?_ (by assumption) ?_
  rotate_left
  · (intro w hSw; (try dsimp only at hSw); go_simp; try with_reducible rfl)
  try simp only [Act.put, List.setIfInBounds_toArray, List.set_cons_zero, List.set_cons_succ]
  refine hm_call (i := 20) rfl (by kernel_rfl) rfl (fun K hK => ?_)
  go_simp
  (go_at_call 70; refine (LT.out 1).mono ?_; rintro e w1 ⟨rfl, n1, rfl⟩)
  (try go_wp2_with fail)
  refine hK.out _ _ (by (try dsimp only); all_goals trivial) (fun hHeld => ?_)
  clear hK K
  try simp only [Act.put, List.setIfInBounds_toArray, List.set_cons_zero, List.set_cons_succ]
  refine hm_take (i := 21) (v := ?_) rfl rfl (by kernel_rfl) (by kernel_rfl) (by kernel_rfl) (fun _ _ _ h => h) rfl ?_ (by assumption) ?_
  rotate_left
  · (intro w hSw; (try dsimp only at hSw); go_simp; try with_reducible rfl)
  try simp only [Act.put, List.setIfInBounds_toArray, List.set_cons_zero, List.set_cons_succ]
  refine hm_take (i := 22) (v := ?_) rfl rfl (by kernel_rfl) (by kernel_rfl) (by kernel_rfl) (fun _ _ _ h => h) rfl ?_ (by assumption) ?_
  rotate_left
  · (intro w hSw; (try dsimp only at hSw); go_simp; try with_reducible rfl)
  try simp only [Act.put, List.setIfInBounds_toArray, List.set_cons_zero, List.set_cons_succ]
  refine wpAnyH_done (by kernel_rfl) ?_ _
  refine NoPanic.normal ?_
  go_wp2
  go_ret
  rw [K7.out]
  refine ⟨?_, _, rfl⟩
  first | rfl | (congr 2; done) | (congr 2; first | exact hw1 | exact hw0 | (rw [hw1]) | (rw [hw0]))
theorem log10_any (b o : Nat) (x : N4) (w : World) (hx : At4 w b o x) (hp : Pows w) :
    Calls Tryd.prog 44 #[.pointer (some ⟨b, o, none⟩)] w fun e w' => e = .returned (.int .u64 ((logN x.toNat : Nat) : Int)) ∧ ∃ n, w' = w.drewN n := by
  by_cases h0 : x.toNat = 0
  · exact (log10_zero b o x w hx h0).mono fun e w' ⟨h1, h2⟩ => ⟨h1, 0, h2⟩
  by_cases hs : x.bits ≤ 64
  · by_cases hlt : x.toNat < 10 ^ logT x.bits
    · exact log10_small1 b o x w hx hp h0 hs hlt
    · exact log10_small0 b o x w hx hp h0 hs hlt
  · by_cases hm : logT x.bits < 20
    · exact log10_mid b o x w hx hp h0 hs hm
    · by_cases hlt : x.toNat < 10 ^ logT x.bits
      · exact log10_big1 b o x w hx hp h0 hs (by omega) hlt
      · exact log10_big0 b o x w hx hp h0 hs (by omega) hlt
theorem implLog10_any (x : N4) (w : World) (hp : Pows w) : Calls Tryd.prog 22 #[x.v] w (RetBel (.int .i64 ((logN x.toNat : Nat) : Int)) w) := by
  have hsmall : logN x.toNat ≤ 77 := by
    unfold logN
    by_cases h0 : x.toNat = 0
    · rw [h0, Lib.nDigits_small (by omega)]; omega
    · obtain ⟨b1, b2, b3⟩ := bits_spec x
      obtain ⟨b4, b5⟩ := b2 h0
      obtain ⟨k1, _, k3, k4⟩ := log_law b4 b3 b5 b1
      by_cases hlt : x.toNat < 10 ^ logT x.bits
      · have := (k3 hlt).2.2; omega
      · have := k4 hlt; omega
  have hw : IntKind.i64.wrap ((logN x.toNat : Nat) : Int) = ((logN x.toNat : Nat) : Int) := IntWalk.i64_in _ (by omega)
  have LG : Hid (∀ b o w, At4 w b o x → Pows w → Calls Tryd.prog 44 #[.pointer (some ⟨b, o, none⟩)] w fun e w' => e = .returned (.int .u64 ((logN x.toNat : Nat) : Int)) ∧ ∃ n, w' = w.drewN n) := fun b o w h k => log10_any b o x w h k
  generalize logN x.toNat = lg at *
  go_enter Tryd.func22, Tryd.ntmps22
  go_wp2_with fail
  refine (intOf_any x _).mono ?_
  rintro e w1 ⟨B, rfl, m⟩
  have hb := bel_trans (bel_alloc (bel_refl w) _) m.bel
  go_wp2_with fail
  refine (LG.out B 0 _ m.at4 (hp.bel hb)).mono ?_
  rintro e w2 ⟨rfl, n, rfl⟩
  go_wp2
  go_ret
  exact retBel rfl (bel_drewN hb n)
end Go.Proofs.YtpjljjajnfoccaaDoor
