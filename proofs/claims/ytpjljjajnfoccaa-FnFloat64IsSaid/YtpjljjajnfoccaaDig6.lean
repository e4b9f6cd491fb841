/-
  The reference's Times, bit and Divide, by worth.
-/
import Derived.Test.YtpjljjajnfoccaaMath
namespace Go.Proofs.Ytpjljjajnfoccaa
open Go.RowKit
set_option linter.unusedVariables false
set_option linter.unusedSimpArgs false
theorem at_quiet (v : Value) (l : List Nat) (i : Int) (w : World) (hs : Sl w v l) (hl : l.length ≤ 1000000) (h0 : 0 ≤ i) (h1 : i ≤ 1000000) :
    Calls Try.prog 49 #[v, .int .i64 i] w fun e w' => e = .returned (.int .i64 (dig l i.toNat : Nat)) ∧ w' = w :=
  (at_any v l i w hs hl h0 h1).mono fun _ _ ⟨he, hw⟩ => ⟨he, hw.symm⟩
theorem Try.infoInt6 : (Try.prog.info? 3).map (fun i => (i.zero, i.size, i.bytes)) = some (some (.int .i64 0), 1, 8) := by kernel_rfl
theorem i64_shr_nat (x k : Nat) (hk : k ≤ 64) : Op.shift .shr .i64 (x : Int) .i64 (k : Int) = pure (.int .i64 ((x / 2 ^ k : Nat) : Int)) := by
  rw [shift_shr_any _ _ _ _ (by omega)]
  congr 2
  rw [Int.toNat_natCast, show min k (IntKind.i64.bits) = k from Nat.min_eq_left hk]
  simp
theorem i64_and1 (x : Nat) (h : x < 9223372036854775808) : bits .and .i64 (x : Int) 1 = ((x % 2 : Nat) : Int) := by
  have h1 := (bits_nat .i64 63 (by decide) (fun n h0 h1 => IntWalk.i64_in n (by omega)) x 1 (by omega) (by decide)).1
  have e : x &&& 1 = x % 2 := Nat.and_two_pow_sub_one_eq_mod x 1
  rw [e] at h1
  exact h1
set_option maxHeartbeats 1000000 in
theorem bit_dg (v : Value) (N L : Nat) (n : Nat) (w : World) (h : Dg w v N L) (hL : L ≤ 100000) (hn : n ≤ 1000000) :
    Calls Try.prog 47 #[v, .int .i64 (n : Int)] w fun e w' => e = .returned (.int .i64 ((N / 2 ^ n % 2 : Nat) : Int)) ∧ w = w' := by
  have H := Lib.hid h
  clear h
  have h0 : (0 : Int) ≤ (n : Int) := by omega
  obtain ⟨d, hd⟩ : ∃ d, d = N / 65536 ^ (n / 16) % 65536 := ⟨_, rfl⟩
  have hdl : d < 65536 := by rw [hd]; exact Nat.mod_lt _ (by decide)
  have A0 : ∀ w, Dg w v N L → Calls Try.prog 49 #[v, .int .i64 ((n : Int) / 16)] w fun e w' => e = .returned (.int .i64 (d : Int)) ∧ w = w' := fun w h => by
    have := at_dg v N L ((n : Int) / 16) w h hL (by omega) (by omega)
    rw [show ((n : Int) / 16).toNat = n / 16 by omega, ← hd] at this
    exact this
  have A := Lib.hid A0
  have s1 : (d : Int) / 2 ^ (n % 16) = ((d / 2 ^ (n % 16) : Nat) : Int) := by simp
  obtain ⟨q, hq⟩ : ∃ q, q = d / 2 ^ (n % 16) := ⟨_, rfl⟩
  have hql : q < 65536 := by rw [hq]; exact Nat.lt_of_le_of_lt (Nat.div_le_self _ _) hdl
  rw [← hq] at s1
  have s2 := i64_and1 q (by omega)
  have E : Hid (q % 2 = N / 2 ^ n % 2) := by show _ = _; rw [hq, hd, bit_of]
  clear A0 hd hq
  rw [← E.out]
  clear E
  go_enter Try.func47, Try.ntmps47
  go_wp2_with (go_at_call 49; refine (A.out _ H.out).mono ?_; rintro e w' ⟨rfl, rfl⟩)
  go_ret
  exact ⟨rfl, rfl⟩
/-- Two new slices of digits. -/
def RetDg2 (q r L M : Nat) (w : World) (e : Ending) (w' : World) : Prop := ∃ v u, e = .returned (.tuple #[v, u]) ∧ Dg w' v q L ∧ Dg w' u r M ∧ Below w.heap.size w w'
theorem Dg.one {w : World} {B : Nat} (h : w.cell? ⟨B, 0, none⟩ = some (.int .i64 1)) : Dg w (.slice (some ⟨B, 0, none⟩) 1 1) 1 1 := by
  refine ⟨[1], ⟨some ⟨B, 0, none⟩, 1, rfl, Nat.le_refl _, fun i d hd => ⟨B, 0, rfl, ?_⟩⟩, ?_, rfl, Nat.le_refl _⟩
  · match i with
    | 0 => simp at hd; subst hd; exact h
    | i + 1 => simp at hd
  · intro d hd; simp at hd; omega
theorem cmpN_ge (a b : Nat) : decide (0 ≤ cmpN a b) = decide (b ≤ a) := by
  unfold cmpN
  by_cases h : a < b
  · rw [if_pos h, decide_eq_false (show ¬ b ≤ a by omega)]; rfl
  · rw [if_neg h, decide_eq_true (show b ≤ a by omega)]; split <;> rfl
theorem i64_orbit (d r : Nat) (hd : d < 65536) (hr : r < 16) (hz : d % 2 ^ (r + 1) = 0) : bits .or .i64 (d : Int) ((2 ^ r : Nat) : Int) = ((d + 2 ^ r : Nat) : Int) := by
  obtain ⟨h1, h2⟩ := or_bit d r hd hr hz
  have hp : 2 ^ r < 2 ^ 63 := Nat.pow_lt_pow_right (by decide) (by omega)
  rw [(bits_nat .i64 63 (by decide) (fun n h0 h1 => IntWalk.i64_in n (by omega)) d (2 ^ r) (by omega) hp).2, h2]
end Go.Proofs.Ytpjljjajnfoccaa
