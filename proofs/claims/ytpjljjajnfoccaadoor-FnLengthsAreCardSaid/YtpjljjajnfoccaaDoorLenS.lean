/-
  The reference's Length, by worth.
-/
import Derived.Test.YtpjljjajnfoccaaDoorDig7
namespace Go.Proofs.YtpjljjajnfoccaaDoor
open Go.RowKit
set_option linter.unusedVariables false
set_option linter.unusedSimpArgs false
set_option maxRecDepth 20000
/-- How many bits a natural number has: the least n with v < 2 ^ n. -/
theorem len_unique {v n m : Nat} (h1 : v < 2 ^ n) (h2 : v < 2 ^ m) (h3 : n = 0 ∨ 2 ^ (n - 1) ≤ v) (h4 : m = 0 ∨ 2 ^ (m - 1) ≤ v) : n = m := by
  rcases Nat.lt_trichotomy n m with h | h | h
  · rcases h4 with h4 | h4
    · omega
    · have := Nat.pow_le_pow_right (n := 2) (by decide) (show n ≤ m - 1 by omega); omega
  · exact h
  · rcases h3 with h3 | h3
    · omega
    · have := Nat.pow_le_pow_right (n := 2) (by decide) (show m ≤ n - 1 by omega); omega
theorem bit_top {v n : Nat} (h : v < 2 ^ (n + 1)) : (v / 2 ^ n % 2 = 1 → 2 ^ n ≤ v) ∧ (v / 2 ^ n % 2 = 0 → v < 2 ^ n) := by
  have hp : 0 < 2 ^ n := Nat.pow_pos (by decide)
  have hlt : v / 2 ^ n < 2 := Nat.div_lt_of_lt_mul (by rw [Nat.pow_succ] at h; exact h)
  rw [Nat.mod_eq_of_lt hlt]
  refine ⟨fun h1 => ?_, fun h1 => ?_⟩
  · rcases Nat.lt_or_ge v (2 ^ n) with h2 | h2
    · rw [Nat.div_eq_of_lt h2] at h1; cases h1
    · exact h2
  · rcases Nat.lt_or_ge v (2 ^ n) with h2 | h2
    · exact h2
    · have := Nat.div_pos h2 hp; omega
set_option maxHeartbeats 1000000 in
theorem length_dg (v : Value) (N L n : Nat) (w : World) (h : Dg w v N L) (hL : L ≤ 1000) (h1 : N < 2 ^ n) (h2 : n = 0 ∨ 2 ^ (n - 1) ≤ N) :
    Calls Tryd.prog 18 #[v] w fun e w' => e = .returned (.int .i64 (n : Int)) ∧ w = w' := by
  have hlt := h.lt
  obtain ⟨l, hs, hd, hv, hl⟩ := h
  have hs0 := hs
  obtain ⟨A, c, rfl, hc, _⟩ := hs
  obtain ⟨M, hM⟩ : ∃ M, M = l.length := ⟨_, rfl⟩
  have BIT : Hid (∀ k : Nat, k ≤ 100000 → Calls Tryd.prog 40 #[.slice A M c, .int .i64 (k : Int)] w fun e w' => e = .returned (.int .i64 ((N / 2 ^ k % 2 : Nat) : Int)) ∧ w = w') := fun k hk => by
    rw [hM]
    exact bit_dg _ N L k w ⟨l, hs0, hd, hv, hl⟩ (by omega) (by omega)
  have hNM : Hid (N < 2 ^ (16 * M)) := by
    show N < _
    rw [← hv, hM, Nat.pow_mul]
    exact vlow_lt hd l.length
  rw [← hM]
  have hML : M ≤ 1000 := by omega
  have HU := Lib.hid (fun m => len_unique (n := n) (m := m) h1)
  have H2 := Lib.hid h2
  clear hlt hv hs0 hd hc hM hl h1 h2
  go_enter Tryd.func18, Tryd.ntmps18
  go_wp2
  go_loop [3] (fun t => ∃ k : Nat, k ≤ 16 * M ∧ t = .int .i64 (k : Int) ∧ Hid (N < 2 ^ k)) (fun t => (intOf t).toNat)
  case atStart => exact ⟨16 * M, Nat.le_refl _, by go_num, hNM⟩
  case round =>
    obtain ⟨k, hk, rfl, hN⟩ := hrel
    rcases Nat.eq_zero_or_pos k with h0 | h0
    · subst h0
      have hn : n = 0 := HU.out 0 hN.out H2.out (.inl rfl)
      subst hn
      go_wp2
      go_ret
      exact ⟨rfl, rfl⟩
    · obtain ⟨j, rfl⟩ : ∃ j, k = j + 1 := ⟨k - 1, by omega⟩
      have hj : ((j + 1 : Nat) : Int) - 1 = (j : Int) := by omega
      obtain ⟨b1, b0⟩ := bit_top hN.out
      have hb2 : N / 2 ^ j % 2 = 0 ∨ N / 2 ^ j % 2 = 1 := by omega
      rcases hb2 with hb | hb
      · have BJ := Lib.hid (BIT.out j (by omega))
        rw [hb] at BJ
        have HN := Lib.hid (b0 hb)
        clear b0 b1 hb BIT
        go_wp2_with (go_at_call 40; refine BJ.out.mono ?_; rintro e w' ⟨rfl, rfl⟩)
        go_round
        case rel => exact ⟨j, by omega, rfl, HN⟩
        case measure => simp [intOf] <;> omega
      · have BJ := Lib.hid (BIT.out j (by omega))
        rw [hb] at BJ
        have hn : n = j + 1 := HU.out (j + 1) hN.out H2.out (.inr (by rw [Nat.add_sub_cancel]; exact b1 hb))
        subst hn
        clear b0 b1 hb BIT
        go_wp2_with (go_at_call 40; refine BJ.out.mono ?_; rintro e w' ⟨rfl, rfl⟩)
        go_ret
        exact ⟨rfl, rfl⟩
end Go.Proofs.YtpjljjajnfoccaaDoor
