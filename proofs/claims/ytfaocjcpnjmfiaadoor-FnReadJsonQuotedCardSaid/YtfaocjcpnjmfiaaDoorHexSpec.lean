/-
  The reference's IsPrefixed and hexDigit.
-/
import Derived.Test.YtfaocjcpnjmfiaaDoorHexMath
import Derived.Test.YtfaocjcpnjmfiaaDoorImpl0
set_option linter.unusedVariables false
set_option linter.unusedSimpArgs false
namespace Go.Proofs.YtfaocjcpnjmfiaaDoor
open Go.RowKit
set_option maxRecDepth 20000
/-- The digit's worth, -1 of what is none. -/
def digV (c : UInt8) : Int := if nibOf c < 16 then (nibOf c : Int) else -1
set_option maxHeartbeats 2000000 in
theorem hexDigit_any (c : UInt8) (w : World) : Calls Tryd.prog 32 #[.int .u8 (c.toNat : Int)] w fun e w' => e = .returned (.int .i64 (digV c)) ∧ w' = w := by
  obtain ⟨v, hv⟩ : ∃ v, v = digV c := ⟨_, rfl⟩
  rw [← hv]
  have hc := c.toNat_lt
  unfold digV nibOf at hv
  generalize c.toNat = n at *
  by_cases h1 : 48 ≤ n ∧ n ≤ 57
  · rw [if_pos h1, if_pos (by omega)] at hv
    have a1 : (48 : Int) ≤ (n : Int) := by omega
    have a2 : (n : Int) ≤ 57 := by omega
    have a3 : IntKind.u8.wrap ((n : Int) - 48) = v := by rw [hv]; simp [IntKind.wrap, IntKind.bits, IntKind.signed]; omega
    have a4 : IntKind.i64.wrap v = v := IntWalk.i64_in _ (by omega)
    have HV := Lib.hid hv
    clear hv h1
    go_enter Tryd.func32, Tryd.ntmps32
    go_wp2
    go_ret
    exact ⟨by first | rfl | (have := HV.out; simp; omega), rfl⟩
  · rw [if_neg h1] at hv
    by_cases h2 : 97 ≤ n ∧ n ≤ 102
    · rw [if_pos h2, if_pos (by omega)] at hv
      have a1 : (48 : Int) ≤ (n : Int) := by omega
      have a2 : ¬ (n : Int) ≤ 57 := by omega
      have b1 : (97 : Int) ≤ (n : Int) := by omega
      have b2 : (n : Int) ≤ 102 := by omega
      have HV := Lib.hid hv
      clear hv h1 h2
      go_enter Tryd.func32, Tryd.ntmps32
      go_wp2
      go_ret
      exact ⟨by have h := HV.out; simp; omega, rfl⟩
    · rw [if_neg h2] at hv
      by_cases h3 : 65 ≤ n ∧ n ≤ 70
      · rw [if_pos h3, if_pos (by omega)] at hv
        have a1 : (48 : Int) ≤ (n : Int) := by omega
        have a2 : ¬ (n : Int) ≤ 57 := by omega
        have b1 : ¬ (97 : Int) ≤ (n : Int) := by omega
        have c1 : (65 : Int) ≤ (n : Int) := by omega
        have c2 : (n : Int) ≤ 70 := by omega
        have HV := Lib.hid hv
        clear hv h1 h2 h3
        go_enter Tryd.func32, Tryd.ntmps32
        go_wp2
        go_ret
        exact ⟨by have h := HV.out; simp; omega, rfl⟩
      · rw [if_neg h3, if_neg (by omega)] at hv
        subst hv
        have k1 : (¬ (48 : Int) ≤ (n : Int)) ∨ ((48 : Int) ≤ (n : Int) ∧ ¬ (n : Int) ≤ 57) := by omega
        have k2 : (¬ (97 : Int) ≤ (n : Int)) ∨ ((97 : Int) ≤ (n : Int) ∧ ¬ (n : Int) ≤ 102) := by omega
        have k3 : (¬ (65 : Int) ≤ (n : Int)) ∨ ((65 : Int) ≤ (n : Int) ∧ ¬ (n : Int) ≤ 70) := by omega
        clear h1 h2 h3
        rcases k1 with k1 | ⟨k1, k1'⟩ <;> rcases k2 with k2 | ⟨k2, k2'⟩ <;> rcases k3 with k3 | ⟨k3, k3'⟩ <;> first
          | omega
          | (go_enter Tryd.func32, Tryd.ntmps32
             go_wp2
             go_ret
             exact ⟨rfl, rfl⟩)
set_option maxHeartbeats 2000000 in
theorem isPrefixed_any (s : List UInt8) (w : World) : Calls Tryd.prog 21 #[.string ⟨s.toArray⟩] w fun e w' => e = .returned (.bool (isPre s)) ∧ w' = w := by
  rcases s with _ | ⟨c0, _ | ⟨c1, t⟩⟩
  · go_enter Tryd.func21, Tryd.ntmps21
    go_wp2
    go_ret
    exact ⟨rfl, rfl⟩
  · go_enter Tryd.func21, Tryd.ntmps21
    go_wp2
    go_ret
    exact ⟨rfl, rfl⟩
  · have hg0 : ∀ h, (⟨(c0 :: c1 :: t).toArray⟩ : ByteArray)[0]'h = c0 := fun _ => rfl
    have hg1 : ∀ h, (⟨(c0 :: c1 :: t).toArray⟩ : ByteArray)[1]'h = c1 := fun _ => rfl
    have n1 : (2 : Int) ≤ (t.length : Int) + 1 + 1 := by omega
    have v8 : ∀ (c d : UInt8), ((c.toNat : Int) == (d.toNat : Int)) = (c == d) := fun c d => by
      by_cases h : c = d
      · subst h; simp
      · have : c.toNat ≠ d.toNat := fun e => h (UInt8.toNat.inj e)
        have e1 : (c == d) = false := by simp [h]
        rw [e1]
        simp; omega
    have q0 : ((c0.toNat : Int) == 48) = (c0 == 48) := v8 c0 48
    have q1 : ((c1.toNat : Int) == 120) = (c1 == 120) := v8 c1 120
    have q2 : ((c1.toNat : Int) == 88) = (c1 == 88) := v8 c1 88
    have hp : isPre (c0 :: c1 :: t) = (c0 == 48 && (c1 == 120 || c1 == 88)) := rfl
    rw [hp]
    clear hp v8
    cases k0 : (c0 == 48) <;> cases k1 : (c1 == 120) <;> cases k2 : (c1 == 88) <;> rw [k0] at q0 <;> rw [k1] at q1 <;> rw [k2] at q2 <;> clear k0 k1 k2
    all_goals
      go_enter Tryd.func21, Tryd.ntmps21
      go_wp2
      go_ret
      exact ⟨rfl, rfl⟩
end Go.Proofs.YtfaocjcpnjmfiaaDoor
