/-
  uint256's checkNumberS; the six sentinels of reading; errors.Is among them; codeOf.
-/
import Derived.Test.YtbgmeppidedfbaaDoorHexMath
import Derived.Test.YtbgmeppidedfbaaDoorImpl0
import Derived.LaidEql
import Derived.Stop.Asserts
import Derived.RowKitTokens
import Derived.WalkKit
namespace Go.Proofs.YtbgmeppidedfbaaDoor
open Go.RowKit Go.Extern.Stop Go.Stop Go.Extern
set_option linter.unusedVariables false
set_option linter.unusedSimpArgs false
set_option maxRecDepth 20000
/-- The six sentinels: what the variables hold. -/
structure HexE (a : Nat → Addr) (w : World) : Prop where
  e1 : w.cell? ⟨0, 0, none⟩ = some (.iface 132 (.pointer (some (a 1))))
  e2 : w.cell? ⟨1, 0, none⟩ = some (.iface 132 (.pointer (some (a 2))))
  e3 : w.cell? ⟨2, 0, none⟩ = some (.iface 132 (.pointer (some (a 3))))
  e4 : w.cell? ⟨3, 0, none⟩ = some (.iface 132 (.pointer (some (a 4))))
  e5 : w.cell? ⟨4, 0, none⟩ = some (.iface 132 (.pointer (some (a 5))))
  e6 : w.cell? ⟨5, 0, none⟩ = some (.iface 132 (.pointer (some (a 6))))
theorem HexE.bel {a : Nat → Addr} {w w' : World} (h : HexE a w) (k : Below w.heap.size w w') : HexE a w' :=
  ⟨bel_cell k h.e1, bel_cell k h.e2, bel_cell k h.e3, bel_cell k h.e4, bel_cell k h.e5, bel_cell k h.e6⟩
/-- The error of a code (0: none). -/
def errV (a : Nat → Addr) (k : Nat) : Value := if k = 0 then .nilIface else .iface 132 (.pointer (some (a k)))
theorem errV_zero (a : Nat → Addr) : errV a 0 = .nilIface := rfl
/-- What checkNumberS tells (0: nothing). -/
def chkFault (s : List UInt8) : Nat := if s = [] then 1 else if isPre s = false then 3 else if s.length = 2 then 4 else if 3 < s.length ∧ s[2]? = some 48 then 5 else 0
set_option maxHeartbeats 2000000 in
theorem checkNumberS_any (a : Nat → Addr) (s : List UInt8) (w : World) (hE : HexE a w) :
    Calls Tryd.prog 64 #[.string ⟨s.toArray⟩] w fun e w' => e = .returned (errV a (chkFault s)) ∧ w' = w := by
  obtain ⟨e1, e2, e3, e4, e5, e6⟩ := hE
  rcases s with _ | ⟨c0, _ | ⟨c1, t⟩⟩
  · go_enter Tryd.func64, Tryd.ntmps64
    go_wp2
    go_ret
    exact ⟨rfl, rfl⟩
  · go_enter Tryd.func64, Tryd.ntmps64
    go_wp2
    go_ret
    exact ⟨rfl, rfl⟩
  · have hg0 : ∀ h, (⟨(c0 :: c1 :: t).toArray⟩ : ByteArray)[0]'h = c0 := fun _ => rfl
    have hg1 : ∀ h, (⟨(c0 :: c1 :: t).toArray⟩ : ByteArray)[1]'h = c1 := fun _ => rfl
    have n1 : ¬ ((t.length : Int) + 1 + 1 < 2) := by omega
    have n2 : ¬ ((t.length : Int) + 1 + 1 = 0) := by omega
    have n2' : (((t.length : Int) + 1 + 1) == 0) = false := by simp; omega
    have nib : ∀ (c d : UInt8), c ≠ d → ¬ ((c.toNat : Int) = (d.toNat : Int)) := fun c d h e => h (UInt8.toNat.inj (by omega))
    cases hp : isPre (c0 :: c1 :: t)
    · have hv : errV a (chkFault (c0 :: c1 :: t)) = errV a 3 := by unfold chkFault; rw [if_neg (by simp), if_pos hp]
      rw [hv]
      unfold isPre at hp
      by_cases k0 : c0 = 48
      · subst k0
        have k1 : c1 ≠ 120 := fun e => by subst e; simp at hp
        have k2 : c1 ≠ 88 := fun e => by subst e; simp at hp
        have m1 : ((c1.toNat : Int) != 120) = true := by simpa using nib c1 120 k1
        have m2 : ((c1.toNat : Int) != 88) = true := by simpa using nib c1 88 k2
        have m0 : (((48 : UInt8).toNat : Int) != 48) = false := by decide
        clear hp k1 k2 hv
        go_enter Tryd.func64, Tryd.ntmps64
        go_wp2
        go_ret
        exact ⟨rfl, rfl⟩
      · have m0 : ((c0.toNat : Int) != 48) = true := by simpa using nib c0 48 k0
        clear hp hv k0
        go_enter Tryd.func64, Tryd.ntmps64
        go_wp2
        go_ret
        exact ⟨rfl, rfl⟩
    · have hp2 := hp
      unfold isPre at hp
      simp only [Bool.and_eq_true, Bool.or_eq_true, beq_iff_eq] at hp
      obtain ⟨rfl, k1⟩ := hp
      have m0 : (((48 : UInt8).toNat : Int) != 48) = false := by decide
      have m12 : ((c1.toNat : Int) != 120) = false ∨ (((c1.toNat : Int) != 120) = true ∧ ((c1.toNat : Int) != 88) = false) := by
        rcases k1 with rfl | rfl
        · exact .inl (by decide)
        · exact .inr ⟨by decide, by decide⟩
      clear k1
      rcases t with _ | ⟨c2, t⟩
      · have hv : chkFault [48, c1] = 4 := by unfold chkFault; rw [if_neg (by simp), if_neg (by rw [hp2]; simp)]; rfl
        rw [hv]
        clear hv hp2
        rcases m12 with m1 | ⟨m1, m2⟩
        · go_enter Tryd.func64, Tryd.ntmps64
          go_wp2
          go_ret
          exact ⟨rfl, rfl⟩
        · go_enter Tryd.func64, Tryd.ntmps64
          go_wp2
          go_ret
          exact ⟨rfl, rfl⟩
      · have hg2 : ∀ h, (⟨(48 :: c1 :: c2 :: t).toArray⟩ : ByteArray)[2]'h = c2 := fun _ => rfl
        have hv : chkFault (48 :: c1 :: c2 :: t) = if t ≠ [] ∧ c2 = 48 then 5 else 0 := by
          unfold chkFault
          rw [if_neg (by simp), if_neg (by rw [hp2]; simp), if_neg (by simp)]
          by_cases h : t ≠ [] ∧ c2 = 48
          · have : 0 < t.length := by rcases t with _ | _; exact absurd rfl h.1; simp
            rw [if_pos h, if_pos ⟨by simp; omega, by simp [h.2]⟩]
          · rw [if_neg h, if_neg]
            rintro ⟨h1, h2⟩
            refine h ⟨fun e => ?_, by simpa using h2⟩
            subst e
            simp at h1
        rw [hv]
        clear hv hp2 n1 n2 n2'
        have n1 : ¬ ((t.length : Int) + 1 + 1 + 1 < 2) := by omega
        have n2 : (((t.length : Int) + 1 + 1 + 1) == 0) = false := by simp; omega
        have n3 : (((t.length : Int) + 1 + 1 + 1) == 2) = false := by simp; omega
        rcases t with _ | ⟨c3, t⟩
        · rw [if_neg (by simp)]
          rcases m12 with m1 | ⟨m1, m2⟩
          · go_enter Tryd.func64, Tryd.ntmps64
            go_wp2
            go_ret
            exact ⟨rfl, rfl⟩
          · go_enter Tryd.func64, Tryd.ntmps64
            go_wp2
            go_ret
            exact ⟨rfl, rfl⟩
        · have n4 : (3 : Int) < (t.length : Int) + 1 + 1 + 1 + 1 := by omega
          have n5 : ¬ ((t.length : Int) + 1 + 1 + 1 + 1 < 2) := by omega
          have n6 : (((t.length : Int) + 1 + 1 + 1 + 1) == 0) = false := by simp; omega
          have n7 : (((t.length : Int) + 1 + 1 + 1 + 1) == 2) = false := by simp; omega
          by_cases k2 : c2 = 48
          · subst k2
            rw [if_pos ⟨by simp, rfl⟩]
            have q2 : (((48 : UInt8).toNat : Int) == 48) = true := by decide
            rcases m12 with m1 | ⟨m1, m2⟩
            · go_enter Tryd.func64, Tryd.ntmps64
              go_wp2
              go_ret
              exact ⟨rfl, rfl⟩
            · go_enter Tryd.func64, Tryd.ntmps64
              go_wp2
              go_ret
              exact ⟨rfl, rfl⟩
          · rw [if_neg (fun h => k2 h.2)]
            have q2 : ((c2.toNat : Int) == 48) = false := by simpa using nib c2 48 k2
            rcases m12 with m1 | ⟨m1, m2⟩
            · go_enter Tryd.func64, Tryd.ntmps64
              go_wp2
              go_ret
              exact ⟨rfl, rfl⟩
            · go_enter Tryd.func64, Tryd.ntmps64
              go_wp2
              go_ret
              exact ⟨rfl, rfl⟩
end Go.Proofs.YtbgmeppidedfbaaDoor
