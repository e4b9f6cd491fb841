/-
  SetBytes1 to 16: their panics; setFew.
-/
import Derived.Test.YtpmhkmcikjbncaaFmtSb1
import Derived.Test.YtpmhkmcikjbncaaFmtSb2
import Derived.Test.YtpmhkmcikjbncaaFmtSb3
import Derived.Test.YtpmhkmcikjbncaaFmtSb4
import Derived.Test.YtpmhkmcikjbncaaFmtPut
namespace Go.Proofs.YtpmhkmcikjbncaaFmt
open Go.RowKit
set_option linter.unusedVariables false
set_option linter.unusedSimpArgs false
set_option maxRecDepth 100000
set_option maxHeartbeats 1000000 in
theorem set1_short (base b o : Nat) (z : N4) (A : Option Addr) (n cap : Nat) (w : World) (hz : At4 w b o z) (fz : Free4 w b o) (hbb : base ≤ b) (hn : n < 1) (hnil : A = none → n = 0) :
    Calls Tryf.prog 28 #[.pointer (some ⟨b, o, none⟩), .slice A n cap] w fun e w' => (∃ u, e = .panicked [{ v := .iface Tryf.prog.rt.boundsError u, recovered := false }]) ∧ Below base w w' := by
  have hbp : ∀ (m : Int) (W : World), (boundsPanic (α := Value) .i64 0 m .index).run Tryf.prog W = _ := fun m W => Lib.run_boundsPanic_index Tryf.prog 0 m W (by decide) (by decide)
  obtain ⟨z0, z1, z2, z3⟩ := hz
  obtain ⟨f0, f1, f2, f3⟩ := fz
  cases A with
  | none =>
    obtain rfl := hnil rfl
    have hix : ∀ W : World, (Instr.indexAt 22 (.slice none 0 cap) (.int .i64 0)).run Tryf.prog W = _ := fun W => Lib.run_indexAt_nil W 22 5 0 cap .i64 0 Tryf.underlying22
    go_enter Tryf.func28, Tryf.ntmps28
    go_wp2
    go_region
    go_wp2
    refine wp_region_held_drew (S := (fun _ => True)) (by kernel_rfl) (by all_goals exact trivial) (fun hHeld => ?_)
    refine hm_take (i := 0) (v := ?_) rfl rfl (by kernel_rfl) (by kernel_rfl) (by kernel_rfl) (fun _ _ _ h => h) rfl ?_ (by assumption) ?_
    rotate_left
    · (intro w hSw; (try dsimp only at hSw); go_simp; try with_reducible rfl)
    try simp only [Act.put, List.setIfInBounds_toArray, List.set_cons_zero, List.set_cons_succ]
    refine hm_take (i := 1) (v := ?_) rfl rfl (by kernel_rfl) (by kernel_rfl) (by kernel_rfl) (fun _ _ _ h => h) rfl ?_ (by assumption) ?_
    rotate_left
    · (intro w hSw; (try dsimp only at hSw); go_simp; try with_reducible rfl)
    try simp only [Act.put, List.setIfInBounds_toArray, List.set_cons_zero, List.set_cons_succ]
    refine hm_take (i := 5) (v := ?_) rfl rfl (by kernel_rfl) (by kernel_rfl) (by kernel_rfl) (fun _ _ _ h => h) rfl ?_ (by assumption) ?_
    rotate_left
    · (intro w hSw; (try dsimp only at hSw); go_simp; try with_reducible rfl)
    try simp only [Act.put, List.setIfInBounds_toArray, List.set_cons_zero, List.set_cons_succ]
    refine hm_call (i := 2) rfl (by kernel_rfl) rfl (fun K hK => ?_)
    go_simp
    exact ⟨rfl, ⟨_, rfl⟩, ((((((Below.refl base w).setCell (p := ⟨b, o + 3, none⟩) hbb _).setCell (p := ⟨b, o + 2, none⟩) hbb _).setCell (p := ⟨b, o + 1, none⟩) hbb _).drew).drew).drew⟩
  | some a =>
    obtain rfl : n = 0 := by omega
    go_enter Tryf.func28, Tryf.ntmps28
    go_wp2
    go_region
    go_wp2
    refine wp_region_held_drew (S := (fun _ => True)) (by kernel_rfl) (by all_goals exact trivial) (fun hHeld => ?_)
    refine hm_take (i := 0) (v := ?_) rfl rfl (by kernel_rfl) (by kernel_rfl) (by kernel_rfl) (fun _ _ _ h => h) rfl ?_ (by assumption) ?_
    rotate_left
    · (intro w hSw; (try dsimp only at hSw); go_simp; try with_reducible rfl)
    try simp only [Act.put, List.setIfInBounds_toArray, List.set_cons_zero, List.set_cons_succ]
    refine hm_take (i := 1) (v := ?_) rfl rfl (by kernel_rfl) (by kernel_rfl) (by kernel_rfl) (fun _ _ _ h => h) rfl ?_ (by assumption) ?_
    rotate_left
    · (intro w hSw; (try dsimp only at hSw); go_simp; try with_reducible rfl)
    try simp only [Act.put, List.setIfInBounds_toArray, List.set_cons_zero, List.set_cons_succ]
    refine hm_take (i := 5) (v := ?_) rfl rfl (by kernel_rfl) (by kernel_rfl) (by kernel_rfl) (fun _ _ _ h => h) rfl ?_ (by assumption) ?_
    rotate_left
    · (intro w hSw; (try dsimp only at hSw); go_simp; try with_reducible rfl)
    try simp only [Act.put, List.setIfInBounds_toArray, List.set_cons_zero, List.set_cons_succ]
    refine hm_call (i := 2) rfl (by kernel_rfl) rfl (fun K hK => ?_)
    go_simp
    exact ⟨rfl, ⟨_, rfl⟩, ((((((Below.refl base w).setCell (p := ⟨b, o + 3, none⟩) hbb _).setCell (p := ⟨b, o + 2, none⟩) hbb _).setCell (p := ⟨b, o + 1, none⟩) hbb _).drew).drew).drew⟩
set_option maxHeartbeats 1000000 in
theorem set2_short (base b o : Nat) (z : N4) (A : Option Addr) (n cap : Nat) (w : World) (hz : At4 w b o z) (fz : Free4 w b o) (hbb : base ≤ b) (hn : n < 2) (hnil : A = none → n = 0) :
    Calls Tryf.prog 29 #[.pointer (some ⟨b, o, none⟩), .slice A n cap] w fun e w' => (∃ u, e = .panicked [{ v := .iface Tryf.prog.rt.boundsError u, recovered := false }]) ∧ Below base w w' := by
  have hbp : ∀ (m : Int) (W : World), (boundsPanic (α := Value) .i64 1 m .index).run Tryf.prog W = _ := fun m W => Lib.run_boundsPanic_index Tryf.prog 1 m W (by decide) (by decide)
  clear hz fz
  cases A with
  | none =>
    obtain rfl := hnil rfl
    have hix : ∀ W : World, (Instr.indexAt 22 (.slice none 0 cap) (.int .i64 1)).run Tryf.prog W = _ := fun W => Lib.run_indexAt_nil W 22 5 0 cap .i64 1 Tryf.underlying22
    go_enter Tryf.func29, Tryf.ntmps29
    go_wp2
    exact ⟨rfl, ⟨_, rfl⟩, (Below.refl _ _).drew⟩
  | some a =>
    go_enter Tryf.func29, Tryf.ntmps29
    go_wp2
    exact ⟨rfl, ⟨_, rfl⟩, (Below.refl _ _).drew⟩
set_option maxHeartbeats 1000000 in
theorem set3_short (base b o : Nat) (z : N4) (A : Option Addr) (n cap : Nat) (w : World) (hz : At4 w b o z) (fz : Free4 w b o) (hbb : base ≤ b) (hn : n < 3) (hnil : A = none → n = 0) :
    Calls Tryf.prog 30 #[.pointer (some ⟨b, o, none⟩), .slice A n cap] w fun e w' => (∃ u, e = .panicked [{ v := .iface Tryf.prog.rt.boundsError u, recovered := false }]) ∧ Below base w w' := by
  have hbp : ∀ (m : Int) (W : World), (boundsPanic (α := Value) .i64 2 m .index).run Tryf.prog W = _ := fun m W => Lib.run_boundsPanic_index Tryf.prog 2 m W (by decide) (by decide)
  clear hz fz
  cases A with
  | none =>
    obtain rfl := hnil rfl
    have hix : ∀ W : World, (Instr.indexAt 22 (.slice none 0 cap) (.int .i64 2)).run Tryf.prog W = _ := fun W => Lib.run_indexAt_nil W 22 5 0 cap .i64 2 Tryf.underlying22
    go_enter Tryf.func30, Tryf.ntmps30
    go_wp2
    exact ⟨rfl, ⟨_, rfl⟩, (Below.refl _ _).drew⟩
  | some a =>
    go_enter Tryf.func30, Tryf.ntmps30
    go_wp2
    exact ⟨rfl, ⟨_, rfl⟩, (Below.refl _ _).drew⟩
set_option maxHeartbeats 1000000 in
theorem set4_short (base b o : Nat) (z : N4) (A : Option Addr) (n cap : Nat) (w : World) (hz : At4 w b o z) (fz : Free4 w b o) (hbb : base ≤ b) (hn : n < 4) (hnil : A = none → n = 0) :
    Calls Tryf.prog 31 #[.pointer (some ⟨b, o, none⟩), .slice A n cap] w fun e w' => (∃ u, e = .panicked [{ v := .iface Tryf.prog.rt.boundsError u, recovered := false }]) ∧ Below base w w' := by
  have hbp : ∀ (m : Int) (W : World), (boundsPanic (α := Value) .i64 3 m .index).run Tryf.prog W = _ := fun m W => Lib.run_boundsPanic_index Tryf.prog 3 m W (by decide) (by decide)
  clear hz fz
  cases A with
  | none =>
    obtain rfl := hnil rfl
    have hix : ∀ W : World, (Instr.indexAt 22 (.slice none 0 cap) (.int .i64 3)).run Tryf.prog W = _ := fun W => Lib.run_indexAt_nil W 22 5 0 cap .i64 3 Tryf.underlying22
    go_enter Tryf.func31, Tryf.ntmps31
    go_wp2
    exact ⟨rfl, ⟨_, rfl⟩, (Below.refl _ _).drew⟩
  | some a =>
    go_enter Tryf.func31, Tryf.ntmps31
    go_wp2
    exact ⟨rfl, ⟨_, rfl⟩, (Below.refl _ _).drew⟩
set_option maxHeartbeats 1000000 in
theorem set5_short (base b o : Nat) (z : N4) (A : Option Addr) (n cap : Nat) (w : World) (hz : At4 w b o z) (fz : Free4 w b o) (hbb : base ≤ b) (hn : n < 5) (hnil : A = none → n = 0) :
    Calls Tryf.prog 32 #[.pointer (some ⟨b, o, none⟩), .slice A n cap] w fun e w' => (∃ u, e = .panicked [{ v := .iface Tryf.prog.rt.boundsError u, recovered := false }]) ∧ Below base w w' := by
  have hbp : ∀ (m : Int) (W : World), (boundsPanic (α := Value) .i64 4 m .index).run Tryf.prog W = _ := fun m W => Lib.run_boundsPanic_index Tryf.prog 4 m W (by decide) (by decide)
  clear hz fz
  cases A with
  | none =>
    obtain rfl := hnil rfl
    have hix : ∀ W : World, (Instr.indexAt 22 (.slice none 0 cap) (.int .i64 4)).run Tryf.prog W = _ := fun W => Lib.run_indexAt_nil W 22 5 0 cap .i64 4 Tryf.underlying22
    go_enter Tryf.func32, Tryf.ntmps32
    go_wp2
    exact ⟨rfl, ⟨_, rfl⟩, (Below.refl _ _).drew⟩
  | some a =>
    go_enter Tryf.func32, Tryf.ntmps32
    go_wp2
    exact ⟨rfl, ⟨_, rfl⟩, (Below.refl _ _).drew⟩
set_option maxHeartbeats 1000000 in
theorem set6_short (base b o : Nat) (z : N4) (A : Option Addr) (n cap : Nat) (w : World) (hz : At4 w b o z) (fz : Free4 w b o) (hbb : base ≤ b) (hn : n < 6) (hnil : A = none → n = 0) :
    Calls Tryf.prog 33 #[.pointer (some ⟨b, o, none⟩), .slice A n cap] w fun e w' => (∃ u, e = .panicked [{ v := .iface Tryf.prog.rt.boundsError u, recovered := false }]) ∧ Below base w w' := by
  have hbp : ∀ (m : Int) (W : World), (boundsPanic (α := Value) .i64 5 m .index).run Tryf.prog W = _ := fun m W => Lib.run_boundsPanic_index Tryf.prog 5 m W (by decide) (by decide)
  clear hz fz
  cases A with
  | none =>
    obtain rfl := hnil rfl
    have hix : ∀ W : World, (Instr.indexAt 22 (.slice none 0 cap) (.int .i64 5)).run Tryf.prog W = _ := fun W => Lib.run_indexAt_nil W 22 5 0 cap .i64 5 Tryf.underlying22
    go_enter Tryf.func33, Tryf.ntmps33
    go_wp2
    exact ⟨rfl, ⟨_, rfl⟩, (Below.refl _ _).drew⟩
  | some a =>
    go_enter Tryf.func33, Tryf.ntmps33
    go_wp2
    exact ⟨rfl, ⟨_, rfl⟩, (Below.refl _ _).drew⟩
set_option maxHeartbeats 1000000 in
theorem set7_short (base b o : Nat) (z : N4) (A : Option Addr) (n cap : Nat) (w : World) (hz : At4 w b o z) (fz : Free4 w b o) (hbb : base ≤ b) (hn : n < 7) (hnil : A = none → n = 0) :
    Calls Tryf.prog 34 #[.pointer (some ⟨b, o, none⟩), .slice A n cap] w fun e w' => (∃ u, e = .panicked [{ v := .iface Tryf.prog.rt.boundsError u, recovered := false }]) ∧ Below base w w' := by
  have hbp : ∀ (m : Int) (W : World), (boundsPanic (α := Value) .i64 6 m .index).run Tryf.prog W = _ := fun m W => Lib.run_boundsPanic_index Tryf.prog 6 m W (by decide) (by decide)
  clear hz fz
  cases A with
  | none =>
    obtain rfl := hnil rfl
    have hix : ∀ W : World, (Instr.indexAt 22 (.slice none 0 cap) (.int .i64 6)).run Tryf.prog W = _ := fun W => Lib.run_indexAt_nil W 22 5 0 cap .i64 6 Tryf.underlying22
    go_enter Tryf.func34, Tryf.ntmps34
    go_wp2
    exact ⟨rfl, ⟨_, rfl⟩, (Below.refl _ _).drew⟩
  | some a =>
    go_enter Tryf.func34, Tryf.ntmps34
    go_wp2
    exact ⟨rfl, ⟨_, rfl⟩, (Below.refl _ _).drew⟩
set_option maxHeartbeats 1000000 in
theorem set8_short (base b o : Nat) (z : N4) (A : Option Addr) (n cap : Nat) (w : World) (hz : At4 w b o z) (fz : Free4 w b o) (hbb : base ≤ b) (hn : n < 8) (hnil : A = none → n = 0) :
    Calls Tryf.prog 35 #[.pointer (some ⟨b, o, none⟩), .slice A n cap] w fun e w' => (∃ u, e = .panicked [{ v := .iface Tryf.prog.rt.boundsError u, recovered := false }]) ∧ Below base w w' := by
  have hbp : ∀ (m : Int) (W : World), (boundsPanic (α := Value) .i64 7 m .index).run Tryf.prog W = _ := fun m W => Lib.run_boundsPanic_index Tryf.prog 7 m W (by decide) (by decide)
  clear hz fz
  cases A with
  | none =>
    obtain rfl := hnil rfl
    have hix : ∀ W : World, (Instr.indexAt 22 (.slice none 0 cap) (.int .i64 7)).run Tryf.prog W = _ := fun W => Lib.run_indexAt_nil W 22 5 0 cap .i64 7 Tryf.underlying22
    go_enter Tryf.func35, Tryf.ntmps35
    go_wp2
    exact ⟨rfl, ⟨_, rfl⟩, (Below.refl _ _).drew⟩
  | some a =>
    go_enter Tryf.func35, Tryf.ntmps35
    go_wp2
    exact ⟨rfl, ⟨_, rfl⟩, (Below.refl _ _).drew⟩
set_option maxHeartbeats 1000000 in
theorem set9_short (base b o : Nat) (z : N4) (A : Option Addr) (n cap : Nat) (w : World) (hz : At4 w b o z) (fz : Free4 w b o) (hbb : base ≤ b) (hn : n < 9) (hnil : A = none → n = 0) :
    Calls Tryf.prog 36 #[.pointer (some ⟨b, o, none⟩), .slice A n cap] w fun e w' => (∃ u, e = .panicked [{ v := .iface Tryf.prog.rt.boundsError u, recovered := false }]) ∧ Below base w w' := by
  have hbp : ∀ (m : Int) (W : World), (boundsPanic (α := Value) .i64 8 m .index).run Tryf.prog W = _ := fun m W => Lib.run_boundsPanic_index Tryf.prog 8 m W (by decide) (by decide)
  clear hz fz
  cases A with
  | none =>
    obtain rfl := hnil rfl
    have hix : ∀ W : World, (Instr.indexAt 22 (.slice none 0 cap) (.int .i64 8)).run Tryf.prog W = _ := fun W => Lib.run_indexAt_nil W 22 5 0 cap .i64 8 Tryf.underlying22
    go_enter Tryf.func36, Tryf.ntmps36
    go_wp2
    exact ⟨rfl, ⟨_, rfl⟩, (Below.refl _ _).drew⟩
  | some a =>
    go_enter Tryf.func36, Tryf.ntmps36
    go_wp2
    exact ⟨rfl, ⟨_, rfl⟩, (Below.refl _ _).drew⟩
set_option maxHeartbeats 1000000 in
theorem set10_short (base b o : Nat) (z : N4) (A : Option Addr) (n cap : Nat) (w : World) (hz : At4 w b o z) (fz : Free4 w b o) (hbb : base ≤ b) (hn : n < 10) (hnil : A = none → n = 0) :
    Calls Tryf.prog 37 #[.pointer (some ⟨b, o, none⟩), .slice A n cap] w fun e w' => (∃ u, e = .panicked [{ v := .iface Tryf.prog.rt.boundsError u, recovered := false }]) ∧ Below base w w' := by
  have hbp : ∀ (m : Int) (W : World), (boundsPanic (α := Value) .i64 9 m .index).run Tryf.prog W = _ := fun m W => Lib.run_boundsPanic_index Tryf.prog 9 m W (by decide) (by decide)
  clear hz fz
  cases A with
  | none =>
    obtain rfl := hnil rfl
    have hix : ∀ W : World, (Instr.indexAt 22 (.slice none 0 cap) (.int .i64 9)).run Tryf.prog W = _ := fun W => Lib.run_indexAt_nil W 22 5 0 cap .i64 9 Tryf.underlying22
    go_enter Tryf.func37, Tryf.ntmps37
    go_wp2
    exact ⟨rfl, ⟨_, rfl⟩, (Below.refl _ _).drew⟩
  | some a =>
    go_enter Tryf.func37, Tryf.ntmps37
    go_wp2
    exact ⟨rfl, ⟨_, rfl⟩, (Below.refl _ _).drew⟩
set_option maxHeartbeats 1000000 in
theorem set11_short (base b o : Nat) (z : N4) (A : Option Addr) (n cap : Nat) (w : World) (hz : At4 w b o z) (fz : Free4 w b o) (hbb : base ≤ b) (hn : n < 11) (hnil : A = none → n = 0) :
    Calls Tryf.prog 38 #[.pointer (some ⟨b, o, none⟩), .slice A n cap] w fun e w' => (∃ u, e = .panicked [{ v := .iface Tryf.prog.rt.boundsError u, recovered := false }]) ∧ Below base w w' := by
  have hbp : ∀ (m : Int) (W : World), (boundsPanic (α := Value) .i64 10 m .index).run Tryf.prog W = _ := fun m W => Lib.run_boundsPanic_index Tryf.prog 10 m W (by decide) (by decide)
  clear hz fz
  cases A with
  | none =>
    obtain rfl := hnil rfl
    have hix : ∀ W : World, (Instr.indexAt 22 (.slice none 0 cap) (.int .i64 10)).run Tryf.prog W = _ := fun W => Lib.run_indexAt_nil W 22 5 0 cap .i64 10 Tryf.underlying22
    go_enter Tryf.func38, Tryf.ntmps38
    go_wp2
    exact ⟨rfl, ⟨_, rfl⟩, (Below.refl _ _).drew⟩
  | some a =>
    go_enter Tryf.func38, Tryf.ntmps38
    go_wp2
    exact ⟨rfl, ⟨_, rfl⟩, (Below.refl _ _).drew⟩
set_option maxHeartbeats 1000000 in
theorem set12_short (base b o : Nat) (z : N4) (A : Option Addr) (n cap : Nat) (w : World) (hz : At4 w b o z) (fz : Free4 w b o) (hbb : base ≤ b) (hn : n < 12) (hnil : A = none → n = 0) :
    Calls Tryf.prog 39 #[.pointer (some ⟨b, o, none⟩), .slice A n cap] w fun e w' => (∃ u, e = .panicked [{ v := .iface Tryf.prog.rt.boundsError u, recovered := false }]) ∧ Below base w w' := by
  have hbp : ∀ (m : Int) (W : World), (boundsPanic (α := Value) .i64 11 m .index).run Tryf.prog W = _ := fun m W => Lib.run_boundsPanic_index Tryf.prog 11 m W (by decide) (by decide)
  clear hz fz
  cases A with
  | none =>
    obtain rfl := hnil rfl
    have hix : ∀ W : World, (Instr.indexAt 22 (.slice none 0 cap) (.int .i64 11)).run Tryf.prog W = _ := fun W => Lib.run_indexAt_nil W 22 5 0 cap .i64 11 Tryf.underlying22
    go_enter Tryf.func39, Tryf.ntmps39
    go_wp2
    exact ⟨rfl, ⟨_, rfl⟩, (Below.refl _ _).drew⟩
  | some a =>
    go_enter Tryf.func39, Tryf.ntmps39
    go_wp2
    exact ⟨rfl, ⟨_, rfl⟩, (Below.refl _ _).drew⟩
set_option maxHeartbeats 1000000 in
theorem set13_short (base b o : Nat) (z : N4) (A : Option Addr) (n cap : Nat) (w : World) (hz : At4 w b o z) (fz : Free4 w b o) (hbb : base ≤ b) (hn : n < 13) (hnil : A = none → n = 0) :
    Calls Tryf.prog 40 #[.pointer (some ⟨b, o, none⟩), .slice A n cap] w fun e w' => (∃ u, e = .panicked [{ v := .iface Tryf.prog.rt.boundsError u, recovered := false }]) ∧ Below base w w' := by
  have hbp : ∀ (m : Int) (W : World), (boundsPanic (α := Value) .i64 12 m .index).run Tryf.prog W = _ := fun m W => Lib.run_boundsPanic_index Tryf.prog 12 m W (by decide) (by decide)
  clear hz fz
  cases A with
  | none =>
    obtain rfl := hnil rfl
    have hix : ∀ W : World, (Instr.indexAt 22 (.slice none 0 cap) (.int .i64 12)).run Tryf.prog W = _ := fun W => Lib.run_indexAt_nil W 22 5 0 cap .i64 12 Tryf.underlying22
    go_enter Tryf.func40, Tryf.ntmps40
    go_wp2
    exact ⟨rfl, ⟨_, rfl⟩, (Below.refl _ _).drew⟩
  | some a =>
    go_enter Tryf.func40, Tryf.ntmps40
    go_wp2
    exact ⟨rfl, ⟨_, rfl⟩, (Below.refl _ _).drew⟩
set_option maxHeartbeats 1000000 in
theorem set14_short (base b o : Nat) (z : N4) (A : Option Addr) (n cap : Nat) (w : World) (hz : At4 w b o z) (fz : Free4 w b o) (hbb : base ≤ b) (hn : n < 14) (hnil : A = none → n = 0) :
    Calls Tryf.prog 41 #[.pointer (some ⟨b, o, none⟩), .slice A n cap] w fun e w' => (∃ u, e = .panicked [{ v := .iface Tryf.prog.rt.boundsError u, recovered := false }]) ∧ Below base w w' := by
  have hbp : ∀ (m : Int) (W : World), (boundsPanic (α := Value) .i64 13 m .index).run Tryf.prog W = _ := fun m W => Lib.run_boundsPanic_index Tryf.prog 13 m W (by decide) (by decide)
  clear hz fz
  cases A with
  | none =>
    obtain rfl := hnil rfl
    have hix : ∀ W : World, (Instr.indexAt 22 (.slice none 0 cap) (.int .i64 13)).run Tryf.prog W = _ := fun W => Lib.run_indexAt_nil W 22 5 0 cap .i64 13 Tryf.underlying22
    go_enter Tryf.func41, Tryf.ntmps41
    go_wp2
    exact ⟨rfl, ⟨_, rfl⟩, (Below.refl _ _).drew⟩
  | some a =>
    go_enter Tryf.func41, Tryf.ntmps41
    go_wp2
    exact ⟨rfl, ⟨_, rfl⟩, (Below.refl _ _).drew⟩
set_option maxHeartbeats 1000000 in
theorem set15_short (base b o : Nat) (z : N4) (A : Option Addr) (n cap : Nat) (w : World) (hz : At4 w b o z) (fz : Free4 w b o) (hbb : base ≤ b) (hn : n < 15) (hnil : A = none → n = 0) :
    Calls Tryf.prog 42 #[.pointer (some ⟨b, o, none⟩), .slice A n cap] w fun e w' => (∃ u, e = .panicked [{ v := .iface Tryf.prog.rt.boundsError u, recovered := false }]) ∧ Below base w w' := by
  have hbp : ∀ (m : Int) (W : World), (boundsPanic (α := Value) .i64 14 m .index).run Tryf.prog W = _ := fun m W => Lib.run_boundsPanic_index Tryf.prog 14 m W (by decide) (by decide)
  clear hz fz
  cases A with
  | none =>
    obtain rfl := hnil rfl
    have hix : ∀ W : World, (Instr.indexAt 22 (.slice none 0 cap) (.int .i64 14)).run Tryf.prog W = _ := fun W => Lib.run_indexAt_nil W 22 5 0 cap .i64 14 Tryf.underlying22
    go_enter Tryf.func42, Tryf.ntmps42
    go_wp2
    exact ⟨rfl, ⟨_, rfl⟩, (Below.refl _ _).drew⟩
  | some a =>
    go_enter Tryf.func42, Tryf.ntmps42
    go_wp2
    exact ⟨rfl, ⟨_, rfl⟩, (Below.refl _ _).drew⟩
set_option maxHeartbeats 1000000 in
theorem set16_short (base b o : Nat) (z : N4) (A : Option Addr) (n cap : Nat) (w : World) (hz : At4 w b o z) (fz : Free4 w b o) (hbb : base ≤ b) (hn : n < 16) (hnil : A = none → n = 0) :
    Calls Tryf.prog 43 #[.pointer (some ⟨b, o, none⟩), .slice A n cap] w fun e w' => (∃ u, e = .panicked [{ v := .iface Tryf.prog.rt.boundsError u, recovered := false }]) ∧ Below base w w' := by
  have hbp : ∀ (m : Int) (W : World), (boundsPanic (α := Value) .i64 15 m .index).run Tryf.prog W = _ := fun m W => Lib.run_boundsPanic_index Tryf.prog 15 m W (by decide) (by decide)
  clear hz fz
  cases A with
  | none =>
    obtain rfl := hnil rfl
    have hix : ∀ W : World, (Instr.indexAt 22 (.slice none 0 cap) (.int .i64 15)).run Tryf.prog W = _ := fun W => Lib.run_indexAt_nil W 22 5 0 cap .i64 15 Tryf.underlying22
    go_enter Tryf.func43, Tryf.ntmps43
    go_wp2
    exact ⟨rfl, ⟨_, rfl⟩, (Below.refl _ _).drew⟩
  | some a =>
    go_enter Tryf.func43, Tryf.ntmps43
    go_wp2
    exact ⟨rfl, ⟨_, rfl⟩, (Below.refl _ _).drew⟩
end Go.Proofs.YtpmhkmcikjbncaaFmt
