/-
  SetBytes17 to 32: their panics; setMany.
-/
import Derived.Test.YtpmhkmcikjbncaaFmtSb1
import Derived.Test.YtpmhkmcikjbncaaFmtSb2
import Derived.Test.YtpmhkmcikjbncaaFmtSb3
import Derived.Test.YtpmhkmcikjbncaaFmtSb4
import Derived.Test.YtpmhkmcikjbncaaFmtPut
namespace Go.Proofs.YtpmhkmcikjbncaaFmt
open Go.RowKit
set_option linter.unusedVariables false
set_option linter.unusedSimpArgs false
set_option maxRecDepth 100000
set_option maxHeartbeats 1000000 in
theorem set17_short (base b o : Nat) (z : N4) (A : Option Addr) (n cap : Nat) (w : World) (hz : At4 w b o z) (fz : Free4 w b o) (hbb : base ≤ b) (hn : n < 17) (hnil : A = none → n = 0) :
    Calls Tryf.prog 44 #[.pointer (some ⟨b, o, none⟩), .slice A n cap] w fun e w' => (∃ u, e = .panicked [{ v := .iface Tryf.prog.rt.boundsError u, recovered := false }]) ∧ Below base w w' := by
  have hbp : ∀ (m : Int) (W : World), (boundsPanic (α := Value) .i64 16 m .index).run Tryf.prog W = _ := fun m W => Lib.run_boundsPanic_index Tryf.prog 16 m W (by decide) (by decide)
  clear hz fz
  cases A with
  | none =>
    obtain rfl := hnil rfl
    have hix : ∀ W : World, (Instr.indexAt 22 (.slice none 0 cap) (.int .i64 16)).run Tryf.prog W = _ := fun W => Lib.run_indexAt_nil W 22 5 0 cap .i64 16 Tryf.underlying22
    go_enter Tryf.func44, Tryf.ntmps44
    go_wp2
    exact ⟨rfl, ⟨_, rfl⟩, (Below.refl _ _).drew⟩
  | some a =>
    go_enter Tryf.func44, Tryf.ntmps44
    go_wp2
    exact ⟨rfl, ⟨_, rfl⟩, (Below.refl _ _).drew⟩
set_option maxHeartbeats 1000000 in
theorem set18_short (base b o : Nat) (z : N4) (A : Option Addr) (n cap : Nat) (w : World) (hz : At4 w b o z) (fz : Free4 w b o) (hbb : base ≤ b) (hn : n < 18) (hnil : A = none → n = 0) :
    Calls Tryf.prog 45 #[.pointer (some ⟨b, o, none⟩), .slice A n cap] w fun e w' => (∃ u, e = .panicked [{ v := .iface Tryf.prog.rt.boundsError u, recovered := false }]) ∧ Below base w w' := by
  have hbp : ∀ (m : Int) (W : World), (boundsPanic (α := Value) .i64 17 m .index).run Tryf.prog W = _ := fun m W => Lib.run_boundsPanic_index Tryf.prog 17 m W (by decide) (by decide)
  clear hz fz
  cases A with
  | none =>
    obtain rfl := hnil rfl
    have hix : ∀ W : World, (Instr.indexAt 22 (.slice none 0 cap) (.int .i64 17)).run Tryf.prog W = _ := fun W => Lib.run_indexAt_nil W 22 5 0 cap .i64 17 Tryf.underlying22
    go_enter Tryf.func45, Tryf.ntmps45
    go_wp2
    exact ⟨rfl, ⟨_, rfl⟩, (Below.refl _ _).drew⟩
  | some a =>
    go_enter Tryf.func45, Tryf.ntmps45
    go_wp2
    exact ⟨rfl, ⟨_, rfl⟩, (Below.refl _ _).drew⟩
set_option maxHeartbeats 1000000 in
theorem set19_short (base b o : Nat) (z : N4) (A : Option Addr) (n cap : Nat) (w : World) (hz : At4 w b o z) (fz : Free4 w b o) (hbb : base ≤ b) (hn : n < 19) (hnil : A = none → n = 0) :
    Calls Tryf.prog 46 #[.pointer (some ⟨b, o, none⟩), .slice A n cap] w fun e w' => (∃ u, e = .panicked [{ v := .iface Tryf.prog.rt.boundsError u, recovered := false }]) ∧ Below base w w' := by
  have hbp : ∀ (m : Int) (W : World), (boundsPanic (α := Value) .i64 18 m .index).run Tryf.prog W = _ := fun m W => Lib.run_boundsPanic_index Tryf.prog 18 m W (by decide) (by decide)
  clear hz fz
  cases A with
  | none =>
    obtain rfl := hnil rfl
    have hix : ∀ W : World, (Instr.indexAt 22 (.slice none 0 cap) (.int .i64 18)).run Tryf.prog W = _ := fun W => Lib.run_indexAt_nil W 22 5 0 cap .i64 18 Tryf.underlying22
    go_enter Tryf.func46, Tryf.ntmps46
    go_wp2
    exact ⟨rfl, ⟨_, rfl⟩, (Below.refl _ _).drew⟩
  | some a =>
    go_enter Tryf.func46, Tryf.ntmps46
    go_wp2
    exact ⟨rfl, ⟨_, rfl⟩, (Below.refl _ _).drew⟩
set_option maxHeartbeats 1000000 in
theorem set20_short (base b o : Nat) (z : N4) (A : Option Addr) (n cap : Nat) (w : World) (hz : At4 w b o z) (fz : Free4 w b o) (hbb : base ≤ b) (hn : n < 20) (hnil : A = none → n = 0) :
    Calls Tryf.prog 47 #[.pointer (some ⟨b, o, none⟩), .slice A n cap] w fun e w' => (∃ u, e = .panicked [{ v := .iface Tryf.prog.rt.boundsError u, recovered := false }]) ∧ Below base w w' := by
  have hbp : ∀ (m : Int) (W : World), (boundsPanic (α := Value) .i64 19 m .index).run Tryf.prog W = _ := fun m W => Lib.run_boundsPanic_index Tryf.prog 19 m W (by decide) (by decide)
  clear hz fz
  cases A with
  | none =>
    obtain rfl := hnil rfl
    have hix : ∀ W : World, (Instr.indexAt 22 (.slice none 0 cap) (.int .i64 19)).run Tryf.prog W = _ := fun W => Lib.run_indexAt_nil W 22 5 0 cap .i64 19 Tryf.underlying22
    go_enter Tryf.func47, Tryf.ntmps47
    go_wp2
    exact ⟨rfl, ⟨_, rfl⟩, (Below.refl _ _).drew⟩
  | some a =>
    go_enter Tryf.func47, Tryf.ntmps47
    go_wp2
    exact ⟨rfl, ⟨_, rfl⟩, (Below.refl _ _).drew⟩
set_option maxHeartbeats 1000000 in
theorem set21_short (base b o : Nat) (z : N4) (A : Option Addr) (n cap : Nat) (w : World) (hz : At4 w b o z) (fz : Free4 w b o) (hbb : base ≤ b) (hn : n < 21) (hnil : A = none → n = 0) :
    Calls Tryf.prog 48 #[.pointer (some ⟨b, o, none⟩), .slice A n cap] w fun e w' => (∃ u, e = .panicked [{ v := .iface Tryf.prog.rt.boundsError u, recovered := false }]) ∧ Below base w w' := by
  have hbp : ∀ (m : Int) (W : World), (boundsPanic (α := Value) .i64 20 m .index).run Tryf.prog W = _ := fun m W => Lib.run_boundsPanic_index Tryf.prog 20 m W (by decide) (by decide)
  clear hz fz
  cases A with
  | none =>
    obtain rfl := hnil rfl
    have hix : ∀ W : World, (Instr.indexAt 22 (.slice none 0 cap) (.int .i64 20)).run Tryf.prog W = _ := fun W => Lib.run_indexAt_nil W 22 5 0 cap .i64 20 Tryf.underlying22
    go_enter Tryf.func48, Tryf.ntmps48
    go_wp2
    exact ⟨rfl, ⟨_, rfl⟩, (Below.refl _ _).drew⟩
  | some a =>
    go_enter Tryf.func48, Tryf.ntmps48
    go_wp2
    exact ⟨rfl, ⟨_, rfl⟩, (Below.refl _ _).drew⟩
set_option maxHeartbeats 1000000 in
theorem set22_short (base b o : Nat) (z : N4) (A : Option Addr) (n cap : Nat) (w : World) (hz : At4 w b o z) (fz : Free4 w b o) (hbb : base ≤ b) (hn : n < 22) (hnil : A = none → n = 0) :
    Calls Tryf.prog 49 #[.pointer (some ⟨b, o, none⟩), .slice A n cap] w fun e w' => (∃ u, e = .panicked [{ v := .iface Tryf.prog.rt.boundsError u, recovered := false }]) ∧ Below base w w' := by
  have hbp : ∀ (m : Int) (W : World), (boundsPanic (α := Value) .i64 21 m .index).run Tryf.prog W = _ := fun m W => Lib.run_boundsPanic_index Tryf.prog 21 m W (by decide) (by decide)
  clear hz fz
  cases A with
  | none =>
    obtain rfl := hnil rfl
    have hix : ∀ W : World, (Instr.indexAt 22 (.slice none 0 cap) (.int .i64 21)).run Tryf.prog W = _ := fun W => Lib.run_indexAt_nil W 22 5 0 cap .i64 21 Tryf.underlying22
    go_enter Tryf.func49, Tryf.ntmps49
    go_wp2
    exact ⟨rfl, ⟨_, rfl⟩, (Below.refl _ _).drew⟩
  | some a =>
    go_enter Tryf.func49, Tryf.ntmps49
    go_wp2
    exact ⟨rfl, ⟨_, rfl⟩, (Below.refl _ _).drew⟩
set_option maxHeartbeats 1000000 in
theorem set23_short (base b o : Nat) (z : N4) (A : Option Addr) (n cap : Nat) (w : World) (hz : At4 w b o z) (fz : Free4 w b o) (hbb : base ≤ b) (hn : n < 23) (hnil : A = none → n = 0) :
    Calls Tryf.prog 50 #[.pointer (some ⟨b, o, none⟩), .slice A n cap] w fun e w' => (∃ u, e = .panicked [{ v := .iface Tryf.prog.rt.boundsError u, recovered := false }]) ∧ Below base w w' := by
  have hbp : ∀ (m : Int) (W : World), (boundsPanic (α := Value) .i64 22 m .index).run Tryf.prog W = _ := fun m W => Lib.run_boundsPanic_index Tryf.prog 22 m W (by decide) (by decide)
  clear hz fz
  cases A with
  | none =>
    obtain rfl := hnil rfl
    have hix : ∀ W : World, (Instr.indexAt 22 (.slice none 0 cap) (.int .i64 22)).run Tryf.prog W = _ := fun W => Lib.run_indexAt_nil W 22 5 0 cap .i64 22 Tryf.underlying22
    go_enter Tryf.func50, Tryf.ntmps50
    go_wp2
    exact ⟨rfl, ⟨_, rfl⟩, (Below.refl _ _).drew⟩
  | some a =>
    go_enter Tryf.func50, Tryf.ntmps50
    go_wp2
    exact ⟨rfl, ⟨_, rfl⟩, (Below.refl _ _).drew⟩
set_option maxHeartbeats 1000000 in
theorem set24_short (base b o : Nat) (z : N4) (A : Option Addr) (n cap : Nat) (w : World) (hz : At4 w b o z) (fz : Free4 w b o) (hbb : base ≤ b) (hn : n < 24) (hnil : A = none → n = 0) :
    Calls Tryf.prog 51 #[.pointer (some ⟨b, o, none⟩), .slice A n cap] w fun e w' => (∃ u, e = .panicked [{ v := .iface Tryf.prog.rt.boundsError u, recovered := false }]) ∧ Below base w w' := by
  have hbp : ∀ (m : Int) (W : World), (boundsPanic (α := Value) .i64 23 m .index).run Tryf.prog W = _ := fun m W => Lib.run_boundsPanic_index Tryf.prog 23 m W (by decide) (by decide)
  clear hz fz
  cases A with
  | none =>
    obtain rfl := hnil rfl
    have hix : ∀ W : World, (Instr.indexAt 22 (.slice none 0 cap) (.int .i64 23)).run Tryf.prog W = _ := fun W => Lib.run_indexAt_nil W 22 5 0 cap .i64 23 Tryf.underlying22
    go_enter Tryf.func51, Tryf.ntmps51
    go_wp2
    exact ⟨rfl, ⟨_, rfl⟩, (Below.refl _ _).drew⟩
  | some a =>
    go_enter Tryf.func51, Tryf.ntmps51
    go_wp2
    exact ⟨rfl, ⟨_, rfl⟩, (Below.refl _ _).drew⟩
set_option maxHeartbeats 1000000 in
theorem set25_short (base b o : Nat) (z : N4) (A : Option Addr) (n cap : Nat) (w : World) (hz : At4 w b o z) (fz : Free4 w b o) (hbb : base ≤ b) (hn : n < 25) (hnil : A = none → n = 0) :
    Calls Tryf.prog 52 #[.pointer (some ⟨b, o, none⟩), .slice A n cap] w fun e w' => (∃ u, e = .panicked [{ v := .iface Tryf.prog.rt.boundsError u, recovered := false }]) ∧ Below base w w' := by
  have hbp : ∀ (m : Int) (W : World), (boundsPanic (α := Value) .i64 24 m .index).run Tryf.prog W = _ := fun m W => Lib.run_boundsPanic_index Tryf.prog 24 m W (by decide) (by decide)
  clear hz fz
  cases A with
  | none =>
    obtain rfl := hnil rfl
    have hix : ∀ W : World, (Instr.indexAt 22 (.slice none 0 cap) (.int .i64 24)).run Tryf.prog W = _ := fun W => Lib.run_indexAt_nil W 22 5 0 cap .i64 24 Tryf.underlying22
    go_enter Tryf.func52, Tryf.ntmps52
    go_wp2
    exact ⟨rfl, ⟨_, rfl⟩, (Below.refl _ _).drew⟩
  | some a =>
    go_enter Tryf.func52, Tryf.ntmps52
    go_wp2
    exact ⟨rfl, ⟨_, rfl⟩, (Below.refl _ _).drew⟩
set_option maxHeartbeats 1000000 in
theorem set26_short (base b o : Nat) (z : N4) (A : Option Addr) (n cap : Nat) (w : World) (hz : At4 w b o z) (fz : Free4 w b o) (hbb : base ≤ b) (hn : n < 26) (hnil : A = none → n = 0) :
    Calls Tryf.prog 53 #[.pointer (some ⟨b, o, none⟩), .slice A n cap] w fun e w' => (∃ u, e = .panicked [{ v := .iface Tryf.prog.rt.boundsError u, recovered := false }]) ∧ Below base w w' := by
  have hbp : ∀ (m : Int) (W : World), (boundsPanic (α := Value) .i64 25 m .index).run Tryf.prog W = _ := fun m W => Lib.run_boundsPanic_index Tryf.prog 25 m W (by decide) (by decide)
  clear hz fz
  cases A with
  | none =>
    obtain rfl := hnil rfl
    have hix : ∀ W : World, (Instr.indexAt 22 (.slice none 0 cap) (.int .i64 25)).run Tryf.prog W = _ := fun W => Lib.run_indexAt_nil W 22 5 0 cap .i64 25 Tryf.underlying22
    go_enter Tryf.func53, Tryf.ntmps53
    go_wp2
    exact ⟨rfl, ⟨_, rfl⟩, (Below.refl _ _).drew⟩
  | some a =>
    go_enter Tryf.func53, Tryf.ntmps53
    go_wp2
    exact ⟨rfl, ⟨_, rfl⟩, (Below.refl _ _).drew⟩
set_option maxHeartbeats 1000000 in
theorem set27_short (base b o : Nat) (z : N4) (A : Option Addr) (n cap : Nat) (w : World) (hz : At4 w b o z) (fz : Free4 w b o) (hbb : base ≤ b) (hn : n < 27) (hnil : A = none → n = 0) :
    Calls Tryf.prog 54 #[.pointer (some ⟨b, o, none⟩), .slice A n cap] w fun e w' => (∃ u, e = .panicked [{ v := .iface Tryf.prog.rt.boundsError u, recovered := false }]) ∧ Below base w w' := by
  have hbp : ∀ (m : Int) (W : World), (boundsPanic (α := Value) .i64 26 m .index).run Tryf.prog W = _ := fun m W => Lib.run_boundsPanic_index Tryf.prog 26 m W (by decide) (by decide)
  clear hz fz
  cases A with
  | none =>
    obtain rfl := hnil rfl
    have hix : ∀ W : World, (Instr.indexAt 22 (.slice none 0 cap) (.int .i64 26)).run Tryf.prog W = _ := fun W => Lib.run_indexAt_nil W 22 5 0 cap .i64 26 Tryf.underlying22
    go_enter Tryf.func54, Tryf.ntmps54
    go_wp2
    exact ⟨rfl, ⟨_, rfl⟩, (Below.refl _ _).drew⟩
  | some a =>
    go_enter Tryf.func54, Tryf.ntmps54
    go_wp2
    exact ⟨rfl, ⟨_, rfl⟩, (Below.refl _ _).drew⟩
set_option maxHeartbeats 1000000 in
theorem set28_short (base b o : Nat) (z : N4) (A : Option Addr) (n cap : Nat) (w : World) (hz : At4 w b o z) (fz : Free4 w b o) (hbb : base ≤ b) (hn : n < 28) (hnil : A = none → n = 0) :
    Calls Tryf.prog 55 #[.pointer (some ⟨b, o, none⟩), .slice A n cap] w fun e w' => (∃ u, e = .panicked [{ v := .iface Tryf.prog.rt.boundsError u, recovered := false }]) ∧ Below base w w' := by
  have hbp : ∀ (m : Int) (W : World), (boundsPanic (α := Value) .i64 27 m .index).run Tryf.prog W = _ := fun m W => Lib.run_boundsPanic_index Tryf.prog 27 m W (by decide) (by decide)
  clear hz fz
  cases A with
  | none =>
    obtain rfl := hnil rfl
    have hix : ∀ W : World, (Instr.indexAt 22 (.slice none 0 cap) (.int .i64 27)).run Tryf.prog W = _ := fun W => Lib.run_indexAt_nil W 22 5 0 cap .i64 27 Tryf.underlying22
    go_enter Tryf.func55, Tryf.ntmps55
    go_wp2
    exact ⟨rfl, ⟨_, rfl⟩, (Below.refl _ _).drew⟩
  | some a =>
    go_enter Tryf.func55, Tryf.ntmps55
    go_wp2
    exact ⟨rfl, ⟨_, rfl⟩, (Below.refl _ _).drew⟩
set_option maxHeartbeats 1000000 in
theorem set29_short (base b o : Nat) (z : N4) (A : Option Addr) (n cap : Nat) (w : World) (hz : At4 w b o z) (fz : Free4 w b o) (hbb : base ≤ b) (hn : n < 29) (hnil : A = none → n = 0) :
    Calls Tryf.prog 56 #[.pointer (some ⟨b, o, none⟩), .slice A n cap] w fun e w' => (∃ u, e = .panicked [{ v := .iface Tryf.prog.rt.boundsError u, recovered := false }]) ∧ Below base w w' := by
  have hbp : ∀ (m : Int) (W : World), (boundsPanic (α := Value) .i64 28 m .index).run Tryf.prog W = _ := fun m W => Lib.run_boundsPanic_index Tryf.prog 28 m W (by decide) (by decide)
  clear hz fz
  cases A with
  | none =>
    obtain rfl := hnil rfl
    have hix : ∀ W : World, (Instr.indexAt 22 (.slice none 0 cap) (.int .i64 28)).run Tryf.prog W = _ := fun W => Lib.run_indexAt_nil W 22 5 0 cap .i64 28 Tryf.underlying22
    go_enter Tryf.func56, Tryf.ntmps56
    go_wp2
    exact ⟨rfl, ⟨_, rfl⟩, (Below.refl _ _).drew⟩
  | some a =>
    go_enter Tryf.func56, Tryf.ntmps56
    go_wp2
    exact ⟨rfl, ⟨_, rfl⟩, (Below.refl _ _).drew⟩
set_option maxHeartbeats 1000000 in
theorem set30_short (base b o : Nat) (z : N4) (A : Option Addr) (n cap : Nat) (w : World) (hz : At4 w b o z) (fz : Free4 w b o) (hbb : base ≤ b) (hn : n < 30) (hnil : A = none → n = 0) :
    Calls Tryf.prog 57 #[.pointer (some ⟨b, o, none⟩), .slice A n cap] w fun e w' => (∃ u, e = .panicked [{ v := .iface Tryf.prog.rt.boundsError u, recovered := false }]) ∧ Below base w w' := by
  have hbp : ∀ (m : Int) (W : World), (boundsPanic (α := Value) .i64 29 m .index).run Tryf.prog W = _ := fun m W => Lib.run_boundsPanic_index Tryf.prog 29 m W (by decide) (by decide)
  clear hz fz
  cases A with
  | none =>
    obtain rfl := hnil rfl
    have hix : ∀ W : World, (Instr.indexAt 22 (.slice none 0 cap) (.int .i64 29)).run Tryf.prog W = _ := fun W => Lib.run_indexAt_nil W 22 5 0 cap .i64 29 Tryf.underlying22
    go_enter Tryf.func57, Tryf.ntmps57
    go_wp2
    exact ⟨rfl, ⟨_, rfl⟩, (Below.refl _ _).drew⟩
  | some a =>
    go_enter Tryf.func57, Tryf.ntmps57
    go_wp2
    exact ⟨rfl, ⟨_, rfl⟩, (Below.refl _ _).drew⟩
set_option maxHeartbeats 1000000 in
theorem set31_short (base b o : Nat) (z : N4) (A : Option Addr) (n cap : Nat) (w : World) (hz : At4 w b o z) (fz : Free4 w b o) (hbb : base ≤ b) (hn : n < 31) (hnil : A = none → n = 0) :
    Calls Tryf.prog 58 #[.pointer (some ⟨b, o, none⟩), .slice A n cap] w fun e w' => (∃ u, e = .panicked [{ v := .iface Tryf.prog.rt.boundsError u, recovered := false }]) ∧ Below base w w' := by
  have hbp : ∀ (m : Int) (W : World), (boundsPanic (α := Value) .i64 30 m .index).run Tryf.prog W = _ := fun m W => Lib.run_boundsPanic_index Tryf.prog 30 m W (by decide) (by decide)
  clear hz fz
  cases A with
  | none =>
    obtain rfl := hnil rfl
    have hix : ∀ W : World, (Instr.indexAt 22 (.slice none 0 cap) (.int .i64 30)).run Tryf.prog W = _ := fun W => Lib.run_indexAt_nil W 22 5 0 cap .i64 30 Tryf.underlying22
    go_enter Tryf.func58, Tryf.ntmps58
    go_wp2
    exact ⟨rfl, ⟨_, rfl⟩, (Below.refl _ _).drew⟩
  | some a =>
    go_enter Tryf.func58, Tryf.ntmps58
    go_wp2
    exact ⟨rfl, ⟨_, rfl⟩, (Below.refl _ _).drew⟩
set_option maxHeartbeats 1000000 in
theorem set32_short (base b o : Nat) (z : N4) (A : Option Addr) (n cap : Nat) (w : World) (hz : At4 w b o z) (fz : Free4 w b o) (hbb : base ≤ b) (hn : n < 32) (hnil : A = none → n = 0) :
    Calls Tryf.prog 59 #[.pointer (some ⟨b, o, none⟩), .slice A n cap] w fun e w' => (∃ u, e = .panicked [{ v := .iface Tryf.prog.rt.boundsError u, recovered := false }]) ∧ Below base w w' := by
  have hbp : ∀ (m : Int) (W : World), (boundsPanic (α := Value) .i64 31 m .index).run Tryf.prog W = _ := fun m W => Lib.run_boundsPanic_index Tryf.prog 31 m W (by decide) (by decide)
  clear hz fz
  cases A with
  | none =>
    obtain rfl := hnil rfl
    have hix : ∀ W : World, (Instr.indexAt 22 (.slice none 0 cap) (.int .i64 31)).run Tryf.prog W = _ := fun W => Lib.run_indexAt_nil W 22 5 0 cap .i64 31 Tryf.underlying22
    go_enter Tryf.func59, Tryf.ntmps59
    go_wp2
    exact ⟨rfl, ⟨_, rfl⟩, (Below.refl _ _).drew⟩
  | some a =>
    go_enter Tryf.func59, Tryf.ntmps59
    go_wp2
    exact ⟨rfl, ⟨_, rfl⟩, (Below.refl _ _).drew⟩
end Go.Proofs.YtpmhkmcikjbncaaFmt
