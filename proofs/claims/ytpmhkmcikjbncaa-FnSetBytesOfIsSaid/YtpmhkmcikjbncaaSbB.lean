/-
  SetBytes17 to 32: their panics; setMany.
-/
import Derived.Test.YtpmhkmcikjbncaaSb1
import Derived.Test.YtpmhkmcikjbncaaSb2
import Derived.Test.YtpmhkmcikjbncaaSb3
import Derived.Test.YtpmhkmcikjbncaaSb4
import Derived.Test.YtpmhkmcikjbncaaPut
namespace Go.Proofs.Ytpmhkmcikjbncaa
open Go.RowKit
set_option linter.unusedVariables false
set_option linter.unusedSimpArgs false
set_option maxRecDepth 100000
set_option maxHeartbeats 1000000 in
theorem set17_short (base b o : Nat) (z : N4) (A : Option Addr) (n cap : Nat) (w : World) (hz : At4 w b o z) (fz : Free4 w b o) (hbb : base ≤ b) (hn : n < 17) (hnil : A = none → n = 0) :
    Calls Try.prog 78 #[.pointer (some ⟨b, o, none⟩), .slice A n cap] w fun e w' => (∃ u, e = .panicked [{ v := .iface Try.prog.rt.boundsError u, recovered := false }]) ∧ Below base w w' := by
  have hbp : ∀ (m : Int) (W : World), (boundsPanic (α := Value) .i64 16 m .index).run Try.prog W = _ := fun m W => Lib.run_boundsPanic_index Try.prog 16 m W (by decide) (by decide)
  clear hz fz
  cases A with
  | none =>
    obtain rfl := hnil rfl
    have hix : ∀ W : World, (Instr.indexAt 25 (.slice none 0 cap) (.int .i64 16)).run Try.prog W = _ := fun W => Lib.run_indexAt_nil W 25 5 0 cap .i64 16 Try.underlying25
    go_enter Try.func78, Try.ntmps78
    go_wp2
    exact ⟨rfl, ⟨_, rfl⟩, (Below.refl _ _).drew⟩
  | some a =>
    go_enter Try.func78, Try.ntmps78
    go_wp2
    exact ⟨rfl, ⟨_, rfl⟩, (Below.refl _ _).drew⟩
set_option maxHeartbeats 1000000 in
theorem setMany_17 (b o : Nat) (z : N4) (g q cap : Nat) (l : List UInt8) (w : World) (hz : At4 w b o z) (fz : Free4 w b o) (hB : BytesAt w g q l) (n : Nat) (hl : l.length = n) (hn : 17 ≤ n) (hcap : n ≤ cap) (hne : g ≠ b) : Calls Try.prog 54 #[.pointer (some ⟨b, o, none⟩), .int .i64 17, .slice (some ⟨g, q, none⟩) n cap] w fun e w' => e = .returned (.tuple #[]) ∧ Left w b o (ofN (Lib.beNat (l.take 17))) w' := by
  have HC := Lib.hid (set17_any b o z g q n cap l w hz fz hB hl hn hcap hne)
  clear hz fz hB hl
  go_enter Try.func54, Try.ntmps54
  go_wp2_with (go_at_call 78; refine HC.out.mono ?_; rintro e w1 ⟨rfl, H⟩)
  go_end0
  exact ⟨rfl, H⟩
set_option maxHeartbeats 1000000 in
theorem setMany_17_short (base b o : Nat) (z : N4) (A : Option Addr) (n cap : Nat) (w : World) (hz : At4 w b o z) (fz : Free4 w b o) (hbb : base ≤ b) (hn : n < 17) (hnil : A = none → n = 0) : Calls Try.prog 54 #[.pointer (some ⟨b, o, none⟩), .int .i64 17, .slice A n cap] w fun e w' => (∃ u, e = .panicked [{ v := .iface Try.prog.rt.boundsError u, recovered := false }]) ∧ Below base w w' := by
  have HC := Lib.hid (set17_short base b o z A n cap w hz fz hbb hn hnil)
  clear hz fz hnil
  go_enter Try.func54, Try.ntmps54
  go_wp2_with (go_at_call 78; refine HC.out.mono ?_; rintro e w1 ⟨⟨u, rfl⟩, H⟩)
  exact ⟨rfl, ⟨_, rfl⟩, H⟩
set_option maxHeartbeats 1000000 in
theorem set18_short (base b o : Nat) (z : N4) (A : Option Addr) (n cap : Nat) (w : World) (hz : At4 w b o z) (fz : Free4 w b o) (hbb : base ≤ b) (hn : n < 18) (hnil : A = none → n = 0) :
    Calls Try.prog 79 #[.pointer (some ⟨b, o, none⟩), .slice A n cap] w fun e w' => (∃ u, e = .panicked [{ v := .iface Try.prog.rt.boundsError u, recovered := false }]) ∧ Below base w w' := by
  have hbp : ∀ (m : Int) (W : World), (boundsPanic (α := Value) .i64 17 m .index).run Try.prog W = _ := fun m W => Lib.run_boundsPanic_index Try.prog 17 m W (by decide) (by decide)
  clear hz fz
  cases A with
  | none =>
    obtain rfl := hnil rfl
    have hix : ∀ W : World, (Instr.indexAt 25 (.slice none 0 cap) (.int .i64 17)).run Try.prog W = _ := fun W => Lib.run_indexAt_nil W 25 5 0 cap .i64 17 Try.underlying25
    go_enter Try.func79, Try.ntmps79
    go_wp2
    exact ⟨rfl, ⟨_, rfl⟩, (Below.refl _ _).drew⟩
  | some a =>
    go_enter Try.func79, Try.ntmps79
    go_wp2
    exact ⟨rfl, ⟨_, rfl⟩, (Below.refl _ _).drew⟩
set_option maxHeartbeats 1000000 in
theorem setMany_18 (b o : Nat) (z : N4) (g q cap : Nat) (l : List UInt8) (w : World) (hz : At4 w b o z) (fz : Free4 w b o) (hB : BytesAt w g q l) (n : Nat) (hl : l.length = n) (hn : 18 ≤ n) (hcap : n ≤ cap) (hne : g ≠ b) : Calls Try.prog 54 #[.pointer (some ⟨b, o, none⟩), .int .i64 18, .slice (some ⟨g, q, none⟩) n cap] w fun e w' => e = .returned (.tuple #[]) ∧ Left w b o (ofN (Lib.beNat (l.take 18))) w' := by
  have HC := Lib.hid (set18_any b o z g q n cap l w hz fz hB hl hn hcap hne)
  clear hz fz hB hl
  go_enter Try.func54, Try.ntmps54
  go_wp2_with (go_at_call 79; refine HC.out.mono ?_; rintro e w1 ⟨rfl, H⟩)
  go_end0
  exact ⟨rfl, H⟩
set_option maxHeartbeats 1000000 in
theorem setMany_18_short (base b o : Nat) (z : N4) (A : Option Addr) (n cap : Nat) (w : World) (hz : At4 w b o z) (fz : Free4 w b o) (hbb : base ≤ b) (hn : n < 18) (hnil : A = none → n = 0) : Calls Try.prog 54 #[.pointer (some ⟨b, o, none⟩), .int .i64 18, .slice A n cap] w fun e w' => (∃ u, e = .panicked [{ v := .iface Try.prog.rt.boundsError u, recovered := false }]) ∧ Below base w w' := by
  have HC := Lib.hid (set18_short base b o z A n cap w hz fz hbb hn hnil)
  clear hz fz hnil
  go_enter Try.func54, Try.ntmps54
  go_wp2_with (go_at_call 79; refine HC.out.mono ?_; rintro e w1 ⟨⟨u, rfl⟩, H⟩)
  exact ⟨rfl, ⟨_, rfl⟩, H⟩
set_option maxHeartbeats 1000000 in
theorem set19_short (base b o : Nat) (z : N4) (A : Option Addr) (n cap : Nat) (w : World) (hz : At4 w b o z) (fz : Free4 w b o) (hbb : base ≤ b) (hn : n < 19) (hnil : A = none → n = 0) :
    Calls Try.prog 80 #[.pointer (some ⟨b, o, none⟩), .slice A n cap] w fun e w' => (∃ u, e = .panicked [{ v := .iface Try.prog.rt.boundsError u, recovered := false }]) ∧ Below base w w' := by
  have hbp : ∀ (m : Int) (W : World), (boundsPanic (α := Value) .i64 18 m .index).run Try.prog W = _ := fun m W => Lib.run_boundsPanic_index Try.prog 18 m W (by decide) (by decide)
  clear hz fz
  cases A with
  | none =>
    obtain rfl := hnil rfl
    have hix : ∀ W : World, (Instr.indexAt 25 (.slice none 0 cap) (.int .i64 18)).run Try.prog W = _ := fun W => Lib.run_indexAt_nil W 25 5 0 cap .i64 18 Try.underlying25
    go_enter Try.func80, Try.ntmps80
    go_wp2
    exact ⟨rfl, ⟨_, rfl⟩, (Below.refl _ _).drew⟩
  | some a =>
    go_enter Try.func80, Try.ntmps80
    go_wp2
    exact ⟨rfl, ⟨_, rfl⟩, (Below.refl _ _).drew⟩
set_option maxHeartbeats 1000000 in
theorem setMany_19 (b o : Nat) (z : N4) (g q cap : Nat) (l : List UInt8) (w : World) (hz : At4 w b o z) (fz : Free4 w b o) (hB : BytesAt w g q l) (n : Nat) (hl : l.length = n) (hn : 19 ≤ n) (hcap : n ≤ cap) (hne : g ≠ b) : Calls Try.prog 54 #[.pointer (some ⟨b, o, none⟩), .int .i64 19, .slice (some ⟨g, q, none⟩) n cap] w fun e w' => e = .returned (.tuple #[]) ∧ Left w b o (ofN (Lib.beNat (l.take 19))) w' := by
  have HC := Lib.hid (set19_any b o z g q n cap l w hz fz hB hl hn hcap hne)
  clear hz fz hB hl
  go_enter Try.func54, Try.ntmps54
  go_wp2_with (go_at_call 80; refine HC.out.mono ?_; rintro e w1 ⟨rfl, H⟩)
  go_end0
  exact ⟨rfl, H⟩
set_option maxHeartbeats 1000000 in
theorem setMany_19_short (base b o : Nat) (z : N4) (A : Option Addr) (n cap : Nat) (w : World) (hz : At4 w b o z) (fz : Free4 w b o) (hbb : base ≤ b) (hn : n < 19) (hnil : A = none → n = 0) : Calls Try.prog 54 #[.pointer (some ⟨b, o, none⟩), .int .i64 19, .slice A n cap] w fun e w' => (∃ u, e = .panicked [{ v := .iface Try.prog.rt.boundsError u, recovered := false }]) ∧ Below base w w' := by
  have HC := Lib.hid (set19_short base b o z A n cap w hz fz hbb hn hnil)
  clear hz fz hnil
  go_enter Try.func54, Try.ntmps54
  go_wp2_with (go_at_call 80; refine HC.out.mono ?_; rintro e w1 ⟨⟨u, rfl⟩, H⟩)
  exact ⟨rfl, ⟨_, rfl⟩, H⟩
set_option maxHeartbeats 1000000 in
theorem set20_short (base b o : Nat) (z : N4) (A : Option Addr) (n cap : Nat) (w : World) (hz : At4 w b o z) (fz : Free4 w b o) (hbb : base ≤ b) (hn : n < 20) (hnil : A = none → n = 0) :
    Calls Try.prog 81 #[.pointer (some ⟨b, o, none⟩), .slice A n cap] w fun e w' => (∃ u, e = .panicked [{ v := .iface Try.prog.rt.boundsError u, recovered := false }]) ∧ Below base w w' := by
  have hbp : ∀ (m : Int) (W : World), (boundsPanic (α := Value) .i64 19 m .index).run Try.prog W = _ := fun m W => Lib.run_boundsPanic_index Try.prog 19 m W (by decide) (by decide)
  clear hz fz
  cases A with
  | none =>
    obtain rfl := hnil rfl
    have hix : ∀ W : World, (Instr.indexAt 25 (.slice none 0 cap) (.int .i64 19)).run Try.prog W = _ := fun W => Lib.run_indexAt_nil W 25 5 0 cap .i64 19 Try.underlying25
    go_enter Try.func81, Try.ntmps81
    go_wp2
    exact ⟨rfl, ⟨_, rfl⟩, (Below.refl _ _).drew⟩
  | some a =>
    go_enter Try.func81, Try.ntmps81
    go_wp2
    exact ⟨rfl, ⟨_, rfl⟩, (Below.refl _ _).drew⟩
set_option maxHeartbeats 1000000 in
theorem setMany_20 (b o : Nat) (z : N4) (g q cap : Nat) (l : List UInt8) (w : World) (hz : At4 w b o z) (fz : Free4 w b o) (hB : BytesAt w g q l) (n : Nat) (hl : l.length = n) (hn : 20 ≤ n) (hcap : n ≤ cap) (hne : g ≠ b) : Calls Try.prog 54 #[.pointer (some ⟨b, o, none⟩), .int .i64 20, .slice (some ⟨g, q, none⟩) n cap] w fun e w' => e = .returned (.tuple #[]) ∧ Left w b o (ofN (Lib.beNat (l.take 20))) w' := by
  have HC := Lib.hid (set20_any b o z g q n cap l w hz fz hB hl hn hcap hne)
  clear hz fz hB hl
  go_enter Try.func54, Try.ntmps54
  go_wp2_with (go_at_call 81; refine HC.out.mono ?_; rintro e w1 ⟨rfl, H⟩)
  go_end0
  exact ⟨rfl, H⟩
set_option maxHeartbeats 1000000 in
theorem setMany_20_short (base b o : Nat) (z : N4) (A : Option Addr) (n cap : Nat) (w : World) (hz : At4 w b o z) (fz : Free4 w b o) (hbb : base ≤ b) (hn : n < 20) (hnil : A = none → n = 0) : Calls Try.prog 54 #[.pointer (some ⟨b, o, none⟩), .int .i64 20, .slice A n cap] w fun e w' => (∃ u, e = .panicked [{ v := .iface Try.prog.rt.boundsError u, recovered := false }]) ∧ Below base w w' := by
  have HC := Lib.hid (set20_short base b o z A n cap w hz fz hbb hn hnil)
  clear hz fz hnil
  go_enter Try.func54, Try.ntmps54
  go_wp2_with (go_at_call 81; refine HC.out.mono ?_; rintro e w1 ⟨⟨u, rfl⟩, H⟩)
  exact ⟨rfl, ⟨_, rfl⟩, H⟩
set_option maxHeartbeats 1000000 in
theorem set21_short (base b o : Nat) (z : N4) (A : Option Addr) (n cap : Nat) (w : World) (hz : At4 w b o z) (fz : Free4 w b o) (hbb : base ≤ b) (hn : n < 21) (hnil : A = none → n = 0) :
    Calls Try.prog 82 #[.pointer (some ⟨b, o, none⟩), .slice A n cap] w fun e w' => (∃ u, e = .panicked [{ v := .iface Try.prog.rt.boundsError u, recovered := false }]) ∧ Below base w w' := by
  have hbp : ∀ (m : Int) (W : World), (boundsPanic (α := Value) .i64 20 m .index).run Try.prog W = _ := fun m W => Lib.run_boundsPanic_index Try.prog 20 m W (by decide) (by decide)
  clear hz fz
  cases A with
  | none =>
    obtain rfl := hnil rfl
    have hix : ∀ W : World, (Instr.indexAt 25 (.slice none 0 cap) (.int .i64 20)).run Try.prog W = _ := fun W => Lib.run_indexAt_nil W 25 5 0 cap .i64 20 Try.underlying25
    go_enter Try.func82, Try.ntmps82
    go_wp2
    exact ⟨rfl, ⟨_, rfl⟩, (Below.refl _ _).drew⟩
  | some a =>
    go_enter Try.func82, Try.ntmps82
    go_wp2
    exact ⟨rfl, ⟨_, rfl⟩, (Below.refl _ _).drew⟩
set_option maxHeartbeats 1000000 in
theorem setMany_21 (b o : Nat) (z : N4) (g q cap : Nat) (l : List UInt8) (w : World) (hz : At4 w b o z) (fz : Free4 w b o) (hB : BytesAt w g q l) (n : Nat) (hl : l.length = n) (hn : 21 ≤ n) (hcap : n ≤ cap) (hne : g ≠ b) : Calls Try.prog 54 #[.pointer (some ⟨b, o, none⟩), .int .i64 21, .slice (some ⟨g, q, none⟩) n cap] w fun e w' => e = .returned (.tuple #[]) ∧ Left w b o (ofN (Lib.beNat (l.take 21))) w' := by
  have HC := Lib.hid (set21_any b o z g q n cap l w hz fz hB hl hn hcap hne)
  clear hz fz hB hl
  go_enter Try.func54, Try.ntmps54
  go_wp2_with (go_at_call 82; refine HC.out.mono ?_; rintro e w1 ⟨rfl, H⟩)
  go_end0
  exact ⟨rfl, H⟩
set_option maxHeartbeats 1000000 in
theorem setMany_21_short (base b o : Nat) (z : N4) (A : Option Addr) (n cap : Nat) (w : World) (hz : At4 w b o z) (fz : Free4 w b o) (hbb : base ≤ b) (hn : n < 21) (hnil : A = none → n = 0) : Calls Try.prog 54 #[.pointer (some ⟨b, o, none⟩), .int .i64 21, .slice A n cap] w fun e w' => (∃ u, e = .panicked [{ v := .iface Try.prog.rt.boundsError u, recovered := false }]) ∧ Below base w w' := by
  have HC := Lib.hid (set21_short base b o z A n cap w hz fz hbb hn hnil)
  clear hz fz hnil
  go_enter Try.func54, Try.ntmps54
  go_wp2_with (go_at_call 82; refine HC.out.mono ?_; rintro e w1 ⟨⟨u, rfl⟩, H⟩)
  exact ⟨rfl, ⟨_, rfl⟩, H⟩
set_option maxHeartbeats 1000000 in
theorem set22_short (base b o : Nat) (z : N4) (A : Option Addr) (n cap : Nat) (w : World) (hz : At4 w b o z) (fz : Free4 w b o) (hbb : base ≤ b) (hn : n < 22) (hnil : A = none → n = 0) :
    Calls Try.prog 83 #[.pointer (some ⟨b, o, none⟩), .slice A n cap] w fun e w' => (∃ u, e = .panicked [{ v := .iface Try.prog.rt.boundsError u, recovered := false }]) ∧ Below base w w' := by
  have hbp : ∀ (m : Int) (W : World), (boundsPanic (α := Value) .i64 21 m .index).run Try.prog W = _ := fun m W => Lib.run_boundsPanic_index Try.prog 21 m W (by decide) (by decide)
  clear hz fz
  cases A with
  | none =>
    obtain rfl := hnil rfl
    have hix : ∀ W : World, (Instr.indexAt 25 (.slice none 0 cap) (.int .i64 21)).run Try.prog W = _ := fun W => Lib.run_indexAt_nil W 25 5 0 cap .i64 21 Try.underlying25
    go_enter Try.func83, Try.ntmps83
    go_wp2
    exact ⟨rfl, ⟨_, rfl⟩, (Below.refl _ _).drew⟩
  | some a =>
    go_enter Try.func83, Try.ntmps83
    go_wp2
    exact ⟨rfl, ⟨_, rfl⟩, (Below.refl _ _).drew⟩
set_option maxHeartbeats 1000000 in
theorem setMany_22 (b o : Nat) (z : N4) (g q cap : Nat) (l : List UInt8) (w : World) (hz : At4 w b o z) (fz : Free4 w b o) (hB : BytesAt w g q l) (n : Nat) (hl : l.length = n) (hn : 22 ≤ n) (hcap : n ≤ cap) (hne : g ≠ b) : Calls Try.prog 54 #[.pointer (some ⟨b, o, none⟩), .int .i64 22, .slice (some ⟨g, q, none⟩) n cap] w fun e w' => e = .returned (.tuple #[]) ∧ Left w b o (ofN (Lib.beNat (l.take 22))) w' := by
  have HC := Lib.hid (set22_any b o z g q n cap l w hz fz hB hl hn hcap hne)
  clear hz fz hB hl
  go_enter Try.func54, Try.ntmps54
  go_wp2_with (go_at_call 83; refine HC.out.mono ?_; rintro e w1 ⟨rfl, H⟩)
  go_end0
  exact ⟨rfl, H⟩
set_option maxHeartbeats 1000000 in
theorem setMany_22_short (base b o : Nat) (z : N4) (A : Option Addr) (n cap : Nat) (w : World) (hz : At4 w b o z) (fz : Free4 w b o) (hbb : base ≤ b) (hn : n < 22) (hnil : A = none → n = 0) : Calls Try.prog 54 #[.pointer (some ⟨b, o, none⟩), .int .i64 22, .slice A n cap] w fun e w' => (∃ u, e = .panicked [{ v := .iface Try.prog.rt.boundsError u, recovered := false }]) ∧ Below base w w' := by
  have HC := Lib.hid (set22_short base b o z A n cap w hz fz hbb hn hnil)
  clear hz fz hnil
  go_enter Try.func54, Try.ntmps54
  go_wp2_with (go_at_call 83; refine HC.out.mono ?_; rintro e w1 ⟨⟨u, rfl⟩, H⟩)
  exact ⟨rfl, ⟨_, rfl⟩, H⟩
set_option maxHeartbeats 1000000 in
theorem set23_short (base b o : Nat) (z : N4) (A : Option Addr) (n cap : Nat) (w : World) (hz : At4 w b o z) (fz : Free4 w b o) (hbb : base ≤ b) (hn : n < 23) (hnil : A = none → n = 0) :
    Calls Try.prog 84 #[.pointer (some ⟨b, o, none⟩), .slice A n cap] w fun e w' => (∃ u, e = .panicked [{ v := .iface Try.prog.rt.boundsError u, recovered := false }]) ∧ Below base w w' := by
  have hbp : ∀ (m : Int) (W : World), (boundsPanic (α := Value) .i64 22 m .index).run Try.prog W = _ := fun m W => Lib.run_boundsPanic_index Try.prog 22 m W (by decide) (by decide)
  clear hz fz
  cases A with
  | none =>
    obtain rfl := hnil rfl
    have hix : ∀ W : World, (Instr.indexAt 25 (.slice none 0 cap) (.int .i64 22)).run Try.prog W = _ := fun W => Lib.run_indexAt_nil W 25 5 0 cap .i64 22 Try.underlying25
    go_enter Try.func84, Try.ntmps84
    go_wp2
    exact ⟨rfl, ⟨_, rfl⟩, (Below.refl _ _).drew⟩
  | some a =>
    go_enter Try.func84, Try.ntmps84
    go_wp2
    exact ⟨rfl, ⟨_, rfl⟩, (Below.refl _ _).drew⟩
set_option maxHeartbeats 1000000 in
theorem setMany_23 (b o : Nat) (z : N4) (g q cap : Nat) (l : List UInt8) (w : World) (hz : At4 w b o z) (fz : Free4 w b o) (hB : BytesAt w g q l) (n : Nat) (hl : l.length = n) (hn : 23 ≤ n) (hcap : n ≤ cap) (hne : g ≠ b) : Calls Try.prog 54 #[.pointer (some ⟨b, o, none⟩), .int .i64 23, .slice (some ⟨g, q, none⟩) n cap] w fun e w' => e = .returned (.tuple #[]) ∧ Left w b o (ofN (Lib.beNat (l.take 23))) w' := by
  have HC := Lib.hid (set23_any b o z g q n cap l w hz fz hB hl hn hcap hne)
  clear hz fz hB hl
  go_enter Try.func54, Try.ntmps54
  go_wp2_with (go_at_call 84; refine HC.out.mono ?_; rintro e w1 ⟨rfl, H⟩)
  go_end0
  exact ⟨rfl, H⟩
set_option maxHeartbeats 1000000 in
theorem setMany_23_short (base b o : Nat) (z : N4) (A : Option Addr) (n cap : Nat) (w : World) (hz : At4 w b o z) (fz : Free4 w b o) (hbb : base ≤ b) (hn : n < 23) (hnil : A = none → n = 0) : Calls Try.prog 54 #[.pointer (some ⟨b, o, none⟩), .int .i64 23, .slice A n cap] w fun e w' => (∃ u, e = .panicked [{ v := .iface Try.prog.rt.boundsError u, recovered := false }]) ∧ Below base w w' := by
  have HC := Lib.hid (set23_short base b o z A n cap w hz fz hbb hn hnil)
  clear hz fz hnil
  go_enter Try.func54, Try.ntmps54
  go_wp2_with (go_at_call 84; refine HC.out.mono ?_; rintro e w1 ⟨⟨u, rfl⟩, H⟩)
  exact ⟨rfl, ⟨_, rfl⟩, H⟩
set_option maxHeartbeats 1000000 in
theorem set24_short (base b o : Nat) (z : N4) (A : Option Addr) (n cap : Nat) (w : World) (hz : At4 w b o z) (fz : Free4 w b o) (hbb : base ≤ b) (hn : n < 24) (hnil : A = none → n = 0) :
    Calls Try.prog 85 #[.pointer (some ⟨b, o, none⟩), .slice A n cap] w fun e w' => (∃ u, e = .panicked [{ v := .iface Try.prog.rt.boundsError u, recovered := false }]) ∧ Below base w w' := by
  have hbp : ∀ (m : Int) (W : World), (boundsPanic (α := Value) .i64 23 m .index).run Try.prog W = _ := fun m W => Lib.run_boundsPanic_index Try.prog 23 m W (by decide) (by decide)
  clear hz fz
  cases A with
  | none =>
    obtain rfl := hnil rfl
    have hix : ∀ W : World, (Instr.indexAt 25 (.slice none 0 cap) (.int .i64 23)).run Try.prog W = _ := fun W => Lib.run_indexAt_nil W 25 5 0 cap .i64 23 Try.underlying25
    go_enter Try.func85, Try.ntmps85
    go_wp2
    exact ⟨rfl, ⟨_, rfl⟩, (Below.refl _ _).drew⟩
  | some a =>
    go_enter Try.func85, Try.ntmps85
    go_wp2
    exact ⟨rfl, ⟨_, rfl⟩, (Below.refl _ _).drew⟩
set_option maxHeartbeats 1000000 in
theorem setMany_24 (b o : Nat) (z : N4) (g q cap : Nat) (l : List UInt8) (w : World) (hz : At4 w b o z) (fz : Free4 w b o) (hB : BytesAt w g q l) (n : Nat) (hl : l.length = n) (hn : 24 ≤ n) (hcap : n ≤ cap) (hne : g ≠ b) : Calls Try.prog 54 #[.pointer (some ⟨b, o, none⟩), .int .i64 24, .slice (some ⟨g, q, none⟩) n cap] w fun e w' => e = .returned (.tuple #[]) ∧ Left w b o (ofN (Lib.beNat (l.take 24))) w' := by
  have HC := Lib.hid (set24_any b o z g q n cap l w hz fz hB hl hn hcap hne)
  clear hz fz hB hl
  go_enter Try.func54, Try.ntmps54
  go_wp2_with (go_at_call 85; refine HC.out.mono ?_; rintro e w1 ⟨rfl, H⟩)
  go_end0
  exact ⟨rfl, H⟩
set_option maxHeartbeats 1000000 in
theorem setMany_24_short (base b o : Nat) (z : N4) (A : Option Addr) (n cap : Nat) (w : World) (hz : At4 w b o z) (fz : Free4 w b o) (hbb : base ≤ b) (hn : n < 24) (hnil : A = none → n = 0) : Calls Try.prog 54 #[.pointer (some ⟨b, o, none⟩), .int .i64 24, .slice A n cap] w fun e w' => (∃ u, e = .panicked [{ v := .iface Try.prog.rt.boundsError u, recovered := false }]) ∧ Below base w w' := by
  have HC := Lib.hid (set24_short base b o z A n cap w hz fz hbb hn hnil)
  clear hz fz hnil
  go_enter Try.func54, Try.ntmps54
  go_wp2_with (go_at_call 85; refine HC.out.mono ?_; rintro e w1 ⟨⟨u, rfl⟩, H⟩)
  exact ⟨rfl, ⟨_, rfl⟩, H⟩
set_option maxHeartbeats 1000000 in
theorem set25_short (base b o : Nat) (z : N4) (A : Option Addr) (n cap : Nat) (w : World) (hz : At4 w b o z) (fz : Free4 w b o) (hbb : base ≤ b) (hn : n < 25) (hnil : A = none → n = 0) :
    Calls Try.prog 86 #[.pointer (some ⟨b, o, none⟩), .slice A n cap] w fun e w' => (∃ u, e = .panicked [{ v := .iface Try.prog.rt.boundsError u, recovered := false }]) ∧ Below base w w' := by
  have hbp : ∀ (m : Int) (W : World), (boundsPanic (α := Value) .i64 24 m .index).run Try.prog W = _ := fun m W => Lib.run_boundsPanic_index Try.prog 24 m W (by decide) (by decide)
  clear hz fz
  cases A with
  | none =>
    obtain rfl := hnil rfl
    have hix : ∀ W : World, (Instr.indexAt 25 (.slice none 0 cap) (.int .i64 24)).run Try.prog W = _ := fun W => Lib.run_indexAt_nil W 25 5 0 cap .i64 24 Try.underlying25
    go_enter Try.func86, Try.ntmps86
    go_wp2
    exact ⟨rfl, ⟨_, rfl⟩, (Below.refl _ _).drew⟩
  | some a =>
    go_enter Try.func86, Try.ntmps86
    go_wp2
    exact ⟨rfl, ⟨_, rfl⟩, (Below.refl _ _).drew⟩
set_option maxHeartbeats 1000000 in
theorem setMany_25 (b o : Nat) (z : N4) (g q cap : Nat) (l : List UInt8) (w : World) (hz : At4 w b o z) (fz : Free4 w b o) (hB : BytesAt w g q l) (n : Nat) (hl : l.length = n) (hn : 25 ≤ n) (hcap : n ≤ cap) (hne : g ≠ b) : Calls Try.prog 54 #[.pointer (some ⟨b, o, none⟩), .int .i64 25, .slice (some ⟨g, q, none⟩) n cap] w fun e w' => e = .returned (.tuple #[]) ∧ Left w b o (ofN (Lib.beNat (l.take 25))) w' := by
  have HC := Lib.hid (set25_any b o z g q n cap l w hz fz hB hl hn hcap hne)
  clear hz fz hB hl
  go_enter Try.func54, Try.ntmps54
  go_wp2_with (go_at_call 86; refine HC.out.mono ?_; rintro e w1 ⟨rfl, H⟩)
  go_end0
  exact ⟨rfl, H⟩
set_option maxHeartbeats 1000000 in
theorem setMany_25_short (base b o : Nat) (z : N4) (A : Option Addr) (n cap : Nat) (w : World) (hz : At4 w b o z) (fz : Free4 w b o) (hbb : base ≤ b) (hn : n < 25) (hnil : A = none → n = 0) : Calls Try.prog 54 #[.pointer (some ⟨b, o, none⟩), .int .i64 25, .slice A n cap] w fun e w' => (∃ u, e = .panicked [{ v := .iface Try.prog.rt.boundsError u, recovered := false }]) ∧ Below base w w' := by
  have HC := Lib.hid (set25_short base b o z A n cap w hz fz hbb hn hnil)
  clear hz fz hnil
  go_enter Try.func54, Try.ntmps54
  go_wp2_with (go_at_call 86; refine HC.out.mono ?_; rintro e w1 ⟨⟨u, rfl⟩, H⟩)
  exact ⟨rfl, ⟨_, rfl⟩, H⟩
set_option maxHeartbeats 1000000 in
theorem set26_short (base b o : Nat) (z : N4) (A : Option Addr) (n cap : Nat) (w : World) (hz : At4 w b o z) (fz : Free4 w b o) (hbb : base ≤ b) (hn : n < 26) (hnil : A = none → n = 0) :
    Calls Try.prog 87 #[.pointer (some ⟨b, o, none⟩), .slice A n cap] w fun e w' => (∃ u, e = .panicked [{ v := .iface Try.prog.rt.boundsError u, recovered := false }]) ∧ Below base w w' := by
  have hbp : ∀ (m : Int) (W : World), (boundsPanic (α := Value) .i64 25 m .index).run Try.prog W = _ := fun m W => Lib.run_boundsPanic_index Try.prog 25 m W (by decide) (by decide)
  clear hz fz
  cases A with
  | none =>
    obtain rfl := hnil rfl
    have hix : ∀ W : World, (Instr.indexAt 25 (.slice none 0 cap) (.int .i64 25)).run Try.prog W = _ := fun W => Lib.run_indexAt_nil W 25 5 0 cap .i64 25 Try.underlying25
    go_enter Try.func87, Try.ntmps87
    go_wp2
    exact ⟨rfl, ⟨_, rfl⟩, (Below.refl _ _).drew⟩
  | some a =>
    go_enter Try.func87, Try.ntmps87
    go_wp2
    exact ⟨rfl, ⟨_, rfl⟩, (Below.refl _ _).drew⟩
set_option maxHeartbeats 1000000 in
theorem setMany_26 (b o : Nat) (z : N4) (g q cap : Nat) (l : List UInt8) (w : World) (hz : At4 w b o z) (fz : Free4 w b o) (hB : BytesAt w g q l) (n : Nat) (hl : l.length = n) (hn : 26 ≤ n) (hcap : n ≤ cap) (hne : g ≠ b) : Calls Try.prog 54 #[.pointer (some ⟨b, o, none⟩), .int .i64 26, .slice (some ⟨g, q, none⟩) n cap] w fun e w' => e = .returned (.tuple #[]) ∧ Left w b o (ofN (Lib.beNat (l.take 26))) w' := by
  have HC := Lib.hid (set26_any b o z g q n cap l w hz fz hB hl hn hcap hne)
  clear hz fz hB hl
  go_enter Try.func54, Try.ntmps54
  go_wp2_with (go_at_call 87; refine HC.out.mono ?_; rintro e w1 ⟨rfl, H⟩)
  go_end0
  exact ⟨rfl, H⟩
set_option maxHeartbeats 1000000 in
theorem setMany_26_short (base b o : Nat) (z : N4) (A : Option Addr) (n cap : Nat) (w : World) (hz : At4 w b o z) (fz : Free4 w b o) (hbb : base ≤ b) (hn : n < 26) (hnil : A = none → n = 0) : Calls Try.prog 54 #[.pointer (some ⟨b, o, none⟩), .int .i64 26, .slice A n cap] w fun e w' => (∃ u, e = .panicked [{ v := .iface Try.prog.rt.boundsError u, recovered := false }]) ∧ Below base w w' := by
  have HC := Lib.hid (set26_short base b o z A n cap w hz fz hbb hn hnil)
  clear hz fz hnil
  go_enter Try.func54, Try.ntmps54
  go_wp2_with (go_at_call 87; refine HC.out.mono ?_; rintro e w1 ⟨⟨u, rfl⟩, H⟩)
  exact ⟨rfl, ⟨_, rfl⟩, H⟩
set_option maxHeartbeats 1000000 in
theorem set27_short (base b o : Nat) (z : N4) (A : Option Addr) (n cap : Nat) (w : World) (hz : At4 w b o z) (fz : Free4 w b o) (hbb : base ≤ b) (hn : n < 27) (hnil : A = none → n = 0) :
    Calls Try.prog 88 #[.pointer (some ⟨b, o, none⟩), .slice A n cap] w fun e w' => (∃ u, e = .panicked [{ v := .iface Try.prog.rt.boundsError u, recovered := false }]) ∧ Below base w w' := by
  have hbp : ∀ (m : Int) (W : World), (boundsPanic (α := Value) .i64 26 m .index).run Try.prog W = _ := fun m W => Lib.run_boundsPanic_index Try.prog 26 m W (by decide) (by decide)
  clear hz fz
  cases A with
  | none =>
    obtain rfl := hnil rfl
    have hix : ∀ W : World, (Instr.indexAt 25 (.slice none 0 cap) (.int .i64 26)).run Try.prog W = _ := fun W => Lib.run_indexAt_nil W 25 5 0 cap .i64 26 Try.underlying25
    go_enter Try.func88, Try.ntmps88
    go_wp2
    exact ⟨rfl, ⟨_, rfl⟩, (Below.refl _ _).drew⟩
  | some a =>
    go_enter Try.func88, Try.ntmps88
    go_wp2
    exact ⟨rfl, ⟨_, rfl⟩, (Below.refl _ _).drew⟩
set_option maxHeartbeats 1000000 in
theorem setMany_27 (b o : Nat) (z : N4) (g q cap : Nat) (l : List UInt8) (w : World) (hz : At4 w b o z) (fz : Free4 w b o) (hB : BytesAt w g q l) (n : Nat) (hl : l.length = n) (hn : 27 ≤ n) (hcap : n ≤ cap) (hne : g ≠ b) : Calls Try.prog 54 #[.pointer (some ⟨b, o, none⟩), .int .i64 27, .slice (some ⟨g, q, none⟩) n cap] w fun e w' => e = .returned (.tuple #[]) ∧ Left w b o (ofN (Lib.beNat (l.take 27))) w' := by
  have HC := Lib.hid (set27_any b o z g q n cap l w hz fz hB hl hn hcap hne)
  clear hz fz hB hl
  go_enter Try.func54, Try.ntmps54
  go_wp2_with (go_at_call 88; refine HC.out.mono ?_; rintro e w1 ⟨rfl, H⟩)
  go_end0
  exact ⟨rfl, H⟩
set_option maxHeartbeats 1000000 in
theorem setMany_27_short (base b o : Nat) (z : N4) (A : Option Addr) (n cap : Nat) (w : World) (hz : At4 w b o z) (fz : Free4 w b o) (hbb : base ≤ b) (hn : n < 27) (hnil : A = none → n = 0) : Calls Try.prog 54 #[.pointer (some ⟨b, o, none⟩), .int .i64 27, .slice A n cap] w fun e w' => (∃ u, e = .panicked [{ v := .iface Try.prog.rt.boundsError u, recovered := false }]) ∧ Below base w w' := by
  have HC := Lib.hid (set27_short base b o z A n cap w hz fz hbb hn hnil)
  clear hz fz hnil
  go_enter Try.func54, Try.ntmps54
  go_wp2_with (go_at_call 88; refine HC.out.mono ?_; rintro e w1 ⟨⟨u, rfl⟩, H⟩)
  exact ⟨rfl, ⟨_, rfl⟩, H⟩
set_option maxHeartbeats 1000000 in
theorem set28_short (base b o : Nat) (z : N4) (A : Option Addr) (n cap : Nat) (w : World) (hz : At4 w b o z) (fz : Free4 w b o) (hbb : base ≤ b) (hn : n < 28) (hnil : A = none → n = 0) :
    Calls Try.prog 89 #[.pointer (some ⟨b, o, none⟩), .slice A n cap] w fun e w' => (∃ u, e = .panicked [{ v := .iface Try.prog.rt.boundsError u, recovered := false }]) ∧ Below base w w' := by
  have hbp : ∀ (m : Int) (W : World), (boundsPanic (α := Value) .i64 27 m .index).run Try.prog W = _ := fun m W => Lib.run_boundsPanic_index Try.prog 27 m W (by decide) (by decide)
  clear hz fz
  cases A with
  | none =>
    obtain rfl := hnil rfl
    have hix : ∀ W : World, (Instr.indexAt 25 (.slice none 0 cap) (.int .i64 27)).run Try.prog W = _ := fun W => Lib.run_indexAt_nil W 25 5 0 cap .i64 27 Try.underlying25
    go_enter Try.func89, Try.ntmps89
    go_wp2
    exact ⟨rfl, ⟨_, rfl⟩, (Below.refl _ _).drew⟩
  | some a =>
    go_enter Try.func89, Try.ntmps89
    go_wp2
    exact ⟨rfl, ⟨_, rfl⟩, (Below.refl _ _).drew⟩
set_option maxHeartbeats 1000000 in
theorem setMany_28 (b o : Nat) (z : N4) (g q cap : Nat) (l : List UInt8) (w : World) (hz : At4 w b o z) (fz : Free4 w b o) (hB : BytesAt w g q l) (n : Nat) (hl : l.length = n) (hn : 28 ≤ n) (hcap : n ≤ cap) (hne : g ≠ b) : Calls Try.prog 54 #[.pointer (some ⟨b, o, none⟩), .int .i64 28, .slice (some ⟨g, q, none⟩) n cap] w fun e w' => e = .returned (.tuple #[]) ∧ Left w b o (ofN (Lib.beNat (l.take 28))) w' := by
  have HC := Lib.hid (set28_any b o z g q n cap l w hz fz hB hl hn hcap hne)
  clear hz fz hB hl
  go_enter Try.func54, Try.ntmps54
  go_wp2_with (go_at_call 89; refine HC.out.mono ?_; rintro e w1 ⟨rfl, H⟩)
  go_end0
  exact ⟨rfl, H⟩
set_option maxHeartbeats 1000000 in
theorem setMany_28_short (base b o : Nat) (z : N4) (A : Option Addr) (n cap : Nat) (w : World) (hz : At4 w b o z) (fz : Free4 w b o) (hbb : base ≤ b) (hn : n < 28) (hnil : A = none → n = 0) : Calls Try.prog 54 #[.pointer (some ⟨b, o, none⟩), .int .i64 28, .slice A n cap] w fun e w' => (∃ u, e = .panicked [{ v := .iface Try.prog.rt.boundsError u, recovered := false }]) ∧ Below base w w' := by
  have HC := Lib.hid (set28_short base b o z A n cap w hz fz hbb hn hnil)
  clear hz fz hnil
  go_enter Try.func54, Try.ntmps54
  go_wp2_with (go_at_call 89; refine HC.out.mono ?_; rintro e w1 ⟨⟨u, rfl⟩, H⟩)
  exact ⟨rfl, ⟨_, rfl⟩, H⟩
set_option maxHeartbeats 1000000 in
theorem set29_short (base b o : Nat) (z : N4) (A : Option Addr) (n cap : Nat) (w : World) (hz : At4 w b o z) (fz : Free4 w b o) (hbb : base ≤ b) (hn : n < 29) (hnil : A = none → n = 0) :
    Calls Try.prog 90 #[.pointer (some ⟨b, o, none⟩), .slice A n cap] w fun e w' => (∃ u, e = .panicked [{ v := .iface Try.prog.rt.boundsError u, recovered := false }]) ∧ Below base w w' := by
  have hbp : ∀ (m : Int) (W : World), (boundsPanic (α := Value) .i64 28 m .index).run Try.prog W = _ := fun m W => Lib.run_boundsPanic_index Try.prog 28 m W (by decide) (by decide)
  clear hz fz
  cases A with
  | none =>
    obtain rfl := hnil rfl
    have hix : ∀ W : World, (Instr.indexAt 25 (.slice none 0 cap) (.int .i64 28)).run Try.prog W = _ := fun W => Lib.run_indexAt_nil W 25 5 0 cap .i64 28 Try.underlying25
    go_enter Try.func90, Try.ntmps90
    go_wp2
    exact ⟨rfl, ⟨_, rfl⟩, (Below.refl _ _).drew⟩
  | some a =>
    go_enter Try.func90, Try.ntmps90
    go_wp2
    exact ⟨rfl, ⟨_, rfl⟩, (Below.refl _ _).drew⟩
set_option maxHeartbeats 1000000 in
theorem setMany_29 (b o : Nat) (z : N4) (g q cap : Nat) (l : List UInt8) (w : World) (hz : At4 w b o z) (fz : Free4 w b o) (hB : BytesAt w g q l) (n : Nat) (hl : l.length = n) (hn : 29 ≤ n) (hcap : n ≤ cap) (hne : g ≠ b) : Calls Try.prog 54 #[.pointer (some ⟨b, o, none⟩), .int .i64 29, .slice (some ⟨g, q, none⟩) n cap] w fun e w' => e = .returned (.tuple #[]) ∧ Left w b o (ofN (Lib.beNat (l.take 29))) w' := by
  have HC := Lib.hid (set29_any b o z g q n cap l w hz fz hB hl hn hcap hne)
  clear hz fz hB hl
  go_enter Try.func54, Try.ntmps54
  go_wp2_with (go_at_call 90; refine HC.out.mono ?_; rintro e w1 ⟨rfl, H⟩)
  go_end0
  exact ⟨rfl, H⟩
set_option maxHeartbeats 1000000 in
theorem setMany_29_short (base b o : Nat) (z : N4) (A : Option Addr) (n cap : Nat) (w : World) (hz : At4 w b o z) (fz : Free4 w b o) (hbb : base ≤ b) (hn : n < 29) (hnil : A = none → n = 0) : Calls Try.prog 54 #[.pointer (some ⟨b, o, none⟩), .int .i64 29, .slice A n cap] w fun e w' => (∃ u, e = .panicked [{ v := .iface Try.prog.rt.boundsError u, recovered := false }]) ∧ Below base w w' := by
  have HC := Lib.hid (set29_short base b o z A n cap w hz fz hbb hn hnil)
  clear hz fz hnil
  go_enter Try.func54, Try.ntmps54
  go_wp2_with (go_at_call 90; refine HC.out.mono ?_; rintro e w1 ⟨⟨u, rfl⟩, H⟩)
  exact ⟨rfl, ⟨_, rfl⟩, H⟩
set_option maxHeartbeats 1000000 in
theorem set30_short (base b o : Nat) (z : N4) (A : Option Addr) (n cap : Nat) (w : World) (hz : At4 w b o z) (fz : Free4 w b o) (hbb : base ≤ b) (hn : n < 30) (hnil : A = none → n = 0) :
    Calls Try.prog 91 #[.pointer (some ⟨b, o, none⟩), .slice A n cap] w fun e w' => (∃ u, e = .panicked [{ v := .iface Try.prog.rt.boundsError u, recovered := false }]) ∧ Below base w w' := by
  have hbp : ∀ (m : Int) (W : World), (boundsPanic (α := Value) .i64 29 m .index).run Try.prog W = _ := fun m W => Lib.run_boundsPanic_index Try.prog 29 m W (by decide) (by decide)
  clear hz fz
  cases A with
  | none =>
    obtain rfl := hnil rfl
    have hix : ∀ W : World, (Instr.indexAt 25 (.slice none 0 cap) (.int .i64 29)).run Try.prog W = _ := fun W => Lib.run_indexAt_nil W 25 5 0 cap .i64 29 Try.underlying25
    go_enter Try.func91, Try.ntmps91
    go_wp2
    exact ⟨rfl, ⟨_, rfl⟩, (Below.refl _ _).drew⟩
  | some a =>
    go_enter Try.func91, Try.ntmps91
    go_wp2
    exact ⟨rfl, ⟨_, rfl⟩, (Below.refl _ _).drew⟩
set_option maxHeartbeats 1000000 in
theorem setMany_30 (b o : Nat) (z : N4) (g q cap : Nat) (l : List UInt8) (w : World) (hz : At4 w b o z) (fz : Free4 w b o) (hB : BytesAt w g q l) (n : Nat) (hl : l.length = n) (hn : 30 ≤ n) (hcap : n ≤ cap) (hne : g ≠ b) : Calls Try.prog 54 #[.pointer (some ⟨b, o, none⟩), .int .i64 30, .slice (some ⟨g, q, none⟩) n cap] w fun e w' => e = .returned (.tuple #[]) ∧ Left w b o (ofN (Lib.beNat (l.take 30))) w' := by
  have HC := Lib.hid (set30_any b o z g q n cap l w hz fz hB hl hn hcap hne)
  clear hz fz hB hl
  go_enter Try.func54, Try.ntmps54
  go_wp2_with (go_at_call 91; refine HC.out.mono ?_; rintro e w1 ⟨rfl, H⟩)
  go_end0
  exact ⟨rfl, H⟩
set_option maxHeartbeats 1000000 in
theorem setMany_30_short (base b o : Nat) (z : N4) (A : Option Addr) (n cap : Nat) (w : World) (hz : At4 w b o z) (fz : Free4 w b o) (hbb : base ≤ b) (hn : n < 30) (hnil : A = none → n = 0) : Calls Try.prog 54 #[.pointer (some ⟨b, o, none⟩), .int .i64 30, .slice A n cap] w fun e w' => (∃ u, e = .panicked [{ v := .iface Try.prog.rt.boundsError u, recovered := false }]) ∧ Below base w w' := by
  have HC := Lib.hid (set30_short base b o z A n cap w hz fz hbb hn hnil)
  clear hz fz hnil
  go_enter Try.func54, Try.ntmps54
  go_wp2_with (go_at_call 91; refine HC.out.mono ?_; rintro e w1 ⟨⟨u, rfl⟩, H⟩)
  exact ⟨rfl, ⟨_, rfl⟩, H⟩
set_option maxHeartbeats 1000000 in
theorem set31_short (base b o : Nat) (z : N4) (A : Option Addr) (n cap : Nat) (w : World) (hz : At4 w b o z) (fz : Free4 w b o) (hbb : base ≤ b) (hn : n < 31) (hnil : A = none → n = 0) :
    Calls Try.prog 92 #[.pointer (some ⟨b, o, none⟩), .slice A n cap] w fun e w' => (∃ u, e = .panicked [{ v := .iface Try.prog.rt.boundsError u, recovered := false }]) ∧ Below base w w' := by
  have hbp : ∀ (m : Int) (W : World), (boundsPanic (α := Value) .i64 30 m .index).run Try.prog W = _ := fun m W => Lib.run_boundsPanic_index Try.prog 30 m W (by decide) (by decide)
  clear hz fz
  cases A with
  | none =>
    obtain rfl := hnil rfl
    have hix : ∀ W : World, (Instr.indexAt 25 (.slice none 0 cap) (.int .i64 30)).run Try.prog W = _ := fun W => Lib.run_indexAt_nil W 25 5 0 cap .i64 30 Try.underlying25
    go_enter Try.func92, Try.ntmps92
    go_wp2
    exact ⟨rfl, ⟨_, rfl⟩, (Below.refl _ _).drew⟩
  | some a =>
    go_enter Try.func92, Try.ntmps92
    go_wp2
    exact ⟨rfl, ⟨_, rfl⟩, (Below.refl _ _).drew⟩
set_option maxHeartbeats 1000000 in
theorem setMany_31 (b o : Nat) (z : N4) (g q cap : Nat) (l : List UInt8) (w : World) (hz : At4 w b o z) (fz : Free4 w b o) (hB : BytesAt w g q l) (n : Nat) (hl : l.length = n) (hn : 31 ≤ n) (hcap : n ≤ cap) (hne : g ≠ b) : Calls Try.prog 54 #[.pointer (some ⟨b, o, none⟩), .int .i64 31, .slice (some ⟨g, q, none⟩) n cap] w fun e w' => e = .returned (.tuple #[]) ∧ Left w b o (ofN (Lib.beNat (l.take 31))) w' := by
  have HC := Lib.hid (set31_any b o z g q n cap l w hz fz hB hl hn hcap hne)
  clear hz fz hB hl
  go_enter Try.func54, Try.ntmps54
  go_wp2_with (go_at_call 92; refine HC.out.mono ?_; rintro e w1 ⟨rfl, H⟩)
  go_end0
  exact ⟨rfl, H⟩
set_option maxHeartbeats 1000000 in
theorem setMany_31_short (base b o : Nat) (z : N4) (A : Option Addr) (n cap : Nat) (w : World) (hz : At4 w b o z) (fz : Free4 w b o) (hbb : base ≤ b) (hn : n < 31) (hnil : A = none → n = 0) : Calls Try.prog 54 #[.pointer (some ⟨b, o, none⟩), .int .i64 31, .slice A n cap] w fun e w' => (∃ u, e = .panicked [{ v := .iface Try.prog.rt.boundsError u, recovered := false }]) ∧ Below base w w' := by
  have HC := Lib.hid (set31_short base b o z A n cap w hz fz hbb hn hnil)
  clear hz fz hnil
  go_enter Try.func54, Try.ntmps54
  go_wp2_with (go_at_call 92; refine HC.out.mono ?_; rintro e w1 ⟨⟨u, rfl⟩, H⟩)
  exact ⟨rfl, ⟨_, rfl⟩, H⟩
set_option maxHeartbeats 1000000 in
theorem set32_short (base b o : Nat) (z : N4) (A : Option Addr) (n cap : Nat) (w : World) (hz : At4 w b o z) (fz : Free4 w b o) (hbb : base ≤ b) (hn : n < 32) (hnil : A = none → n = 0) :
    Calls Try.prog 93 #[.pointer (some ⟨b, o, none⟩), .slice A n cap] w fun e w' => (∃ u, e = .panicked [{ v := .iface Try.prog.rt.boundsError u, recovered := false }]) ∧ Below base w w' := by
  have hbp : ∀ (m : Int) (W : World), (boundsPanic (α := Value) .i64 31 m .index).run Try.prog W = _ := fun m W => Lib.run_boundsPanic_index Try.prog 31 m W (by decide) (by decide)
  clear hz fz
  cases A with
  | none =>
    obtain rfl := hnil rfl
    have hix : ∀ W : World, (Instr.indexAt 25 (.slice none 0 cap) (.int .i64 31)).run Try.prog W = _ := fun W => Lib.run_indexAt_nil W 25 5 0 cap .i64 31 Try.underlying25
    go_enter Try.func93, Try.ntmps93
    go_wp2
    exact ⟨rfl, ⟨_, rfl⟩, (Below.refl _ _).drew⟩
  | some a =>
    go_enter Try.func93, Try.ntmps93
    go_wp2
    exact ⟨rfl, ⟨_, rfl⟩, (Below.refl _ _).drew⟩
set_option maxHeartbeats 1000000 in
theorem setMany_32 (b o : Nat) (z : N4) (g q cap : Nat) (l : List UInt8) (w : World) (hz : At4 w b o z) (fz : Free4 w b o) (hB : BytesAt w g q l) (n : Nat) (hl : l.length = n) (hn : 32 ≤ n) (hcap : n ≤ cap) (hne : g ≠ b) : Calls Try.prog 54 #[.pointer (some ⟨b, o, none⟩), .int .i64 32, .slice (some ⟨g, q, none⟩) n cap] w fun e w' => e = .returned (.tuple #[]) ∧ Left w b o (ofN (Lib.beNat (l.take 32))) w' := by
  have HC := Lib.hid (set32_any b o z g q n cap l w hz fz hB hl hn hcap hne)
  clear hz fz hB hl
  go_enter Try.func54, Try.ntmps54
  go_wp2_with (go_at_call 93; refine HC.out.mono ?_; rintro e w1 ⟨rfl, H⟩)
  go_end0
  exact ⟨rfl, H⟩
set_option maxHeartbeats 1000000 in
theorem setMany_32_short (base b o : Nat) (z : N4) (A : Option Addr) (n cap : Nat) (w : World) (hz : At4 w b o z) (fz : Free4 w b o) (hbb : base ≤ b) (hn : n < 32) (hnil : A = none → n = 0) : Calls Try.prog 54 #[.pointer (some ⟨b, o, none⟩), .int .i64 32, .slice A n cap] w fun e w' => (∃ u, e = .panicked [{ v := .iface Try.prog.rt.boundsError u, recovered := false }]) ∧ Below base w w' := by
  have HC := Lib.hid (set32_short base b o z A n cap w hz fz hbb hn hnil)
  clear hz fz hnil
  go_enter Try.func54, Try.ntmps54
  go_wp2_with (go_at_call 93; refine HC.out.mono ?_; rintro e w1 ⟨⟨u, rfl⟩, H⟩)
  exact ⟨rfl, ⟨_, rfl⟩, H⟩
end Go.Proofs.Ytpmhkmcikjbncaa
