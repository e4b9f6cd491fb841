/-
  SetBytes1 to 16: their panics; setFew.
-/
import Derived.Test.YtpmhkmcikjbncaaSb1
import Derived.Test.YtpmhkmcikjbncaaSb2
import Derived.Test.YtpmhkmcikjbncaaSb3
import Derived.Test.YtpmhkmcikjbncaaSb4
import Derived.Test.YtpmhkmcikjbncaaPut
namespace Go.Proofs.Ytpmhkmcikjbncaa
open Go.RowKit
set_option linter.unusedVariables false
set_option linter.unusedSimpArgs false
set_option maxRecDepth 100000
set_option maxHeartbeats 1000000 in
theorem set1_short (base b o : Nat) (z : N4) (A : Option Addr) (n cap : Nat) (w : World) (hz : At4 w b o z) (fz : Free4 w b o) (hbb : base ≤ b) (hn : n < 1) (hnil : A = none → n = 0) :
    Calls Try.prog 62 #[.pointer (some ⟨b, o, none⟩), .slice A n cap] w fun e w' => (∃ u, e = .panicked [{ v := .iface Try.prog.rt.boundsError u, recovered := false }]) ∧ Below base w w' := by
  have hbp : ∀ (m : Int) (W : World), (boundsPanic (α := Value) .i64 0 m .index).run Try.prog W = _ := fun m W => Lib.run_boundsPanic_index Try.prog 0 m W (by decide) (by decide)
  obtain ⟨z0, z1, z2, z3⟩ := hz
  obtain ⟨f0, f1, f2, f3⟩ := fz
  cases A with
  | none =>
    obtain rfl := hnil rfl
    have hix : ∀ W : World, (Instr.indexAt 25 (.slice none 0 cap) (.int .i64 0)).run Try.prog W = _ := fun W => Lib.run_indexAt_nil W 25 5 0 cap .i64 0 Try.underlying25
    go_enter Try.func62, Try.ntmps62
    go_wp2
    go_region
    go_wp2
    refine wp_region_held_drew (S := (fun _ => True)) (by kernel_rfl) (by all_goals exact trivial) (fun hHeld => ?_)
    refine hm_take (i := 0) (v := ?_) rfl rfl (by kernel_rfl) (by kernel_rfl) (by kernel_rfl) (fun _ _ _ h => h) rfl ?_ (by assumption) ?_
    rotate_left
    · (intro w hSw; (try dsimp only at hSw); go_simp; try with_reducible rfl)
    try simp only [Act.put, List.setIfInBounds_toArray, List.set_cons_zero, List.set_cons_succ]
    refine hm_take (i := 1) (v := ?_) rfl rfl (by kernel_rfl) (by kernel_rfl) (by kernel_rfl) (fun _ _ _ h => h) rfl ?_ (by assumption) ?_
    rotate_left
    · (intro w hSw; (try dsimp only at hSw); go_simp; try with_reducible rfl)
    try simp only [Act.put, List.setIfInBounds_toArray, List.set_cons_zero, List.set_cons_succ]
    refine hm_take (i := 5) (v := ?_) rfl rfl (by kernel_rfl) (by kernel_rfl) (by kernel_rfl) (fun _ _ _ h => h) rfl ?_ (by assumption) ?_
    rotate_left
    · (intro w hSw; (try dsimp only at hSw); go_simp; try with_reducible rfl)
    try simp only [Act.put, List.setIfInBounds_toArray, List.set_cons_zero, List.set_cons_succ]
    refine hm_call (i := 2) rfl (by kernel_rfl) rfl (fun K hK => ?_)
    go_simp
    exact ⟨rfl, ⟨_, rfl⟩, ((((((Below.refl base w).setCell (p := ⟨b, o + 3, none⟩) hbb _).setCell (p := ⟨b, o + 2, none⟩) hbb _).setCell (p := ⟨b, o + 1, none⟩) hbb _).drew).drew).drew⟩
  | some a =>
    obtain rfl : n = 0 := by omega
    go_enter Try.func62, Try.ntmps62
    go_wp2
    go_region
    go_wp2
    refine wp_region_held_drew (S := (fun _ => True)) (by kernel_rfl) (by all_goals exact trivial) (fun hHeld => ?_)
    refine hm_take (i := 0) (v := ?_) rfl rfl (by kernel_rfl) (by kernel_rfl) (by kernel_rfl) (fun _ _ _ h => h) rfl ?_ (by assumption) ?_
    rotate_left
    · (intro w hSw; (try dsimp only at hSw); go_simp; try with_reducible rfl)
    try simp only [Act.put, List.setIfInBounds_toArray, List.set_cons_zero, List.set_cons_succ]
    refine hm_take (i := 1) (v := ?_) rfl rfl (by kernel_rfl) (by kernel_rfl) (by kernel_rfl) (fun _ _ _ h => h) rfl ?_ (by assumption) ?_
    rotate_left
    · (intro w hSw; (try dsimp only at hSw); go_simp; try with_reducible rfl)
    try simp only [Act.put, List.setIfInBounds_toArray, List.set_cons_zero, List.set_cons_succ]
    refine hm_take (i := 5) (v := ?_) rfl rfl (by kernel_rfl) (by kernel_rfl) (by kernel_rfl) (fun _ _ _ h => h) rfl ?_ (by assumption) ?_
    rotate_left
    · (intro w hSw; (try dsimp only at hSw); go_simp; try with_reducible rfl)
    try simp only [Act.put, List.setIfInBounds_toArray, List.set_cons_zero, List.set_cons_succ]
    refine hm_call (i := 2) rfl (by kernel_rfl) rfl (fun K hK => ?_)
    go_simp
    exact ⟨rfl, ⟨_, rfl⟩, ((((((Below.refl base w).setCell (p := ⟨b, o + 3, none⟩) hbb _).setCell (p := ⟨b, o + 2, none⟩) hbb _).setCell (p := ⟨b, o + 1, none⟩) hbb _).drew).drew).drew⟩
set_option maxHeartbeats 1000000 in
theorem setFew_1 (b o : Nat) (z : N4) (g q cap : Nat) (l : List UInt8) (w : World) (hz : At4 w b o z) (fz : Free4 w b o) (hB : BytesAt w g q l) (n : Nat) (hl : l.length = n) (hn : 1 ≤ n) (hcap : n ≤ cap) (hne : g ≠ b) : Calls Try.prog 53 #[.pointer (some ⟨b, o, none⟩), .int .i64 1, .slice (some ⟨g, q, none⟩) n cap] w fun e w' => e = .returned (.tuple #[]) ∧ Left w b o (ofN (Lib.beNat (l.take 1))) w' := by
  have HC := Lib.hid (set1_any b o z g q n cap l w hz fz hB hl hn hcap hne)
  clear hz fz hB hl
  go_enter Try.func53, Try.ntmps53
  go_wp2_with (go_at_call 62; refine HC.out.mono ?_; rintro e w1 ⟨rfl, H⟩)
  go_end0
  exact ⟨rfl, H⟩
set_option maxHeartbeats 1000000 in
theorem setFew_1_short (base b o : Nat) (z : N4) (A : Option Addr) (n cap : Nat) (w : World) (hz : At4 w b o z) (fz : Free4 w b o) (hbb : base ≤ b) (hn : n < 1) (hnil : A = none → n = 0) : Calls Try.prog 53 #[.pointer (some ⟨b, o, none⟩), .int .i64 1, .slice A n cap] w fun e w' => (∃ u, e = .panicked [{ v := .iface Try.prog.rt.boundsError u, recovered := false }]) ∧ Below base w w' := by
  have HC := Lib.hid (set1_short base b o z A n cap w hz fz hbb hn hnil)
  clear hz fz hnil
  go_enter Try.func53, Try.ntmps53
  go_wp2_with (go_at_call 62; refine HC.out.mono ?_; rintro e w1 ⟨⟨u, rfl⟩, H⟩)
  exact ⟨rfl, ⟨_, rfl⟩, H⟩
set_option maxHeartbeats 1000000 in
theorem set2_short (base b o : Nat) (z : N4) (A : Option Addr) (n cap : Nat) (w : World) (hz : At4 w b o z) (fz : Free4 w b o) (hbb : base ≤ b) (hn : n < 2) (hnil : A = none → n = 0) :
    Calls Try.prog 63 #[.pointer (some ⟨b, o, none⟩), .slice A n cap] w fun e w' => (∃ u, e = .panicked [{ v := .iface Try.prog.rt.boundsError u, recovered := false }]) ∧ Below base w w' := by
  have hbp : ∀ (m : Int) (W : World), (boundsPanic (α := Value) .i64 1 m .index).run Try.prog W = _ := fun m W => Lib.run_boundsPanic_index Try.prog 1 m W (by decide) (by decide)
  clear hz fz
  cases A with
  | none =>
    obtain rfl := hnil rfl
    have hix : ∀ W : World, (Instr.indexAt 25 (.slice none 0 cap) (.int .i64 1)).run Try.prog W = _ := fun W => Lib.run_indexAt_nil W 25 5 0 cap .i64 1 Try.underlying25
    go_enter Try.func63, Try.ntmps63
    go_wp2
    exact ⟨rfl, ⟨_, rfl⟩, (Below.refl _ _).drew⟩
  | some a =>
    go_enter Try.func63, Try.ntmps63
    go_wp2
    exact ⟨rfl, ⟨_, rfl⟩, (Below.refl _ _).drew⟩
set_option maxHeartbeats 1000000 in
theorem setFew_2 (b o : Nat) (z : N4) (g q cap : Nat) (l : List UInt8) (w : World) (hz : At4 w b o z) (fz : Free4 w b o) (hB : BytesAt w g q l) (n : Nat) (hl : l.length = n) (hn : 2 ≤ n) (hcap : n ≤ cap) (hne : g ≠ b) : Calls Try.prog 53 #[.pointer (some ⟨b, o, none⟩), .int .i64 2, .slice (some ⟨g, q, none⟩) n cap] w fun e w' => e = .returned (.tuple #[]) ∧ Left w b o (ofN (Lib.beNat (l.take 2))) w' := by
  have HC := Lib.hid (set2_any b o z g q n cap l w hz fz hB hl hn hcap hne)
  clear hz fz hB hl
  go_enter Try.func53, Try.ntmps53
  go_wp2_with (go_at_call 63; refine HC.out.mono ?_; rintro e w1 ⟨rfl, H⟩)
  go_end0
  exact ⟨rfl, H⟩
set_option maxHeartbeats 1000000 in
theorem setFew_2_short (base b o : Nat) (z : N4) (A : Option Addr) (n cap : Nat) (w : World) (hz : At4 w b o z) (fz : Free4 w b o) (hbb : base ≤ b) (hn : n < 2) (hnil : A = none → n = 0) : Calls Try.prog 53 #[.pointer (some ⟨b, o, none⟩), .int .i64 2, .slice A n cap] w fun e w' => (∃ u, e = .panicked [{ v := .iface Try.prog.rt.boundsError u, recovered := false }]) ∧ Below base w w' := by
  have HC := Lib.hid (set2_short base b o z A n cap w hz fz hbb hn hnil)
  clear hz fz hnil
  go_enter Try.func53, Try.ntmps53
  go_wp2_with (go_at_call 63; refine HC.out.mono ?_; rintro e w1 ⟨⟨u, rfl⟩, H⟩)
  exact ⟨rfl, ⟨_, rfl⟩, H⟩
set_option maxHeartbeats 1000000 in
theorem set3_short (base b o : Nat) (z : N4) (A : Option Addr) (n cap : Nat) (w : World) (hz : At4 w b o z) (fz : Free4 w b o) (hbb : base ≤ b) (hn : n < 3) (hnil : A = none → n = 0) :
    Calls Try.prog 64 #[.pointer (some ⟨b, o, none⟩), .slice A n cap] w fun e w' => (∃ u, e = .panicked [{ v := .iface Try.prog.rt.boundsError u, recovered := false }]) ∧ Below base w w' := by
  have hbp : ∀ (m : Int) (W : World), (boundsPanic (α := Value) .i64 2 m .index).run Try.prog W = _ := fun m W => Lib.run_boundsPanic_index Try.prog 2 m W (by decide) (by decide)
  clear hz fz
  cases A with
  | none =>
    obtain rfl := hnil rfl
    have hix : ∀ W : World, (Instr.indexAt 25 (.slice none 0 cap) (.int .i64 2)).run Try.prog W = _ := fun W => Lib.run_indexAt_nil W 25 5 0 cap .i64 2 Try.underlying25
    go_enter Try.func64, Try.ntmps64
    go_wp2
    exact ⟨rfl, ⟨_, rfl⟩, (Below.refl _ _).drew⟩
  | some a =>
    go_enter Try.func64, Try.ntmps64
    go_wp2
    exact ⟨rfl, ⟨_, rfl⟩, (Below.refl _ _).drew⟩
set_option maxHeartbeats 1000000 in
theorem setFew_3 (b o : Nat) (z : N4) (g q cap : Nat) (l : List UInt8) (w : World) (hz : At4 w b o z) (fz : Free4 w b o) (hB : BytesAt w g q l) (n : Nat) (hl : l.length = n) (hn : 3 ≤ n) (hcap : n ≤ cap) (hne : g ≠ b) : Calls Try.prog 53 #[.pointer (some ⟨b, o, none⟩), .int .i64 3, .slice (some ⟨g, q, none⟩) n cap] w fun e w' => e = .returned (.tuple #[]) ∧ Left w b o (ofN (Lib.beNat (l.take 3))) w' := by
  have HC := Lib.hid (set3_any b o z g q n cap l w hz fz hB hl hn hcap hne)
  clear hz fz hB hl
  go_enter Try.func53, Try.ntmps53
  go_wp2_with (go_at_call 64; refine HC.out.mono ?_; rintro e w1 ⟨rfl, H⟩)
  go_end0
  exact ⟨rfl, H⟩
set_option maxHeartbeats 1000000 in
theorem setFew_3_short (base b o : Nat) (z : N4) (A : Option Addr) (n cap : Nat) (w : World) (hz : At4 w b o z) (fz : Free4 w b o) (hbb : base ≤ b) (hn : n < 3) (hnil : A = none → n = 0) : Calls Try.prog 53 #[.pointer (some ⟨b, o, none⟩), .int .i64 3, .slice A n cap] w fun e w' => (∃ u, e = .panicked [{ v := .iface Try.prog.rt.boundsError u, recovered := false }]) ∧ Below base w w' := by
  have HC := Lib.hid (set3_short base b o z A n cap w hz fz hbb hn hnil)
  clear hz fz hnil
  go_enter Try.func53, Try.ntmps53
  go_wp2_with (go_at_call 64; refine HC.out.mono ?_; rintro e w1 ⟨⟨u, rfl⟩, H⟩)
  exact ⟨rfl, ⟨_, rfl⟩, H⟩
set_option maxHeartbeats 1000000 in
theorem set4_short (base b o : Nat) (z : N4) (A : Option Addr) (n cap : Nat) (w : World) (hz : At4 w b o z) (fz : Free4 w b o) (hbb : base ≤ b) (hn : n < 4) (hnil : A = none → n = 0) :
    Calls Try.prog 65 #[.pointer (some ⟨b, o, none⟩), .slice A n cap] w fun e w' => (∃ u, e = .panicked [{ v := .iface Try.prog.rt.boundsError u, recovered := false }]) ∧ Below base w w' := by
  have hbp : ∀ (m : Int) (W : World), (boundsPanic (α := Value) .i64 3 m .index).run Try.prog W = _ := fun m W => Lib.run_boundsPanic_index Try.prog 3 m W (by decide) (by decide)
  clear hz fz
  cases A with
  | none =>
    obtain rfl := hnil rfl
    have hix : ∀ W : World, (Instr.indexAt 25 (.slice none 0 cap) (.int .i64 3)).run Try.prog W = _ := fun W => Lib.run_indexAt_nil W 25 5 0 cap .i64 3 Try.underlying25
    go_enter Try.func65, Try.ntmps65
    go_wp2
    exact ⟨rfl, ⟨_, rfl⟩, (Below.refl _ _).drew⟩
  | some a =>
    go_enter Try.func65, Try.ntmps65
    go_wp2
    exact ⟨rfl, ⟨_, rfl⟩, (Below.refl _ _).drew⟩
set_option maxHeartbeats 1000000 in
theorem setFew_4 (b o : Nat) (z : N4) (g q cap : Nat) (l : List UInt8) (w : World) (hz : At4 w b o z) (fz : Free4 w b o) (hB : BytesAt w g q l) (n : Nat) (hl : l.length = n) (hn : 4 ≤ n) (hcap : n ≤ cap) (hne : g ≠ b) : Calls Try.prog 53 #[.pointer (some ⟨b, o, none⟩), .int .i64 4, .slice (some ⟨g, q, none⟩) n cap] w fun e w' => e = .returned (.tuple #[]) ∧ Left w b o (ofN (Lib.beNat (l.take 4))) w' := by
  have HC := Lib.hid (set4_any b o z g q n cap l w hz fz hB hl hn hcap hne)
  clear hz fz hB hl
  go_enter Try.func53, Try.ntmps53
  go_wp2_with (go_at_call 65; refine HC.out.mono ?_; rintro e w1 ⟨rfl, H⟩)
  go_end0
  exact ⟨rfl, H⟩
set_option maxHeartbeats 1000000 in
theorem setFew_4_short (base b o : Nat) (z : N4) (A : Option Addr) (n cap : Nat) (w : World) (hz : At4 w b o z) (fz : Free4 w b o) (hbb : base ≤ b) (hn : n < 4) (hnil : A = none → n = 0) : Calls Try.prog 53 #[.pointer (some ⟨b, o, none⟩), .int .i64 4, .slice A n cap] w fun e w' => (∃ u, e = .panicked [{ v := .iface Try.prog.rt.boundsError u, recovered := false }]) ∧ Below base w w' := by
  have HC := Lib.hid (set4_short base b o z A n cap w hz fz hbb hn hnil)
  clear hz fz hnil
  go_enter Try.func53, Try.ntmps53
  go_wp2_with (go_at_call 65; refine HC.out.mono ?_; rintro e w1 ⟨⟨u, rfl⟩, H⟩)
  exact ⟨rfl, ⟨_, rfl⟩, H⟩
set_option maxHeartbeats 1000000 in
theorem set5_short (base b o : Nat) (z : N4) (A : Option Addr) (n cap : Nat) (w : World) (hz : At4 w b o z) (fz : Free4 w b o) (hbb : base ≤ b) (hn : n < 5) (hnil : A = none → n = 0) :
    Calls Try.prog 66 #[.pointer (some ⟨b, o, none⟩), .slice A n cap] w fun e w' => (∃ u, e = .panicked [{ v := .iface Try.prog.rt.boundsError u, recovered := false }]) ∧ Below base w w' := by
  have hbp : ∀ (m : Int) (W : World), (boundsPanic (α := Value) .i64 4 m .index).run Try.prog W = _ := fun m W => Lib.run_boundsPanic_index Try.prog 4 m W (by decide) (by decide)
  clear hz fz
  cases A with
  | none =>
    obtain rfl := hnil rfl
    have hix : ∀ W : World, (Instr.indexAt 25 (.slice none 0 cap) (.int .i64 4)).run Try.prog W = _ := fun W => Lib.run_indexAt_nil W 25 5 0 cap .i64 4 Try.underlying25
    go_enter Try.func66, Try.ntmps66
    go_wp2
    exact ⟨rfl, ⟨_, rfl⟩, (Below.refl _ _).drew⟩
  | some a =>
    go_enter Try.func66, Try.ntmps66
    go_wp2
    exact ⟨rfl, ⟨_, rfl⟩, (Below.refl _ _).drew⟩
set_option maxHeartbeats 1000000 in
theorem setFew_5 (b o : Nat) (z : N4) (g q cap : Nat) (l : List UInt8) (w : World) (hz : At4 w b o z) (fz : Free4 w b o) (hB : BytesAt w g q l) (n : Nat) (hl : l.length = n) (hn : 5 ≤ n) (hcap : n ≤ cap) (hne : g ≠ b) : Calls Try.prog 53 #[.pointer (some ⟨b, o, none⟩), .int .i64 5, .slice (some ⟨g, q, none⟩) n cap] w fun e w' => e = .returned (.tuple #[]) ∧ Left w b o (ofN (Lib.beNat (l.take 5))) w' := by
  have HC := Lib.hid (set5_any b o z g q n cap l w hz fz hB hl hn hcap hne)
  clear hz fz hB hl
  go_enter Try.func53, Try.ntmps53
  go_wp2_with (go_at_call 66; refine HC.out.mono ?_; rintro e w1 ⟨rfl, H⟩)
  go_end0
  exact ⟨rfl, H⟩
set_option maxHeartbeats 1000000 in
theorem setFew_5_short (base b o : Nat) (z : N4) (A : Option Addr) (n cap : Nat) (w : World) (hz : At4 w b o z) (fz : Free4 w b o) (hbb : base ≤ b) (hn : n < 5) (hnil : A = none → n = 0) : Calls Try.prog 53 #[.pointer (some ⟨b, o, none⟩), .int .i64 5, .slice A n cap] w fun e w' => (∃ u, e = .panicked [{ v := .iface Try.prog.rt.boundsError u, recovered := false }]) ∧ Below base w w' := by
  have HC := Lib.hid (set5_short base b o z A n cap w hz fz hbb hn hnil)
  clear hz fz hnil
  go_enter Try.func53, Try.ntmps53
  go_wp2_with (go_at_call 66; refine HC.out.mono ?_; rintro e w1 ⟨⟨u, rfl⟩, H⟩)
  exact ⟨rfl, ⟨_, rfl⟩, H⟩
set_option maxHeartbeats 1000000 in
theorem set6_short (base b o : Nat) (z : N4) (A : Option Addr) (n cap : Nat) (w : World) (hz : At4 w b o z) (fz : Free4 w b o) (hbb : base ≤ b) (hn : n < 6) (hnil : A = none → n = 0) :
    Calls Try.prog 67 #[.pointer (some ⟨b, o, none⟩), .slice A n cap] w fun e w' => (∃ u, e = .panicked [{ v := .iface Try.prog.rt.boundsError u, recovered := false }]) ∧ Below base w w' := by
  have hbp : ∀ (m : Int) (W : World), (boundsPanic (α := Value) .i64 5 m .index).run Try.prog W = _ := fun m W => Lib.run_boundsPanic_index Try.prog 5 m W (by decide) (by decide)
  clear hz fz
  cases A with
  | none =>
    obtain rfl := hnil rfl
    have hix : ∀ W : World, (Instr.indexAt 25 (.slice none 0 cap) (.int .i64 5)).run Try.prog W = _ := fun W => Lib.run_indexAt_nil W 25 5 0 cap .i64 5 Try.underlying25
    go_enter Try.func67, Try.ntmps67
    go_wp2
    exact ⟨rfl, ⟨_, rfl⟩, (Below.refl _ _).drew⟩
  | some a =>
    go_enter Try.func67, Try.ntmps67
    go_wp2
    exact ⟨rfl, ⟨_, rfl⟩, (Below.refl _ _).drew⟩
set_option maxHeartbeats 1000000 in
theorem setFew_6 (b o : Nat) (z : N4) (g q cap : Nat) (l : List UInt8) (w : World) (hz : At4 w b o z) (fz : Free4 w b o) (hB : BytesAt w g q l) (n : Nat) (hl : l.length = n) (hn : 6 ≤ n) (hcap : n ≤ cap) (hne : g ≠ b) : Calls Try.prog 53 #[.pointer (some ⟨b, o, none⟩), .int .i64 6, .slice (some ⟨g, q, none⟩) n cap] w fun e w' => e = .returned (.tuple #[]) ∧ Left w b o (ofN (Lib.beNat (l.take 6))) w' := by
  have HC := Lib.hid (set6_any b o z g q n cap l w hz fz hB hl hn hcap hne)
  clear hz fz hB hl
  go_enter Try.func53, Try.ntmps53
  go_wp2_with (go_at_call 67; refine HC.out.mono ?_; rintro e w1 ⟨rfl, H⟩)
  go_end0
  exact ⟨rfl, H⟩
set_option maxHeartbeats 1000000 in
theorem setFew_6_short (base b o : Nat) (z : N4) (A : Option Addr) (n cap : Nat) (w : World) (hz : At4 w b o z) (fz : Free4 w b o) (hbb : base ≤ b) (hn : n < 6) (hnil : A = none → n = 0) : Calls Try.prog 53 #[.pointer (some ⟨b, o, none⟩), .int .i64 6, .slice A n cap] w fun e w' => (∃ u, e = .panicked [{ v := .iface Try.prog.rt.boundsError u, recovered := false }]) ∧ Below base w w' := by
  have HC := Lib.hid (set6_short base b o z A n cap w hz fz hbb hn hnil)
  clear hz fz hnil
  go_enter Try.func53, Try.ntmps53
  go_wp2_with (go_at_call 67; refine HC.out.mono ?_; rintro e w1 ⟨⟨u, rfl⟩, H⟩)
  exact ⟨rfl, ⟨_, rfl⟩, H⟩
set_option maxHeartbeats 1000000 in
theorem set7_short (base b o : Nat) (z : N4) (A : Option Addr) (n cap : Nat) (w : World) (hz : At4 w b o z) (fz : Free4 w b o) (hbb : base ≤ b) (hn : n < 7) (hnil : A = none → n = 0) :
    Calls Try.prog 68 #[.pointer (some ⟨b, o, none⟩), .slice A n cap] w fun e w' => (∃ u, e = .panicked [{ v := .iface Try.prog.rt.boundsError u, recovered := false }]) ∧ Below base w w' := by
  have hbp : ∀ (m : Int) (W : World), (boundsPanic (α := Value) .i64 6 m .index).run Try.prog W = _ := fun m W => Lib.run_boundsPanic_index Try.prog 6 m W (by decide) (by decide)
  clear hz fz
  cases A with
  | none =>
    obtain rfl := hnil rfl
    have hix : ∀ W : World, (Instr.indexAt 25 (.slice none 0 cap) (.int .i64 6)).run Try.prog W = _ := fun W => Lib.run_indexAt_nil W 25 5 0 cap .i64 6 Try.underlying25
    go_enter Try.func68, Try.ntmps68
    go_wp2
    exact ⟨rfl, ⟨_, rfl⟩, (Below.refl _ _).drew⟩
  | some a =>
    go_enter Try.func68, Try.ntmps68
    go_wp2
    exact ⟨rfl, ⟨_, rfl⟩, (Below.refl _ _).drew⟩
set_option maxHeartbeats 1000000 in
theorem setFew_7 (b o : Nat) (z : N4) (g q cap : Nat) (l : List UInt8) (w : World) (hz : At4 w b o z) (fz : Free4 w b o) (hB : BytesAt w g q l) (n : Nat) (hl : l.length = n) (hn : 7 ≤ n) (hcap : n ≤ cap) (hne : g ≠ b) : Calls Try.prog 53 #[.pointer (some ⟨b, o, none⟩), .int .i64 7, .slice (some ⟨g, q, none⟩) n cap] w fun e w' => e = .returned (.tuple #[]) ∧ Left w b o (ofN (Lib.beNat (l.take 7))) w' := by
  have HC := Lib.hid (set7_any b o z g q n cap l w hz fz hB hl hn hcap hne)
  clear hz fz hB hl
  go_enter Try.func53, Try.ntmps53
  go_wp2_with (go_at_call 68; refine HC.out.mono ?_; rintro e w1 ⟨rfl, H⟩)
  go_end0
  exact ⟨rfl, H⟩
set_option maxHeartbeats 1000000 in
theorem setFew_7_short (base b o : Nat) (z : N4) (A : Option Addr) (n cap : Nat) (w : World) (hz : At4 w b o z) (fz : Free4 w b o) (hbb : base ≤ b) (hn : n < 7) (hnil : A = none → n = 0) : Calls Try.prog 53 #[.pointer (some ⟨b, o, none⟩), .int .i64 7, .slice A n cap] w fun e w' => (∃ u, e = .panicked [{ v := .iface Try.prog.rt.boundsError u, recovered := false }]) ∧ Below base w w' := by
  have HC := Lib.hid (set7_short base b o z A n cap w hz fz hbb hn hnil)
  clear hz fz hnil
  go_enter Try.func53, Try.ntmps53
  go_wp2_with (go_at_call 68; refine HC.out.mono ?_; rintro e w1 ⟨⟨u, rfl⟩, H⟩)
  exact ⟨rfl, ⟨_, rfl⟩, H⟩
set_option maxHeartbeats 1000000 in
theorem set8_short (base b o : Nat) (z : N4) (A : Option Addr) (n cap : Nat) (w : World) (hz : At4 w b o z) (fz : Free4 w b o) (hbb : base ≤ b) (hn : n < 8) (hnil : A = none → n = 0) :
    Calls Try.prog 69 #[.pointer (some ⟨b, o, none⟩), .slice A n cap] w fun e w' => (∃ u, e = .panicked [{ v := .iface Try.prog.rt.boundsError u, recovered := false }]) ∧ Below base w w' := by
  have hbp : ∀ (m : Int) (W : World), (boundsPanic (α := Value) .i64 7 m .index).run Try.prog W = _ := fun m W => Lib.run_boundsPanic_index Try.prog 7 m W (by decide) (by decide)
  clear hz fz
  cases A with
  | none =>
    obtain rfl := hnil rfl
    have hix : ∀ W : World, (Instr.indexAt 25 (.slice none 0 cap) (.int .i64 7)).run Try.prog W = _ := fun W => Lib.run_indexAt_nil W 25 5 0 cap .i64 7 Try.underlying25
    go_enter Try.func69, Try.ntmps69
    go_wp2
    exact ⟨rfl, ⟨_, rfl⟩, (Below.refl _ _).drew⟩
  | some a =>
    go_enter Try.func69, Try.ntmps69
    go_wp2
    exact ⟨rfl, ⟨_, rfl⟩, (Below.refl _ _).drew⟩
set_option maxHeartbeats 1000000 in
theorem setFew_8 (b o : Nat) (z : N4) (g q cap : Nat) (l : List UInt8) (w : World) (hz : At4 w b o z) (fz : Free4 w b o) (hB : BytesAt w g q l) (n : Nat) (hl : l.length = n) (hn : 8 ≤ n) (hcap : n ≤ cap) (hne : g ≠ b) : Calls Try.prog 53 #[.pointer (some ⟨b, o, none⟩), .int .i64 8, .slice (some ⟨g, q, none⟩) n cap] w fun e w' => e = .returned (.tuple #[]) ∧ Left w b o (ofN (Lib.beNat (l.take 8))) w' := by
  have HC := Lib.hid (set8_any b o z g q n cap l w hz fz hB hl hn hcap hne)
  clear hz fz hB hl
  go_enter Try.func53, Try.ntmps53
  go_wp2_with (go_at_call 69; refine HC.out.mono ?_; rintro e w1 ⟨rfl, H⟩)
  go_end0
  exact ⟨rfl, H⟩
set_option maxHeartbeats 1000000 in
theorem setFew_8_short (base b o : Nat) (z : N4) (A : Option Addr) (n cap : Nat) (w : World) (hz : At4 w b o z) (fz : Free4 w b o) (hbb : base ≤ b) (hn : n < 8) (hnil : A = none → n = 0) : Calls Try.prog 53 #[.pointer (some ⟨b, o, none⟩), .int .i64 8, .slice A n cap] w fun e w' => (∃ u, e = .panicked [{ v := .iface Try.prog.rt.boundsError u, recovered := false }]) ∧ Below base w w' := by
  have HC := Lib.hid (set8_short base b o z A n cap w hz fz hbb hn hnil)
  clear hz fz hnil
  go_enter Try.func53, Try.ntmps53
  go_wp2_with (go_at_call 69; refine HC.out.mono ?_; rintro e w1 ⟨⟨u, rfl⟩, H⟩)
  exact ⟨rfl, ⟨_, rfl⟩, H⟩
set_option maxHeartbeats 1000000 in
theorem set9_short (base b o : Nat) (z : N4) (A : Option Addr) (n cap : Nat) (w : World) (hz : At4 w b o z) (fz : Free4 w b o) (hbb : base ≤ b) (hn : n < 9) (hnil : A = none → n = 0) :
    Calls Try.prog 70 #[.pointer (some ⟨b, o, none⟩), .slice A n cap] w fun e w' => (∃ u, e = .panicked [{ v := .iface Try.prog.rt.boundsError u, recovered := false }]) ∧ Below base w w' := by
  have hbp : ∀ (m : Int) (W : World), (boundsPanic (α := Value) .i64 8 m .index).run Try.prog W = _ := fun m W => Lib.run_boundsPanic_index Try.prog 8 m W (by decide) (by decide)
  clear hz fz
  cases A with
  | none =>
    obtain rfl := hnil rfl
    have hix : ∀ W : World, (Instr.indexAt 25 (.slice none 0 cap) (.int .i64 8)).run Try.prog W = _ := fun W => Lib.run_indexAt_nil W 25 5 0 cap .i64 8 Try.underlying25
    go_enter Try.func70, Try.ntmps70
    go_wp2
    exact ⟨rfl, ⟨_, rfl⟩, (Below.refl _ _).drew⟩
  | some a =>
    go_enter Try.func70, Try.ntmps70
    go_wp2
    exact ⟨rfl, ⟨_, rfl⟩, (Below.refl _ _).drew⟩
set_option maxHeartbeats 1000000 in
theorem setFew_9 (b o : Nat) (z : N4) (g q cap : Nat) (l : List UInt8) (w : World) (hz : At4 w b o z) (fz : Free4 w b o) (hB : BytesAt w g q l) (n : Nat) (hl : l.length = n) (hn : 9 ≤ n) (hcap : n ≤ cap) (hne : g ≠ b) : Calls Try.prog 53 #[.pointer (some ⟨b, o, none⟩), .int .i64 9, .slice (some ⟨g, q, none⟩) n cap] w fun e w' => e = .returned (.tuple #[]) ∧ Left w b o (ofN (Lib.beNat (l.take 9))) w' := by
  have HC := Lib.hid (set9_any b o z g q n cap l w hz fz hB hl hn hcap hne)
  clear hz fz hB hl
  go_enter Try.func53, Try.ntmps53
  go_wp2_with (go_at_call 70; refine HC.out.mono ?_; rintro e w1 ⟨rfl, H⟩)
  go_end0
  exact ⟨rfl, H⟩
set_option maxHeartbeats 1000000 in
theorem setFew_9_short (base b o : Nat) (z : N4) (A : Option Addr) (n cap : Nat) (w : World) (hz : At4 w b o z) (fz : Free4 w b o) (hbb : base ≤ b) (hn : n < 9) (hnil : A = none → n = 0) : Calls Try.prog 53 #[.pointer (some ⟨b, o, none⟩), .int .i64 9, .slice A n cap] w fun e w' => (∃ u, e = .panicked [{ v := .iface Try.prog.rt.boundsError u, recovered := false }]) ∧ Below base w w' := by
  have HC := Lib.hid (set9_short base b o z A n cap w hz fz hbb hn hnil)
  clear hz fz hnil
  go_enter Try.func53, Try.ntmps53
  go_wp2_with (go_at_call 70; refine HC.out.mono ?_; rintro e w1 ⟨⟨u, rfl⟩, H⟩)
  exact ⟨rfl, ⟨_, rfl⟩, H⟩
set_option maxHeartbeats 1000000 in
theorem set10_short (base b o : Nat) (z : N4) (A : Option Addr) (n cap : Nat) (w : World) (hz : At4 w b o z) (fz : Free4 w b o) (hbb : base ≤ b) (hn : n < 10) (hnil : A = none → n = 0) :
    Calls Try.prog 71 #[.pointer (some ⟨b, o, none⟩), .slice A n cap] w fun e w' => (∃ u, e = .panicked [{ v := .iface Try.prog.rt.boundsError u, recovered := false }]) ∧ Below base w w' := by
  have hbp : ∀ (m : Int) (W : World), (boundsPanic (α := Value) .i64 9 m .index).run Try.prog W = _ := fun m W => Lib.run_boundsPanic_index Try.prog 9 m W (by decide) (by decide)
  clear hz fz
  cases A with
  | none =>
    obtain rfl := hnil rfl
    have hix : ∀ W : World, (Instr.indexAt 25 (.slice none 0 cap) (.int .i64 9)).run Try.prog W = _ := fun W => Lib.run_indexAt_nil W 25 5 0 cap .i64 9 Try.underlying25
    go_enter Try.func71, Try.ntmps71
    go_wp2
    exact ⟨rfl, ⟨_, rfl⟩, (Below.refl _ _).drew⟩
  | some a =>
    go_enter Try.func71, Try.ntmps71
    go_wp2
    exact ⟨rfl, ⟨_, rfl⟩, (Below.refl _ _).drew⟩
set_option maxHeartbeats 1000000 in
theorem setFew_10 (b o : Nat) (z : N4) (g q cap : Nat) (l : List UInt8) (w : World) (hz : At4 w b o z) (fz : Free4 w b o) (hB : BytesAt w g q l) (n : Nat) (hl : l.length = n) (hn : 10 ≤ n) (hcap : n ≤ cap) (hne : g ≠ b) : Calls Try.prog 53 #[.pointer (some ⟨b, o, none⟩), .int .i64 10, .slice (some ⟨g, q, none⟩) n cap] w fun e w' => e = .returned (.tuple #[]) ∧ Left w b o (ofN (Lib.beNat (l.take 10))) w' := by
  have HC := Lib.hid (set10_any b o z g q n cap l w hz fz hB hl hn hcap hne)
  clear hz fz hB hl
  go_enter Try.func53, Try.ntmps53
  go_wp2_with (go_at_call 71; refine HC.out.mono ?_; rintro e w1 ⟨rfl, H⟩)
  go_end0
  exact ⟨rfl, H⟩
set_option maxHeartbeats 1000000 in
theorem setFew_10_short (base b o : Nat) (z : N4) (A : Option Addr) (n cap : Nat) (w : World) (hz : At4 w b o z) (fz : Free4 w b o) (hbb : base ≤ b) (hn : n < 10) (hnil : A = none → n = 0) : Calls Try.prog 53 #[.pointer (some ⟨b, o, none⟩), .int .i64 10, .slice A n cap] w fun e w' => (∃ u, e = .panicked [{ v := .iface Try.prog.rt.boundsError u, recovered := false }]) ∧ Below base w w' := by
  have HC := Lib.hid (set10_short base b o z A n cap w hz fz hbb hn hnil)
  clear hz fz hnil
  go_enter Try.func53, Try.ntmps53
  go_wp2_with (go_at_call 71; refine HC.out.mono ?_; rintro e w1 ⟨⟨u, rfl⟩, H⟩)
  exact ⟨rfl, ⟨_, rfl⟩, H⟩
set_option maxHeartbeats 1000000 in
theorem set11_short (base b o : Nat) (z : N4) (A : Option Addr) (n cap : Nat) (w : World) (hz : At4 w b o z) (fz : Free4 w b o) (hbb : base ≤ b) (hn : n < 11) (hnil : A = none → n = 0) :
    Calls Try.prog 72 #[.pointer (some ⟨b, o, none⟩), .slice A n cap] w fun e w' => (∃ u, e = .panicked [{ v := .iface Try.prog.rt.boundsError u, recovered := false }]) ∧ Below base w w' := by
  have hbp : ∀ (m : Int) (W : World), (boundsPanic (α := Value) .i64 10 m .index).run Try.prog W = _ := fun m W => Lib.run_boundsPanic_index Try.prog 10 m W (by decide) (by decide)
  clear hz fz
  cases A with
  | none =>
    obtain rfl := hnil rfl
    have hix : ∀ W : World, (Instr.indexAt 25 (.slice none 0 cap) (.int .i64 10)).run Try.prog W = _ := fun W => Lib.run_indexAt_nil W 25 5 0 cap .i64 10 Try.underlying25
    go_enter Try.func72, Try.ntmps72
    go_wp2
    exact ⟨rfl, ⟨_, rfl⟩, (Below.refl _ _).drew⟩
  | some a =>
    go_enter Try.func72, Try.ntmps72
    go_wp2
    exact ⟨rfl, ⟨_, rfl⟩, (Below.refl _ _).drew⟩
set_option maxHeartbeats 1000000 in
theorem setFew_11 (b o : Nat) (z : N4) (g q cap : Nat) (l : List UInt8) (w : World) (hz : At4 w b o z) (fz : Free4 w b o) (hB : BytesAt w g q l) (n : Nat) (hl : l.length = n) (hn : 11 ≤ n) (hcap : n ≤ cap) (hne : g ≠ b) : Calls Try.prog 53 #[.pointer (some ⟨b, o, none⟩), .int .i64 11, .slice (some ⟨g, q, none⟩) n cap] w fun e w' => e = .returned (.tuple #[]) ∧ Left w b o (ofN (Lib.beNat (l.take 11))) w' := by
  have HC := Lib.hid (set11_any b o z g q n cap l w hz fz hB hl hn hcap hne)
  clear hz fz hB hl
  go_enter Try.func53, Try.ntmps53
  go_wp2_with (go_at_call 72; refine HC.out.mono ?_; rintro e w1 ⟨rfl, H⟩)
  go_end0
  exact ⟨rfl, H⟩
set_option maxHeartbeats 1000000 in
theorem setFew_11_short (base b o : Nat) (z : N4) (A : Option Addr) (n cap : Nat) (w : World) (hz : At4 w b o z) (fz : Free4 w b o) (hbb : base ≤ b) (hn : n < 11) (hnil : A = none → n = 0) : Calls Try.prog 53 #[.pointer (some ⟨b, o, none⟩), .int .i64 11, .slice A n cap] w fun e w' => (∃ u, e = .panicked [{ v := .iface Try.prog.rt.boundsError u, recovered := false }]) ∧ Below base w w' := by
  have HC := Lib.hid (set11_short base b o z A n cap w hz fz hbb hn hnil)
  clear hz fz hnil
  go_enter Try.func53, Try.ntmps53
  go_wp2_with (go_at_call 72; refine HC.out.mono ?_; rintro e w1 ⟨⟨u, rfl⟩, H⟩)
  exact ⟨rfl, ⟨_, rfl⟩, H⟩
set_option maxHeartbeats 1000000 in
theorem set12_short (base b o : Nat) (z : N4) (A : Option Addr) (n cap : Nat) (w : World) (hz : At4 w b o z) (fz : Free4 w b o) (hbb : base ≤ b) (hn : n < 12) (hnil : A = none → n = 0) :
    Calls Try.prog 73 #[.pointer (some ⟨b, o, none⟩), .slice A n cap] w fun e w' => (∃ u, e = .panicked [{ v := .iface Try.prog.rt.boundsError u, recovered := false }]) ∧ Below base w w' := by
  have hbp : ∀ (m : Int) (W : World), (boundsPanic (α := Value) .i64 11 m .index).run Try.prog W = _ := fun m W => Lib.run_boundsPanic_index Try.prog 11 m W (by decide) (by decide)
  clear hz fz
  cases A with
  | none =>
    obtain rfl := hnil rfl
    have hix : ∀ W : World, (Instr.indexAt 25 (.slice none 0 cap) (.int .i64 11)).run Try.prog W = _ := fun W => Lib.run_indexAt_nil W 25 5 0 cap .i64 11 Try.underlying25
    go_enter Try.func73, Try.ntmps73
    go_wp2
    exact ⟨rfl, ⟨_, rfl⟩, (Below.refl _ _).drew⟩
  | some a =>
    go_enter Try.func73, Try.ntmps73
    go_wp2
    exact ⟨rfl, ⟨_, rfl⟩, (Below.refl _ _).drew⟩
set_option maxHeartbeats 1000000 in
theorem setFew_12 (b o : Nat) (z : N4) (g q cap : Nat) (l : List UInt8) (w : World) (hz : At4 w b o z) (fz : Free4 w b o) (hB : BytesAt w g q l) (n : Nat) (hl : l.length = n) (hn : 12 ≤ n) (hcap : n ≤ cap) (hne : g ≠ b) : Calls Try.prog 53 #[.pointer (some ⟨b, o, none⟩), .int .i64 12, .slice (some ⟨g, q, none⟩) n cap] w fun e w' => e = .returned (.tuple #[]) ∧ Left w b o (ofN (Lib.beNat (l.take 12))) w' := by
  have HC := Lib.hid (set12_any b o z g q n cap l w hz fz hB hl hn hcap hne)
  clear hz fz hB hl
  go_enter Try.func53, Try.ntmps53
  go_wp2_with (go_at_call 73; refine HC.out.mono ?_; rintro e w1 ⟨rfl, H⟩)
  go_end0
  exact ⟨rfl, H⟩
set_option maxHeartbeats 1000000 in
theorem setFew_12_short (base b o : Nat) (z : N4) (A : Option Addr) (n cap : Nat) (w : World) (hz : At4 w b o z) (fz : Free4 w b o) (hbb : base ≤ b) (hn : n < 12) (hnil : A = none → n = 0) : Calls Try.prog 53 #[.pointer (some ⟨b, o, none⟩), .int .i64 12, .slice A n cap] w fun e w' => (∃ u, e = .panicked [{ v := .iface Try.prog.rt.boundsError u, recovered := false }]) ∧ Below base w w' := by
  have HC := Lib.hid (set12_short base b o z A n cap w hz fz hbb hn hnil)
  clear hz fz hnil
  go_enter Try.func53, Try.ntmps53
  go_wp2_with (go_at_call 73; refine HC.out.mono ?_; rintro e w1 ⟨⟨u, rfl⟩, H⟩)
  exact ⟨rfl, ⟨_, rfl⟩, H⟩
set_option maxHeartbeats 1000000 in
theorem set13_short (base b o : Nat) (z : N4) (A : Option Addr) (n cap : Nat) (w : World) (hz : At4 w b o z) (fz : Free4 w b o) (hbb : base ≤ b) (hn : n < 13) (hnil : A = none → n = 0) :
    Calls Try.prog 74 #[.pointer (some ⟨b, o, none⟩), .slice A n cap] w fun e w' => (∃ u, e = .panicked [{ v := .iface Try.prog.rt.boundsError u, recovered := false }]) ∧ Below base w w' := by
  have hbp : ∀ (m : Int) (W : World), (boundsPanic (α := Value) .i64 12 m .index).run Try.prog W = _ := fun m W => Lib.run_boundsPanic_index Try.prog 12 m W (by decide) (by decide)
  clear hz fz
  cases A with
  | none =>
    obtain rfl := hnil rfl
    have hix : ∀ W : World, (Instr.indexAt 25 (.slice none 0 cap) (.int .i64 12)).run Try.prog W = _ := fun W => Lib.run_indexAt_nil W 25 5 0 cap .i64 12 Try.underlying25
    go_enter Try.func74, Try.ntmps74
    go_wp2
    exact ⟨rfl, ⟨_, rfl⟩, (Below.refl _ _).drew⟩
  | some a =>
    go_enter Try.func74, Try.ntmps74
    go_wp2
    exact ⟨rfl, ⟨_, rfl⟩, (Below.refl _ _).drew⟩
set_option maxHeartbeats 1000000 in
theorem setFew_13 (b o : Nat) (z : N4) (g q cap : Nat) (l : List UInt8) (w : World) (hz : At4 w b o z) (fz : Free4 w b o) (hB : BytesAt w g q l) (n : Nat) (hl : l.length = n) (hn : 13 ≤ n) (hcap : n ≤ cap) (hne : g ≠ b) : Calls Try.prog 53 #[.pointer (some ⟨b, o, none⟩), .int .i64 13, .slice (some ⟨g, q, none⟩) n cap] w fun e w' => e = .returned (.tuple #[]) ∧ Left w b o (ofN (Lib.beNat (l.take 13))) w' := by
  have HC := Lib.hid (set13_any b o z g q n cap l w hz fz hB hl hn hcap hne)
  clear hz fz hB hl
  go_enter Try.func53, Try.ntmps53
  go_wp2_with (go_at_call 74; refine HC.out.mono ?_; rintro e w1 ⟨rfl, H⟩)
  go_end0
  exact ⟨rfl, H⟩
set_option maxHeartbeats 1000000 in
theorem setFew_13_short (base b o : Nat) (z : N4) (A : Option Addr) (n cap : Nat) (w : World) (hz : At4 w b o z) (fz : Free4 w b o) (hbb : base ≤ b) (hn : n < 13) (hnil : A = none → n = 0) : Calls Try.prog 53 #[.pointer (some ⟨b, o, none⟩), .int .i64 13, .slice A n cap] w fun e w' => (∃ u, e = .panicked [{ v := .iface Try.prog.rt.boundsError u, recovered := false }]) ∧ Below base w w' := by
  have HC := Lib.hid (set13_short base b o z A n cap w hz fz hbb hn hnil)
  clear hz fz hnil
  go_enter Try.func53, Try.ntmps53
  go_wp2_with (go_at_call 74; refine HC.out.mono ?_; rintro e w1 ⟨⟨u, rfl⟩, H⟩)
  exact ⟨rfl, ⟨_, rfl⟩, H⟩
set_option maxHeartbeats 1000000 in
theorem set14_short (base b o : Nat) (z : N4) (A : Option Addr) (n cap : Nat) (w : World) (hz : At4 w b o z) (fz : Free4 w b o) (hbb : base ≤ b) (hn : n < 14) (hnil : A = none → n = 0) :
    Calls Try.prog 75 #[.pointer (some ⟨b, o, none⟩), .slice A n cap] w fun e w' => (∃ u, e = .panicked [{ v := .iface Try.prog.rt.boundsError u, recovered := false }]) ∧ Below base w w' := by
  have hbp : ∀ (m : Int) (W : World), (boundsPanic (α := Value) .i64 13 m .index).run Try.prog W = _ := fun m W => Lib.run_boundsPanic_index Try.prog 13 m W (by decide) (by decide)
  clear hz fz
  cases A with
  | none =>
    obtain rfl := hnil rfl
    have hix : ∀ W : World, (Instr.indexAt 25 (.slice none 0 cap) (.int .i64 13)).run Try.prog W = _ := fun W => Lib.run_indexAt_nil W 25 5 0 cap .i64 13 Try.underlying25
    go_enter Try.func75, Try.ntmps75
    go_wp2
    exact ⟨rfl, ⟨_, rfl⟩, (Below.refl _ _).drew⟩
  | some a =>
    go_enter Try.func75, Try.ntmps75
    go_wp2
    exact ⟨rfl, ⟨_, rfl⟩, (Below.refl _ _).drew⟩
set_option maxHeartbeats 1000000 in
theorem setFew_14 (b o : Nat) (z : N4) (g q cap : Nat) (l : List UInt8) (w : World) (hz : At4 w b o z) (fz : Free4 w b o) (hB : BytesAt w g q l) (n : Nat) (hl : l.length = n) (hn : 14 ≤ n) (hcap : n ≤ cap) (hne : g ≠ b) : Calls Try.prog 53 #[.pointer (some ⟨b, o, none⟩), .int .i64 14, .slice (some ⟨g, q, none⟩) n cap] w fun e w' => e = .returned (.tuple #[]) ∧ Left w b o (ofN (Lib.beNat (l.take 14))) w' := by
  have HC := Lib.hid (set14_any b o z g q n cap l w hz fz hB hl hn hcap hne)
  clear hz fz hB hl
  go_enter Try.func53, Try.ntmps53
  go_wp2_with (go_at_call 75; refine HC.out.mono ?_; rintro e w1 ⟨rfl, H⟩)
  go_end0
  exact ⟨rfl, H⟩
set_option maxHeartbeats 1000000 in
theorem setFew_14_short (base b o : Nat) (z : N4) (A : Option Addr) (n cap : Nat) (w : World) (hz : At4 w b o z) (fz : Free4 w b o) (hbb : base ≤ b) (hn : n < 14) (hnil : A = none → n = 0) : Calls Try.prog 53 #[.pointer (some ⟨b, o, none⟩), .int .i64 14, .slice A n cap] w fun e w' => (∃ u, e = .panicked [{ v := .iface Try.prog.rt.boundsError u, recovered := false }]) ∧ Below base w w' := by
  have HC := Lib.hid (set14_short base b o z A n cap w hz fz hbb hn hnil)
  clear hz fz hnil
  go_enter Try.func53, Try.ntmps53
  go_wp2_with (go_at_call 75; refine HC.out.mono ?_; rintro e w1 ⟨⟨u, rfl⟩, H⟩)
  exact ⟨rfl, ⟨_, rfl⟩, H⟩
set_option maxHeartbeats 1000000 in
theorem set15_short (base b o : Nat) (z : N4) (A : Option Addr) (n cap : Nat) (w : World) (hz : At4 w b o z) (fz : Free4 w b o) (hbb : base ≤ b) (hn : n < 15) (hnil : A = none → n = 0) :
    Calls Try.prog 76 #[.pointer (some ⟨b, o, none⟩), .slice A n cap] w fun e w' => (∃ u, e = .panicked [{ v := .iface Try.prog.rt.boundsError u, recovered := false }]) ∧ Below base w w' := by
  have hbp : ∀ (m : Int) (W : World), (boundsPanic (α := Value) .i64 14 m .index).run Try.prog W = _ := fun m W => Lib.run_boundsPanic_index Try.prog 14 m W (by decide) (by decide)
  clear hz fz
  cases A with
  | none =>
    obtain rfl := hnil rfl
    have hix : ∀ W : World, (Instr.indexAt 25 (.slice none 0 cap) (.int .i64 14)).run Try.prog W = _ := fun W => Lib.run_indexAt_nil W 25 5 0 cap .i64 14 Try.underlying25
    go_enter Try.func76, Try.ntmps76
    go_wp2
    exact ⟨rfl, ⟨_, rfl⟩, (Below.refl _ _).drew⟩
  | some a =>
    go_enter Try.func76, Try.ntmps76
    go_wp2
    exact ⟨rfl, ⟨_, rfl⟩, (Below.refl _ _).drew⟩
set_option maxHeartbeats 1000000 in
theorem setFew_15 (b o : Nat) (z : N4) (g q cap : Nat) (l : List UInt8) (w : World) (hz : At4 w b o z) (fz : Free4 w b o) (hB : BytesAt w g q l) (n : Nat) (hl : l.length = n) (hn : 15 ≤ n) (hcap : n ≤ cap) (hne : g ≠ b) : Calls Try.prog 53 #[.pointer (some ⟨b, o, none⟩), .int .i64 15, .slice (some ⟨g, q, none⟩) n cap] w fun e w' => e = .returned (.tuple #[]) ∧ Left w b o (ofN (Lib.beNat (l.take 15))) w' := by
  have HC := Lib.hid (set15_any b o z g q n cap l w hz fz hB hl hn hcap hne)
  clear hz fz hB hl
  go_enter Try.func53, Try.ntmps53
  go_wp2_with (go_at_call 76; refine HC.out.mono ?_; rintro e w1 ⟨rfl, H⟩)
  go_end0
  exact ⟨rfl, H⟩
set_option maxHeartbeats 1000000 in
theorem setFew_15_short (base b o : Nat) (z : N4) (A : Option Addr) (n cap : Nat) (w : World) (hz : At4 w b o z) (fz : Free4 w b o) (hbb : base ≤ b) (hn : n < 15) (hnil : A = none → n = 0) : Calls Try.prog 53 #[.pointer (some ⟨b, o, none⟩), .int .i64 15, .slice A n cap] w fun e w' => (∃ u, e = .panicked [{ v := .iface Try.prog.rt.boundsError u, recovered := false }]) ∧ Below base w w' := by
  have HC := Lib.hid (set15_short base b o z A n cap w hz fz hbb hn hnil)
  clear hz fz hnil
  go_enter Try.func53, Try.ntmps53
  go_wp2_with (go_at_call 76; refine HC.out.mono ?_; rintro e w1 ⟨⟨u, rfl⟩, H⟩)
  exact ⟨rfl, ⟨_, rfl⟩, H⟩
set_option maxHeartbeats 1000000 in
theorem set16_short (base b o : Nat) (z : N4) (A : Option Addr) (n cap : Nat) (w : World) (hz : At4 w b o z) (fz : Free4 w b o) (hbb : base ≤ b) (hn : n < 16) (hnil : A = none → n = 0) :
    Calls Try.prog 77 #[.pointer (some ⟨b, o, none⟩), .slice A n cap] w fun e w' => (∃ u, e = .panicked [{ v := .iface Try.prog.rt.boundsError u, recovered := false }]) ∧ Below base w w' := by
  have hbp : ∀ (m : Int) (W : World), (boundsPanic (α := Value) .i64 15 m .index).run Try.prog W = _ := fun m W => Lib.run_boundsPanic_index Try.prog 15 m W (by decide) (by decide)
  clear hz fz
  cases A with
  | none =>
    obtain rfl := hnil rfl
    have hix : ∀ W : World, (Instr.indexAt 25 (.slice none 0 cap) (.int .i64 15)).run Try.prog W = _ := fun W => Lib.run_indexAt_nil W 25 5 0 cap .i64 15 Try.underlying25
    go_enter Try.func77, Try.ntmps77
    go_wp2
    exact ⟨rfl, ⟨_, rfl⟩, (Below.refl _ _).drew⟩
  | some a =>
    go_enter Try.func77, Try.ntmps77
    go_wp2
    exact ⟨rfl, ⟨_, rfl⟩, (Below.refl _ _).drew⟩
set_option maxHeartbeats 1000000 in
theorem setFew_16 (b o : Nat) (z : N4) (g q cap : Nat) (l : List UInt8) (w : World) (hz : At4 w b o z) (fz : Free4 w b o) (hB : BytesAt w g q l) (n : Nat) (hl : l.length = n) (hn : 16 ≤ n) (hcap : n ≤ cap) (hne : g ≠ b) : Calls Try.prog 53 #[.pointer (some ⟨b, o, none⟩), .int .i64 16, .slice (some ⟨g, q, none⟩) n cap] w fun e w' => e = .returned (.tuple #[]) ∧ Left w b o (ofN (Lib.beNat (l.take 16))) w' := by
  have HC := Lib.hid (set16_any b o z g q n cap l w hz fz hB hl hn hcap hne)
  clear hz fz hB hl
  go_enter Try.func53, Try.ntmps53
  go_wp2_with (go_at_call 77; refine HC.out.mono ?_; rintro e w1 ⟨rfl, H⟩)
  go_end0
  exact ⟨rfl, H⟩
set_option maxHeartbeats 1000000 in
theorem setFew_16_short (base b o : Nat) (z : N4) (A : Option Addr) (n cap : Nat) (w : World) (hz : At4 w b o z) (fz : Free4 w b o) (hbb : base ≤ b) (hn : n < 16) (hnil : A = none → n = 0) : Calls Try.prog 53 #[.pointer (some ⟨b, o, none⟩), .int .i64 16, .slice A n cap] w fun e w' => (∃ u, e = .panicked [{ v := .iface Try.prog.rt.boundsError u, recovered := false }]) ∧ Below base w w' := by
  have HC := Lib.hid (set16_short base b o z A n cap w hz fz hbb hn hnil)
  clear hz fz hnil
  go_enter Try.func53, Try.ntmps53
  go_wp2_with (go_at_call 77; refine HC.out.mono ?_; rintro e w1 ⟨⟨u, rfl⟩, H⟩)
  exact ⟨rfl, ⟨_, rfl⟩, H⟩
end Go.Proofs.Ytpmhkmcikjbncaa
