/-
  SetBytes, case by case.
-/
import Derived.Test.YtpmhkmcikjbncaaFmtSb1
import Derived.Test.YtpmhkmcikjbncaaFmtSb2
import Derived.Test.YtpmhkmcikjbncaaFmtSb3
import Derived.Test.YtpmhkmcikjbncaaFmtSb4
namespace Go.Proofs.YtpmhkmcikjbncaaFmt
open Go.RowKit
set_option linter.unusedVariables false
set_option linter.unusedSimpArgs false
set_option maxRecDepth 100000
set_option maxHeartbeats 1000000 in
theorem sbCase0 (b o : Nat) (z : N4) (A : Option Addr) (cap : Nat) (w : World) (hz : At4 w b o z) (fz : Free4 w b o) : Calls Tryf.prog 19 #[.pointer (some ⟨b, o, none⟩), .slice A 0 cap] w (RetLeft b o (ofN 0) w) := by
  have HC := Lib.hid (clear_any b o z w hz fz)
  clear hz fz
  go_enter Tryf.func19, Tryf.ntmps19
  go_wp2_with (go_at_call 27; refine HC.out.mono ?_; rintro e w1 ⟨rfl, n, rfl⟩)
  go_ret
  have e0 : ofN 0 = ⟨0#64, 0#64, 0#64, 0#64⟩ := by unfold ofN; simp
  rw [e0]
  exact ⟨rfl, Left.of_put _ _ _ n _⟩
set_option maxHeartbeats 1000000 in
theorem sbCase1 (b o : Nat) (z : N4) (g q cap : Nat) (l : List UInt8) (w : World) (hz : At4 w b o z) (fz : Free4 w b o) (hB : BytesAt w g q l) (hl : l.length = 1) (hcap : 1 ≤ cap) (hne : g ≠ b) : Calls Tryf.prog 19 #[.pointer (some ⟨b, o, none⟩), .slice (some ⟨g, q, none⟩) 1 cap] w (RetLeft b o (ofN (Lib.beNat l)) w) := by
  have et : l.take 1 = l := List.take_of_length_le (by omega)
  have HC := Lib.hid (set1_any b o z g q 1 cap l w hz fz hB hl (by omega) hcap hne)
  rw [et] at HC
  clear hz fz hB hl et
  go_enter Tryf.func19, Tryf.ntmps19
  go_wp2_with (go_at_call 28; refine HC.out.mono ?_; rintro e w1 ⟨rfl, H⟩)
  go_ret
  exact ⟨rfl, H⟩
set_option maxHeartbeats 1000000 in
theorem sbCase2 (b o : Nat) (z : N4) (g q cap : Nat) (l : List UInt8) (w : World) (hz : At4 w b o z) (fz : Free4 w b o) (hB : BytesAt w g q l) (hl : l.length = 2) (hcap : 2 ≤ cap) (hne : g ≠ b) : Calls Tryf.prog 19 #[.pointer (some ⟨b, o, none⟩), .slice (some ⟨g, q, none⟩) 2 cap] w (RetLeft b o (ofN (Lib.beNat l)) w) := by
  have et : l.take 2 = l := List.take_of_length_le (by omega)
  have HC := Lib.hid (set2_any b o z g q 2 cap l w hz fz hB hl (by omega) hcap hne)
  rw [et] at HC
  clear hz fz hB hl et
  go_enter Tryf.func19, Tryf.ntmps19
  go_wp2_with (go_at_call 29; refine HC.out.mono ?_; rintro e w1 ⟨rfl, H⟩)
  go_ret
  exact ⟨rfl, H⟩
set_option maxHeartbeats 1000000 in
theorem sbCase3 (b o : Nat) (z : N4) (g q cap : Nat) (l : List UInt8) (w : World) (hz : At4 w b o z) (fz : Free4 w b o) (hB : BytesAt w g q l) (hl : l.length = 3) (hcap : 3 ≤ cap) (hne : g ≠ b) : Calls Tryf.prog 19 #[.pointer (some ⟨b, o, none⟩), .slice (some ⟨g, q, none⟩) 3 cap] w (RetLeft b o (ofN (Lib.beNat l)) w) := by
  have et : l.take 3 = l := List.take_of_length_le (by omega)
  have HC := Lib.hid (set3_any b o z g q 3 cap l w hz fz hB hl (by omega) hcap hne)
  rw [et] at HC
  clear hz fz hB hl et
  go_enter Tryf.func19, Tryf.ntmps19
  go_wp2_with (go_at_call 30; refine HC.out.mono ?_; rintro e w1 ⟨rfl, H⟩)
  go_ret
  exact ⟨rfl, H⟩
set_option maxHeartbeats 1000000 in
theorem sbCase4 (b o : Nat) (z : N4) (g q cap : Nat) (l : List UInt8) (w : World) (hz : At4 w b o z) (fz : Free4 w b o) (hB : BytesAt w g q l) (hl : l.length = 4) (hcap : 4 ≤ cap) (hne : g ≠ b) : Calls Tryf.prog 19 #[.pointer (some ⟨b, o, none⟩), .slice (some ⟨g, q, none⟩) 4 cap] w (RetLeft b o (ofN (Lib.beNat l)) w) := by
  have et : l.take 4 = l := List.take_of_length_le (by omega)
  have HC := Lib.hid (set4_any b o z g q 4 cap l w hz fz hB hl (by omega) hcap hne)
  rw [et] at HC
  clear hz fz hB hl et
  go_enter Tryf.func19, Tryf.ntmps19
  go_wp2_with (go_at_call 31; refine HC.out.mono ?_; rintro e w1 ⟨rfl, H⟩)
  go_ret
  exact ⟨rfl, H⟩
set_option maxHeartbeats 1000000 in
theorem sbCase5 (b o : Nat) (z : N4) (g q cap : Nat) (l : List UInt8) (w : World) (hz : At4 w b o z) (fz : Free4 w b o) (hB : BytesAt w g q l) (hl : l.length = 5) (hcap : 5 ≤ cap) (hne : g ≠ b) : Calls Tryf.prog 19 #[.pointer (some ⟨b, o, none⟩), .slice (some ⟨g, q, none⟩) 5 cap] w (RetLeft b o (ofN (Lib.beNat l)) w) := by
  have et : l.take 5 = l := List.take_of_length_le (by omega)
  have HC := Lib.hid (set5_any b o z g q 5 cap l w hz fz hB hl (by omega) hcap hne)
  rw [et] at HC
  clear hz fz hB hl et
  go_enter Tryf.func19, Tryf.ntmps19
  go_wp2_with (go_at_call 32; refine HC.out.mono ?_; rintro e w1 ⟨rfl, H⟩)
  go_ret
  exact ⟨rfl, H⟩
set_option maxHeartbeats 1000000 in
theorem sbCase6 (b o : Nat) (z : N4) (g q cap : Nat) (l : List UInt8) (w : World) (hz : At4 w b o z) (fz : Free4 w b o) (hB : BytesAt w g q l) (hl : l.length = 6) (hcap : 6 ≤ cap) (hne : g ≠ b) : Calls Tryf.prog 19 #[.pointer (some ⟨b, o, none⟩), .slice (some ⟨g, q, none⟩) 6 cap] w (RetLeft b o (ofN (Lib.beNat l)) w) := by
  have et : l.take 6 = l := List.take_of_length_le (by omega)
  have HC := Lib.hid (set6_any b o z g q 6 cap l w hz fz hB hl (by omega) hcap hne)
  rw [et] at HC
  clear hz fz hB hl et
  go_enter Tryf.func19, Tryf.ntmps19
  go_wp2_with (go_at_call 33; refine HC.out.mono ?_; rintro e w1 ⟨rfl, H⟩)
  go_ret
  exact ⟨rfl, H⟩
set_option maxHeartbeats 1000000 in
theorem sbCase7 (b o : Nat) (z : N4) (g q cap : Nat) (l : List UInt8) (w : World) (hz : At4 w b o z) (fz : Free4 w b o) (hB : BytesAt w g q l) (hl : l.length = 7) (hcap : 7 ≤ cap) (hne : g ≠ b) : Calls Tryf.prog 19 #[.pointer (some ⟨b, o, none⟩), .slice (some ⟨g, q, none⟩) 7 cap] w (RetLeft b o (ofN (Lib.beNat l)) w) := by
  have et : l.take 7 = l := List.take_of_length_le (by omega)
  have HC := Lib.hid (set7_any b o z g q 7 cap l w hz fz hB hl (by omega) hcap hne)
  rw [et] at HC
  clear hz fz hB hl et
  go_enter Tryf.func19, Tryf.ntmps19
  go_wp2_with (go_at_call 34; refine HC.out.mono ?_; rintro e w1 ⟨rfl, H⟩)
  go_ret
  exact ⟨rfl, H⟩
set_option maxHeartbeats 1000000 in
theorem sbCase8 (b o : Nat) (z : N4) (g q cap : Nat) (l : List UInt8) (w : World) (hz : At4 w b o z) (fz : Free4 w b o) (hB : BytesAt w g q l) (hl : l.length = 8) (hcap : 8 ≤ cap) (hne : g ≠ b) : Calls Tryf.prog 19 #[.pointer (some ⟨b, o, none⟩), .slice (some ⟨g, q, none⟩) 8 cap] w (RetLeft b o (ofN (Lib.beNat l)) w) := by
  have et : l.take 8 = l := List.take_of_length_le (by omega)
  have HC := Lib.hid (set8_any b o z g q 8 cap l w hz fz hB hl (by omega) hcap hne)
  rw [et] at HC
  clear hz fz hB hl et
  go_enter Tryf.func19, Tryf.ntmps19
  go_wp2_with (go_at_call 35; refine HC.out.mono ?_; rintro e w1 ⟨rfl, H⟩)
  go_ret
  exact ⟨rfl, H⟩
set_option maxHeartbeats 1000000 in
theorem sbCase9 (b o : Nat) (z : N4) (g q cap : Nat) (l : List UInt8) (w : World) (hz : At4 w b o z) (fz : Free4 w b o) (hB : BytesAt w g q l) (hl : l.length = 9) (hcap : 9 ≤ cap) (hne : g ≠ b) : Calls Tryf.prog 19 #[.pointer (some ⟨b, o, none⟩), .slice (some ⟨g, q, none⟩) 9 cap] w (RetLeft b o (ofN (Lib.beNat l)) w) := by
  have et : l.take 9 = l := List.take_of_length_le (by omega)
  have HC := Lib.hid (set9_any b o z g q 9 cap l w hz fz hB hl (by omega) hcap hne)
  rw [et] at HC
  clear hz fz hB hl et
  go_enter Tryf.func19, Tryf.ntmps19
  go_wp2_with (go_at_call 36; refine HC.out.mono ?_; rintro e w1 ⟨rfl, H⟩)
  go_ret
  exact ⟨rfl, H⟩
set_option maxHeartbeats 1000000 in
theorem sbCase10 (b o : Nat) (z : N4) (g q cap : Nat) (l : List UInt8) (w : World) (hz : At4 w b o z) (fz : Free4 w b o) (hB : BytesAt w g q l) (hl : l.length = 10) (hcap : 10 ≤ cap) (hne : g ≠ b) : Calls Tryf.prog 19 #[.pointer (some ⟨b, o, none⟩), .slice (some ⟨g, q, none⟩) 10 cap] w (RetLeft b o (ofN (Lib.beNat l)) w) := by
  have et : l.take 10 = l := List.take_of_length_le (by omega)
  have HC := Lib.hid (set10_any b o z g q 10 cap l w hz fz hB hl (by omega) hcap hne)
  rw [et] at HC
  clear hz fz hB hl et
  go_enter Tryf.func19, Tryf.ntmps19
  go_wp2_with (go_at_call 37; refine HC.out.mono ?_; rintro e w1 ⟨rfl, H⟩)
  go_ret
  exact ⟨rfl, H⟩
set_option maxHeartbeats 1000000 in
theorem sbCase11 (b o : Nat) (z : N4) (g q cap : Nat) (l : List UInt8) (w : World) (hz : At4 w b o z) (fz : Free4 w b o) (hB : BytesAt w g q l) (hl : l.length = 11) (hcap : 11 ≤ cap) (hne : g ≠ b) : Calls Tryf.prog 19 #[.pointer (some ⟨b, o, none⟩), .slice (some ⟨g, q, none⟩) 11 cap] w (RetLeft b o (ofN (Lib.beNat l)) w) := by
  have et : l.take 11 = l := List.take_of_length_le (by omega)
  have HC := Lib.hid (set11_any b o z g q 11 cap l w hz fz hB hl (by omega) hcap hne)
  rw [et] at HC
  clear hz fz hB hl et
  go_enter Tryf.func19, Tryf.ntmps19
  go_wp2_with (go_at_call 38; refine HC.out.mono ?_; rintro e w1 ⟨rfl, H⟩)
  go_ret
  exact ⟨rfl, H⟩
set_option maxHeartbeats 1000000 in
theorem sbCase12 (b o : Nat) (z : N4) (g q cap : Nat) (l : List UInt8) (w : World) (hz : At4 w b o z) (fz : Free4 w b o) (hB : BytesAt w g q l) (hl : l.length = 12) (hcap : 12 ≤ cap) (hne : g ≠ b) : Calls Tryf.prog 19 #[.pointer (some ⟨b, o, none⟩), .slice (some ⟨g, q, none⟩) 12 cap] w (RetLeft b o (ofN (Lib.beNat l)) w) := by
  have et : l.take 12 = l := List.take_of_length_le (by omega)
  have HC := Lib.hid (set12_any b o z g q 12 cap l w hz fz hB hl (by omega) hcap hne)
  rw [et] at HC
  clear hz fz hB hl et
  go_enter Tryf.func19, Tryf.ntmps19
  go_wp2_with (go_at_call 39; refine HC.out.mono ?_; rintro e w1 ⟨rfl, H⟩)
  go_ret
  exact ⟨rfl, H⟩
set_option maxHeartbeats 1000000 in
theorem sbCase13 (b o : Nat) (z : N4) (g q cap : Nat) (l : List UInt8) (w : World) (hz : At4 w b o z) (fz : Free4 w b o) (hB : BytesAt w g q l) (hl : l.length = 13) (hcap : 13 ≤ cap) (hne : g ≠ b) : Calls Tryf.prog 19 #[.pointer (some ⟨b, o, none⟩), .slice (some ⟨g, q, none⟩) 13 cap] w (RetLeft b o (ofN (Lib.beNat l)) w) := by
  have et : l.take 13 = l := List.take_of_length_le (by omega)
  have HC := Lib.hid (set13_any b o z g q 13 cap l w hz fz hB hl (by omega) hcap hne)
  rw [et] at HC
  clear hz fz hB hl et
  go_enter Tryf.func19, Tryf.ntmps19
  go_wp2_with (go_at_call 40; refine HC.out.mono ?_; rintro e w1 ⟨rfl, H⟩)
  go_ret
  exact ⟨rfl, H⟩
set_option maxHeartbeats 1000000 in
theorem sbCase14 (b o : Nat) (z : N4) (g q cap : Nat) (l : List UInt8) (w : World) (hz : At4 w b o z) (fz : Free4 w b o) (hB : BytesAt w g q l) (hl : l.length = 14) (hcap : 14 ≤ cap) (hne : g ≠ b) : Calls Tryf.prog 19 #[.pointer (some ⟨b, o, none⟩), .slice (some ⟨g, q, none⟩) 14 cap] w (RetLeft b o (ofN (Lib.beNat l)) w) := by
  have et : l.take 14 = l := List.take_of_length_le (by omega)
  have HC := Lib.hid (set14_any b o z g q 14 cap l w hz fz hB hl (by omega) hcap hne)
  rw [et] at HC
  clear hz fz hB hl et
  go_enter Tryf.func19, Tryf.ntmps19
  go_wp2_with (go_at_call 41; refine HC.out.mono ?_; rintro e w1 ⟨rfl, H⟩)
  go_ret
  exact ⟨rfl, H⟩
set_option maxHeartbeats 1000000 in
theorem sbCase15 (b o : Nat) (z : N4) (g q cap : Nat) (l : List UInt8) (w : World) (hz : At4 w b o z) (fz : Free4 w b o) (hB : BytesAt w g q l) (hl : l.length = 15) (hcap : 15 ≤ cap) (hne : g ≠ b) : Calls Tryf.prog 19 #[.pointer (some ⟨b, o, none⟩), .slice (some ⟨g, q, none⟩) 15 cap] w (RetLeft b o (ofN (Lib.beNat l)) w) := by
  have et : l.take 15 = l := List.take_of_length_le (by omega)
  have HC := Lib.hid (set15_any b o z g q 15 cap l w hz fz hB hl (by omega) hcap hne)
  rw [et] at HC
  clear hz fz hB hl et
  go_enter Tryf.func19, Tryf.ntmps19
  go_wp2_with (go_at_call 42; refine HC.out.mono ?_; rintro e w1 ⟨rfl, H⟩)
  go_ret
  exact ⟨rfl, H⟩
set_option maxHeartbeats 1000000 in
theorem sbCase16 (b o : Nat) (z : N4) (g q cap : Nat) (l : List UInt8) (w : World) (hz : At4 w b o z) (fz : Free4 w b o) (hB : BytesAt w g q l) (hl : l.length = 16) (hcap : 16 ≤ cap) (hne : g ≠ b) : Calls Tryf.prog 19 #[.pointer (some ⟨b, o, none⟩), .slice (some ⟨g, q, none⟩) 16 cap] w (RetLeft b o (ofN (Lib.beNat l)) w) := by
  have et : l.take 16 = l := List.take_of_length_le (by omega)
  have HC := Lib.hid (set16_any b o z g q 16 cap l w hz fz hB hl (by omega) hcap hne)
  rw [et] at HC
  clear hz fz hB hl et
  go_enter Tryf.func19, Tryf.ntmps19
  go_wp2_with (go_at_call 43; refine HC.out.mono ?_; rintro e w1 ⟨rfl, H⟩)
  go_ret
  exact ⟨rfl, H⟩
set_option maxHeartbeats 1000000 in
theorem sbCase17 (b o : Nat) (z : N4) (g q cap : Nat) (l : List UInt8) (w : World) (hz : At4 w b o z) (fz : Free4 w b o) (hB : BytesAt w g q l) (hl : l.length = 17) (hcap : 17 ≤ cap) (hne : g ≠ b) : Calls Tryf.prog 19 #[.pointer (some ⟨b, o, none⟩), .slice (some ⟨g, q, none⟩) 17 cap] w (RetLeft b o (ofN (Lib.beNat l)) w) := by
  have et : l.take 17 = l := List.take_of_length_le (by omega)
  have HC := Lib.hid (set17_any b o z g q 17 cap l w hz fz hB hl (by omega) hcap hne)
  rw [et] at HC
  clear hz fz hB hl et
  go_enter Tryf.func19, Tryf.ntmps19
  go_wp2_with (go_at_call 44; refine HC.out.mono ?_; rintro e w1 ⟨rfl, H⟩)
  go_ret
  exact ⟨rfl, H⟩
set_option maxHeartbeats 1000000 in
theorem sbCase18 (b o : Nat) (z : N4) (g q cap : Nat) (l : List UInt8) (w : World) (hz : At4 w b o z) (fz : Free4 w b o) (hB : BytesAt w g q l) (hl : l.length = 18) (hcap : 18 ≤ cap) (hne : g ≠ b) : Calls Tryf.prog 19 #[.pointer (some ⟨b, o, none⟩), .slice (some ⟨g, q, none⟩) 18 cap] w (RetLeft b o (ofN (Lib.beNat l)) w) := by
  have et : l.take 18 = l := List.take_of_length_le (by omega)
  have HC := Lib.hid (set18_any b o z g q 18 cap l w hz fz hB hl (by omega) hcap hne)
  rw [et] at HC
  clear hz fz hB hl et
  go_enter Tryf.func19, Tryf.ntmps19
  go_wp2_with (go_at_call 45; refine HC.out.mono ?_; rintro e w1 ⟨rfl, H⟩)
  go_ret
  exact ⟨rfl, H⟩
set_option maxHeartbeats 1000000 in
theorem sbCase19 (b o : Nat) (z : N4) (g q cap : Nat) (l : List UInt8) (w : World) (hz : At4 w b o z) (fz : Free4 w b o) (hB : BytesAt w g q l) (hl : l.length = 19) (hcap : 19 ≤ cap) (hne : g ≠ b) : Calls Tryf.prog 19 #[.pointer (some ⟨b, o, none⟩), .slice (some ⟨g, q, none⟩) 19 cap] w (RetLeft b o (ofN (Lib.beNat l)) w) := by
  have et : l.take 19 = l := List.take_of_length_le (by omega)
  have HC := Lib.hid (set19_any b o z g q 19 cap l w hz fz hB hl (by omega) hcap hne)
  rw [et] at HC
  clear hz fz hB hl et
  go_enter Tryf.func19, Tryf.ntmps19
  go_wp2_with (go_at_call 46; refine HC.out.mono ?_; rintro e w1 ⟨rfl, H⟩)
  go_ret
  exact ⟨rfl, H⟩
set_option maxHeartbeats 1000000 in
theorem sbCase20 (b o : Nat) (z : N4) (g q cap : Nat) (l : List UInt8) (w : World) (hz : At4 w b o z) (fz : Free4 w b o) (hB : BytesAt w g q l) (hl : l.length = 20) (hcap : 20 ≤ cap) (hne : g ≠ b) : Calls Tryf.prog 19 #[.pointer (some ⟨b, o, none⟩), .slice (some ⟨g, q, none⟩) 20 cap] w (RetLeft b o (ofN (Lib.beNat l)) w) := by
  have et : l.take 20 = l := List.take_of_length_le (by omega)
  have HC := Lib.hid (set20_any b o z g q 20 cap l w hz fz hB hl (by omega) hcap hne)
  rw [et] at HC
  clear hz fz hB hl et
  go_enter Tryf.func19, Tryf.ntmps19
  go_wp2_with (go_at_call 47; refine HC.out.mono ?_; rintro e w1 ⟨rfl, H⟩)
  go_ret
  exact ⟨rfl, H⟩
set_option maxHeartbeats 1000000 in
theorem sbCase21 (b o : Nat) (z : N4) (g q cap : Nat) (l : List UInt8) (w : World) (hz : At4 w b o z) (fz : Free4 w b o) (hB : BytesAt w g q l) (hl : l.length = 21) (hcap : 21 ≤ cap) (hne : g ≠ b) : Calls Tryf.prog 19 #[.pointer (some ⟨b, o, none⟩), .slice (some ⟨g, q, none⟩) 21 cap] w (RetLeft b o (ofN (Lib.beNat l)) w) := by
  have et : l.take 21 = l := List.take_of_length_le (by omega)
  have HC := Lib.hid (set21_any b o z g q 21 cap l w hz fz hB hl (by omega) hcap hne)
  rw [et] at HC
  clear hz fz hB hl et
  go_enter Tryf.func19, Tryf.ntmps19
  go_wp2_with (go_at_call 48; refine HC.out.mono ?_; rintro e w1 ⟨rfl, H⟩)
  go_ret
  exact ⟨rfl, H⟩
set_option maxHeartbeats 1000000 in
theorem sbCase22 (b o : Nat) (z : N4) (g q cap : Nat) (l : List UInt8) (w : World) (hz : At4 w b o z) (fz : Free4 w b o) (hB : BytesAt w g q l) (hl : l.length = 22) (hcap : 22 ≤ cap) (hne : g ≠ b) : Calls Tryf.prog 19 #[.pointer (some ⟨b, o, none⟩), .slice (some ⟨g, q, none⟩) 22 cap] w (RetLeft b o (ofN (Lib.beNat l)) w) := by
  have et : l.take 22 = l := List.take_of_length_le (by omega)
  have HC := Lib.hid (set22_any b o z g q 22 cap l w hz fz hB hl (by omega) hcap hne)
  rw [et] at HC
  clear hz fz hB hl et
  go_enter Tryf.func19, Tryf.ntmps19
  go_wp2_with (go_at_call 49; refine HC.out.mono ?_; rintro e w1 ⟨rfl, H⟩)
  go_ret
  exact ⟨rfl, H⟩
set_option maxHeartbeats 1000000 in
theorem sbCase23 (b o : Nat) (z : N4) (g q cap : Nat) (l : List UInt8) (w : World) (hz : At4 w b o z) (fz : Free4 w b o) (hB : BytesAt w g q l) (hl : l.length = 23) (hcap : 23 ≤ cap) (hne : g ≠ b) : Calls Tryf.prog 19 #[.pointer (some ⟨b, o, none⟩), .slice (some ⟨g, q, none⟩) 23 cap] w (RetLeft b o (ofN (Lib.beNat l)) w) := by
  have et : l.take 23 = l := List.take_of_length_le (by omega)
  have HC := Lib.hid (set23_any b o z g q 23 cap l w hz fz hB hl (by omega) hcap hne)
  rw [et] at HC
  clear hz fz hB hl et
  go_enter Tryf.func19, Tryf.ntmps19
  go_wp2_with (go_at_call 50; refine HC.out.mono ?_; rintro e w1 ⟨rfl, H⟩)
  go_ret
  exact ⟨rfl, H⟩
set_option maxHeartbeats 1000000 in
theorem sbCase24 (b o : Nat) (z : N4) (g q cap : Nat) (l : List UInt8) (w : World) (hz : At4 w b o z) (fz : Free4 w b o) (hB : BytesAt w g q l) (hl : l.length = 24) (hcap : 24 ≤ cap) (hne : g ≠ b) : Calls Tryf.prog 19 #[.pointer (some ⟨b, o, none⟩), .slice (some ⟨g, q, none⟩) 24 cap] w (RetLeft b o (ofN (Lib.beNat l)) w) := by
  have et : l.take 24 = l := List.take_of_length_le (by omega)
  have HC := Lib.hid (set24_any b o z g q 24 cap l w hz fz hB hl (by omega) hcap hne)
  rw [et] at HC
  clear hz fz hB hl et
  go_enter Tryf.func19, Tryf.ntmps19
  go_wp2_with (go_at_call 51; refine HC.out.mono ?_; rintro e w1 ⟨rfl, H⟩)
  go_ret
  exact ⟨rfl, H⟩
set_option maxHeartbeats 1000000 in
theorem sbCase25 (b o : Nat) (z : N4) (g q cap : Nat) (l : List UInt8) (w : World) (hz : At4 w b o z) (fz : Free4 w b o) (hB : BytesAt w g q l) (hl : l.length = 25) (hcap : 25 ≤ cap) (hne : g ≠ b) : Calls Tryf.prog 19 #[.pointer (some ⟨b, o, none⟩), .slice (some ⟨g, q, none⟩) 25 cap] w (RetLeft b o (ofN (Lib.beNat l)) w) := by
  have et : l.take 25 = l := List.take_of_length_le (by omega)
  have HC := Lib.hid (set25_any b o z g q 25 cap l w hz fz hB hl (by omega) hcap hne)
  rw [et] at HC
  clear hz fz hB hl et
  go_enter Tryf.func19, Tryf.ntmps19
  go_wp2_with (go_at_call 52; refine HC.out.mono ?_; rintro e w1 ⟨rfl, H⟩)
  go_ret
  exact ⟨rfl, H⟩
set_option maxHeartbeats 1000000 in
theorem sbCase26 (b o : Nat) (z : N4) (g q cap : Nat) (l : List UInt8) (w : World) (hz : At4 w b o z) (fz : Free4 w b o) (hB : BytesAt w g q l) (hl : l.length = 26) (hcap : 26 ≤ cap) (hne : g ≠ b) : Calls Tryf.prog 19 #[.pointer (some ⟨b, o, none⟩), .slice (some ⟨g, q, none⟩) 26 cap] w (RetLeft b o (ofN (Lib.beNat l)) w) := by
  have et : l.take 26 = l := List.take_of_length_le (by omega)
  have HC := Lib.hid (set26_any b o z g q 26 cap l w hz fz hB hl (by omega) hcap hne)
  rw [et] at HC
  clear hz fz hB hl et
  go_enter Tryf.func19, Tryf.ntmps19
  go_wp2_with (go_at_call 53; refine HC.out.mono ?_; rintro e w1 ⟨rfl, H⟩)
  go_ret
  exact ⟨rfl, H⟩
set_option maxHeartbeats 1000000 in
theorem sbCase27 (b o : Nat) (z : N4) (g q cap : Nat) (l : List UInt8) (w : World) (hz : At4 w b o z) (fz : Free4 w b o) (hB : BytesAt w g q l) (hl : l.length = 27) (hcap : 27 ≤ cap) (hne : g ≠ b) : Calls Tryf.prog 19 #[.pointer (some ⟨b, o, none⟩), .slice (some ⟨g, q, none⟩) 27 cap] w (RetLeft b o (ofN (Lib.beNat l)) w) := by
  have et : l.take 27 = l := List.take_of_length_le (by omega)
  have HC := Lib.hid (set27_any b o z g q 27 cap l w hz fz hB hl (by omega) hcap hne)
  rw [et] at HC
  clear hz fz hB hl et
  go_enter Tryf.func19, Tryf.ntmps19
  go_wp2_with (go_at_call 54; refine HC.out.mono ?_; rintro e w1 ⟨rfl, H⟩)
  go_ret
  exact ⟨rfl, H⟩
set_option maxHeartbeats 1000000 in
theorem sbCase28 (b o : Nat) (z : N4) (g q cap : Nat) (l : List UInt8) (w : World) (hz : At4 w b o z) (fz : Free4 w b o) (hB : BytesAt w g q l) (hl : l.length = 28) (hcap : 28 ≤ cap) (hne : g ≠ b) : Calls Tryf.prog 19 #[.pointer (some ⟨b, o, none⟩), .slice (some ⟨g, q, none⟩) 28 cap] w (RetLeft b o (ofN (Lib.beNat l)) w) := by
  have et : l.take 28 = l := List.take_of_length_le (by omega)
  have HC := Lib.hid (set28_any b o z g q 28 cap l w hz fz hB hl (by omega) hcap hne)
  rw [et] at HC
  clear hz fz hB hl et
  go_enter Tryf.func19, Tryf.ntmps19
  go_wp2_with (go_at_call 55; refine HC.out.mono ?_; rintro e w1 ⟨rfl, H⟩)
  go_ret
  exact ⟨rfl, H⟩
set_option maxHeartbeats 1000000 in
theorem sbCase29 (b o : Nat) (z : N4) (g q cap : Nat) (l : List UInt8) (w : World) (hz : At4 w b o z) (fz : Free4 w b o) (hB : BytesAt w g q l) (hl : l.length = 29) (hcap : 29 ≤ cap) (hne : g ≠ b) : Calls Tryf.prog 19 #[.pointer (some ⟨b, o, none⟩), .slice (some ⟨g, q, none⟩) 29 cap] w (RetLeft b o (ofN (Lib.beNat l)) w) := by
  have et : l.take 29 = l := List.take_of_length_le (by omega)
  have HC := Lib.hid (set29_any b o z g q 29 cap l w hz fz hB hl (by omega) hcap hne)
  rw [et] at HC
  clear hz fz hB hl et
  go_enter Tryf.func19, Tryf.ntmps19
  go_wp2_with (go_at_call 56; refine HC.out.mono ?_; rintro e w1 ⟨rfl, H⟩)
  go_ret
  exact ⟨rfl, H⟩
set_option maxHeartbeats 1000000 in
theorem sbCase30 (b o : Nat) (z : N4) (g q cap : Nat) (l : List UInt8) (w : World) (hz : At4 w b o z) (fz : Free4 w b o) (hB : BytesAt w g q l) (hl : l.length = 30) (hcap : 30 ≤ cap) (hne : g ≠ b) : Calls Tryf.prog 19 #[.pointer (some ⟨b, o, none⟩), .slice (some ⟨g, q, none⟩) 30 cap] w (RetLeft b o (ofN (Lib.beNat l)) w) := by
  have et : l.take 30 = l := List.take_of_length_le (by omega)
  have HC := Lib.hid (set30_any b o z g q 30 cap l w hz fz hB hl (by omega) hcap hne)
  rw [et] at HC
  clear hz fz hB hl et
  go_enter Tryf.func19, Tryf.ntmps19
  go_wp2_with (go_at_call 57; refine HC.out.mono ?_; rintro e w1 ⟨rfl, H⟩)
  go_ret
  exact ⟨rfl, H⟩
set_option maxHeartbeats 1000000 in
theorem sbCase31 (b o : Nat) (z : N4) (g q cap : Nat) (l : List UInt8) (w : World) (hz : At4 w b o z) (fz : Free4 w b o) (hB : BytesAt w g q l) (hl : l.length = 31) (hcap : 31 ≤ cap) (hne : g ≠ b) : Calls Tryf.prog 19 #[.pointer (some ⟨b, o, none⟩), .slice (some ⟨g, q, none⟩) 31 cap] w (RetLeft b o (ofN (Lib.beNat l)) w) := by
  have et : l.take 31 = l := List.take_of_length_le (by omega)
  have HC := Lib.hid (set31_any b o z g q 31 cap l w hz fz hB hl (by omega) hcap hne)
  rw [et] at HC
  clear hz fz hB hl et
  go_enter Tryf.func19, Tryf.ntmps19
  go_wp2_with (go_at_call 58; refine HC.out.mono ?_; rintro e w1 ⟨rfl, H⟩)
  go_ret
  exact ⟨rfl, H⟩
set_option maxHeartbeats 4000000 in
theorem sbCase32 (b o : Nat) (z : N4) (g q n cap : Nat) (l : List UInt8) (w : World) (hz : At4 w b o z) (fz : Free4 w b o) (hB : BytesAt w g q l) (hl : l.length = n) (hn : 32 ≤ n) (hn2 : n ≤ 4294967296) (hcap : n ≤ cap) (hne : g ≠ b) : Calls Tryf.prog 19 #[.pointer (some ⟨b, o, none⟩), .slice (some ⟨g, q, none⟩) n cap] w (RetLeft b o (ofN (Lib.beNat (l.drop (n - 32)))) w) := by
  have e0 : ¬ n = 0 := by omega
  have e1 : ¬ n = 1 := by omega
  have e2 : ¬ n = 2 := by omega
  have e3 : ¬ n = 3 := by omega
  have e4 : ¬ n = 4 := by omega
  have e5 : ¬ n = 5 := by omega
  have e6 : ¬ n = 6 := by omega
  have e7 : ¬ n = 7 := by omega
  have e8 : ¬ n = 8 := by omega
  have e9 : ¬ n = 9 := by omega
  have e10 : ¬ n = 10 := by omega
  have e11 : ¬ n = 11 := by omega
  have e12 : ¬ n = 12 := by omega
  have e13 : ¬ n = 13 := by omega
  have e14 : ¬ n = 14 := by omega
  have e15 : ¬ n = 15 := by omega
  have e16 : ¬ n = 16 := by omega
  have e17 : ¬ n = 17 := by omega
  have e18 : ¬ n = 18 := by omega
  have e19 : ¬ n = 19 := by omega
  have e20 : ¬ n = 20 := by omega
  have e21 : ¬ n = 21 := by omega
  have e22 : ¬ n = 22 := by omega
  have e23 : ¬ n = 23 := by omega
  have e24 : ¬ n = 24 := by omega
  have e25 : ¬ n = 25 := by omega
  have e26 : ¬ n = 26 := by omega
  have e27 : ¬ n = 27 := by omega
  have e28 : ¬ n = 28 := by omega
  have e29 : ¬ n = 29 := by omega
  have e30 : ¬ n = 30 := by omega
  have e31 : ¬ n = 31 := by omega
  obtain ⟨k, rfl⟩ : ∃ k, n = k + 32 := ⟨n - 32, by omega⟩
  have hk : ((k + 32 : Nat) : Int) - 32 = (k : Int) := by omega
  have hk2 : k + 32 - k = 32 := by omega
  have hk3 : ¬ cap = k := by omega
  rw [show k + 32 - 32 = k by omega]
  have et : (l.drop k).take 32 = l.drop k := List.take_of_length_le (by rw [List.length_drop]; omega)
  have hB2 : BytesAt w g (q + k) (l.drop k) := by have h := hB.cut k 32; rwa [et] at h
  have HC := Lib.hid (set32_any b o z g (q + k) 32 (cap - k) (l.drop k) w hz fz hB2 (by rw [List.length_drop]; omega) (by omega) (by omega) hne)
  rw [List.take_of_length_le (by rw [List.length_drop]; omega)] at HC
  clear hz fz hB hl et hB2
  go_enter Tryf.func19, Tryf.ntmps19
  go_wp2_with (go_at_call 59; refine HC.out.mono ?_; rintro e w1 ⟨rfl, H⟩)
  go_ret
  exact ⟨rfl, H⟩
end Go.Proofs.YtpmhkmcikjbncaaFmt
