/-
  For every text: FromHex is the number of 0x and digits of sixteen, and refuses all others, with the error of its one fault (the card FnFromHexIsCardSaid; the six sentinels hold what the text lays into them, which the card ties).
-/
import Derived.Test.YtbgmeppidedfbaaDoorEql
import Derived.Test.YtbgmeppidedfbaaDoorOfHexM
import Derived.Test.YtbgmeppidedfbaaDoorHexNew
import Derived.Test.YtbgmeppidedfbaaDoorRows
import Derived.Test.YtbgmeppidedfbaaDoorTie
import Derived.Test.YtbgmeppidedfbaaDoorCards
import Derived.Test.YtbgmeppidedfbaaDoorOpen
import Derived.ProofKit
import Derived.LaidMore
import Derived.OpenShut
import Derived.OpenVars
import Derived.Stop.Joined
import Derived.SevenTiedAt
import Derived.Lib.LaidU8
import Derived.Stop.LaidErr
import Derived.Stop.LaidTwo
/-
  The reference's OfHex, its contract.
-/
set_option linter.unusedVariables false
set_option linter.unusedSimpArgs false
namespace Go.Proofs.YtbgmeppidedfbaaDoor
open Go.RowKit
set_option maxHeartbeats 16000000 in
set_option maxRecDepth 20000 in
theorem ofHex_any (s : List UInt8) (w : World) (hmax : s.length ≤ 65536) : Calls Tryd.prog 11 #[.string ⟨s.toArray⟩] w fun e w' => Below w.heap.size w w' ∧
    ((specFaults s = [] ∧ e = .returned (.tuple #[(ofN (hv (s.drop 2))).v, .slice none 0 0])) ∨ (specFaults s ≠ [] ∧ ∃ v, e = .returned (.tuple #[zeroR.v, v]) ∧ Sl w' v (specFaults s))) := by
  have hth := thereR_z w
  have IP := Lib.hid (isPrefixed_any s)
  by_cases hs0 : s = []
  · subst hs0
    have q : ((⟨#[]⟩ : ByteArray) == ⟨#[]⟩) = true := by decide
    have hth2 : ((w.alloc Z4R).alloc (.cells #[.int .i64 1] 3)).there w.heap.size 0 4 := thereR_bel hth (by omega) (bel_alloc (bel_refl _) _)
    have hF : specFaults ([] : List UInt8) = [1] := by rfl
    have S1 : Hid (Sl ((((w.alloc Z4R).alloc (.cells #[.int .i64 1] 3))).setCells w.heap.size 0 [V zeroR.a, V zeroR.b, V zeroR.c, V zeroR.d]) (.slice (some ⟨w.heap.size + 1, 0, none⟩) 1 1) [1]) := by
      refine ⟨some ⟨w.heap.size + 1, 0, none⟩, 1, rfl, Nat.le_refl _, fun i d hd => ⟨_, _, rfl, ?_⟩⟩
      match i, hd with
      | 0, hd =>
        simp at hd
        subst hd
        exact oneFault w 1
      | i + 1, hd => simp at hd
    rw [hF]
    clear hF
    go_enter Tryd.func11, Tryd.ntmps11
    go_wp2_with (first | (show wpList _ _ _ (⟨none, Op.store 24 _ _, _, _, _, _⟩ :: _) _ _; refine wpList_store_mid (op := ⟨none, Op.store 24 (.tmp 2) (.tmp 12), _, _, _, _⟩) rfl 24 _ _ rfl w.heap.size 0 [V zeroR.a, V zeroR.b, V zeroR.c, V zeroR.d].toArray rfl rfl hth2 (by kernel_rfl) (by simp [Value.oneCell']) ?_))
    go_wp2
    refine bodyPost_ret (v := .tuple #[zeroR.v, .slice (some ⟨w.heap.size + 1, 0, none⟩) 1 1]) (resultsR_slot rfl _ _ w.heap.size [V zeroR.a, V zeroR.b, V zeroR.c, V zeroR.d] _ rfl (World.rangeAt_setCells_same _ _ 0 _ hth2) Tryd.underlying24 rfl (by kernel_rfl) rfl) rfl ⟨?_, by first | exact .inr ⟨by simp, _, rfl, S1.out⟩ | exact ⟨_, rfl, S1.out⟩⟩
    exact setCellsR_bel (bel_alloc (bel_alloc (bel_refl w) _) _) (Nat.le_refl _)
  · have q : s.isEmpty = false := by simp [hs0]
    by_cases hp : isPre s = false
    · rw [hp] at IP
      have hth2 : ((w.alloc Z4R).alloc (.cells #[.int .i64 3] 3)).there w.heap.size 0 4 := thereR_bel hth (by omega) (bel_alloc (bel_refl _) _)
      have hF : specFaults s = [3] := by unfold specFaults; rw [if_neg hs0, if_pos hp]
      have S1 : Hid (Sl ((((w.alloc Z4R).alloc (.cells #[.int .i64 3] 3))).setCells w.heap.size 0 [V zeroR.a, V zeroR.b, V zeroR.c, V zeroR.d]) (.slice (some ⟨w.heap.size + 1, 0, none⟩) 1 1) [3]) := by
        refine ⟨some ⟨w.heap.size + 1, 0, none⟩, 1, rfl, Nat.le_refl _, fun i d hd => ⟨_, _, rfl, ?_⟩⟩
        match i, hd with
        | 0, hd =>
        simp at hd
        subst hd
        exact oneFault w 3
        | i + 1, hd => simp at hd
      rw [hF]
      clear hF
      go_enter Tryd.func11, Tryd.ntmps11
      go_wp2_with (first | (go_at_call 26; refine (IP.out _).mono ?_; rintro e w1 ⟨rfl, hw1⟩; have hw1 := hw1.symm; subst hw1) | (show wpList _ _ _ (⟨none, Op.store 24 _ _, _, _, _, _⟩ :: _) _ _; refine wpList_store_mid (op := ⟨none, Op.store 24 (.tmp 2) (.tmp 17), _, _, _, _⟩) rfl 24 _ _ rfl w.heap.size 0 [V zeroR.a, V zeroR.b, V zeroR.c, V zeroR.d].toArray rfl rfl hth2 (by kernel_rfl) (by simp [Value.oneCell']) ?_))
      go_wp2
      refine bodyPost_ret (v := .tuple #[zeroR.v, .slice (some ⟨w.heap.size + 1, 0, none⟩) 1 1]) (resultsR_slot rfl _ _ w.heap.size [V zeroR.a, V zeroR.b, V zeroR.c, V zeroR.d] _ rfl (World.rangeAt_setCells_same _ _ 0 _ hth2) Tryd.underlying24 rfl (by kernel_rfl) rfl) rfl ⟨?_, by first | exact .inr ⟨by simp, _, rfl, S1.out⟩ | exact ⟨_, rfl, S1.out⟩⟩
      exact setCellsR_bel (bel_alloc (bel_alloc (bel_refl w) _) _) (Nat.le_refl _)
    · have hp' : isPre s = true := by simpa using hp
      rw [hp'] at IP
      exact ofHex_main s w hmax hs0 hp' IP
end Go.Proofs.YtbgmeppidedfbaaDoor
/-
  The faults of a text of digits of sixteen: the reference's and the package's; the six sentinels off the row's own list.
-/
set_option linter.unusedVariables false
set_option linter.unusedSimpArgs false
namespace Go.Proofs.YtbgmeppidedfbaaDoor
open Go.RowKit Go.ChangeShapes
theorem faults_hex (s : List UInt8) : (specFaults s = [] → hexFault s = 0) ∧ (∀ k, specFaults s = [k] → hexFault s = k) ∧ (specFaults s ≠ [] → hexFault s ≠ 0) ∧ hexFault s ≤ 6 := by
  unfold specFaults hexFault
  by_cases h1 : s = []
  · rw [if_pos h1, if_pos h1]; simp
  · rw [if_neg h1, if_neg h1]
    by_cases h2 : isPre s = false
    · rw [if_pos h2, if_pos h2]; simp
    · rw [if_neg h2, if_neg h2]
      have hl := isPre_len s (by simpa using h2)
      by_cases h3 : s.length = 2
      · rw [if_pos h3, if_pos (List.drop_eq_nil_of_le (by omega))]; simp
      · rw [if_neg h3, if_neg (fun e => h3 (by have := congrArg List.length e; simp at this; omega))]
        have e1 : (s.drop 2)[0]? = s[2]? := by rw [List.getElem?_drop]
        have e2 : (s.drop 2).length = s.length - 2 := List.length_drop
        rw [e1, e2]
        have c1 : (1 < s.length - 2 ∧ s[2]? = some 48) ↔ (3 < s.length ∧ s[2]? = some 48) := by constructor <;> rintro ⟨a, b⟩ <;> exact ⟨by omega, b⟩
        have c2 : (64 < s.length - 2) ↔ 66 < s.length := by omega
        by_cases k1 : 3 < s.length ∧ s[2]? = some 48
        · rw [if_pos (c1.2 k1), if_pos k1]
          by_cases k2 : 66 < s.length
          · rw [if_pos (c2.2 k2)]
            by_cases k3 : Nibs (s.drop 2)
            · rw [if_pos k3]; simp
            · rw [if_neg k3]; simp
          · rw [if_neg (fun h => k2 (c2.1 h))]
            by_cases k3 : Nibs (s.drop 2)
            · rw [if_pos k3]; simp
            · rw [if_neg k3]; simp
        · rw [if_neg (fun h => k1 (c1.1 h)), if_neg k1]
          by_cases k2 : 66 < s.length
          · rw [if_pos (c2.2 k2), if_pos k2]
            by_cases k3 : Nibs (s.drop 2)
            · rw [if_pos k3]; simp
            · rw [if_neg k3]; simp
          · rw [if_neg (fun h => k2 (c2.1 h)), if_neg k2]
            by_cases k3 : Nibs (s.drop 2)
            · rw [if_pos k3, if_pos k3]; simp
            · rw [if_neg k3, if_neg k3]; simp
theorem cellsErrR : Tryd.prog.cellsOf 134 = 1 := by kernel_rfl
theorem cellsStrR : Tryd.prog.cellsOf 9 = 1 := by kernel_rfl
theorem starR : "*" ++ "errors.errorString" = "*errors.errorString" := by decide
theorem rowErrR (u : TypeId) (h : Tryd.prog.typeName? 3 u = some "*errors.errorString") : u = 132 :=
  typeName_ptr_named (nm := "errors.errorString") (by rw [starR]; kernel_rfl) (by kernel_rfl) (by decide) u (by rw [starR]; exact h)
theorem sentinels_of {r : List (String × DataW Unit)} {W : World} (h : laidMet Tryd.prog (("loop.example/pub-g03023/pub/uint256.ErrEmptyString", Rows.laid_loop_example_pub_g03023_pub_uint256_ErrEmptyString) :: ("loop.example/pub-g03023/pub/uint256.ErrSyntax", Rows.laid_loop_example_pub_g03023_pub_uint256_ErrSyntax) :: ("loop.example/pub-g03023/pub/uint256.ErrMissingPrefix", Rows.laid_loop_example_pub_g03023_pub_uint256_ErrMissingPrefix) :: ("loop.example/pub-g03023/pub/uint256.ErrEmptyNumber", Rows.laid_loop_example_pub_g03023_pub_uint256_ErrEmptyNumber) :: ("loop.example/pub-g03023/pub/uint256.ErrLeadingZero", Rows.laid_loop_example_pub_g03023_pub_uint256_ErrLeadingZero) :: ("loop.example/pub-g03023/pub/uint256.ErrBig256Range", Rows.laid_loop_example_pub_g03023_pub_uint256_ErrBig256Range) :: r) W) :
    ∃ a, HexE a W ∧ HexD a W := by
  have g1 : Tryd.prog.globalNamed "loop.example/pub-g03023/pub/uint256.ErrEmptyString" = some 0 := by kernel_rfl
  have g2 : Tryd.prog.globalNamed "loop.example/pub-g03023/pub/uint256.ErrSyntax" = some 1 := by kernel_rfl
  have g3 : Tryd.prog.globalNamed "loop.example/pub-g03023/pub/uint256.ErrMissingPrefix" = some 2 := by kernel_rfl
  have g4 : Tryd.prog.globalNamed "loop.example/pub-g03023/pub/uint256.ErrEmptyNumber" = some 3 := by kernel_rfl
  have g5 : Tryd.prog.globalNamed "loop.example/pub-g03023/pub/uint256.ErrLeadingZero" = some 4 := by kernel_rfl
  have g6 : Tryd.prog.globalNamed "loop.example/pub-g03023/pub/uint256.ErrBig256Range" = some 5 := by kernel_rfl
  obtain ⟨a1, a2, s1, s2, b1, b2, t1, t2, v1, v2, k1, x1, _, k2, x2, _, n12, m1, m2⟩ := laid_sentinels2 h g1 (by kernel_rfl) g2 (by kernel_rfl) Tryd.underlying42 rowErrR Tryd.underlying132 Tryd.underlying134 rfl rfl Tryd.underlying9 cellsErrR cellsStrR
  obtain ⟨a3, a4, s3, s4, b3, b4, t3, t4, v3, v4, k3, x3, _, k4, x4, _, n34, m3, m4⟩ := laid_sentinels2 h.tail.tail g3 (by kernel_rfl) g4 (by kernel_rfl) Tryd.underlying42 rowErrR Tryd.underlying132 Tryd.underlying134 rfl rfl Tryd.underlying9 cellsErrR cellsStrR
  obtain ⟨a5, a6, s5, s6, b5, b6, t5, t6, v5, v6, k5, x5, _, k6, x6, _, n56, m5, m6⟩ := laid_sentinels2 h.tail.tail.tail.tail g5 (by kernel_rfl) g6 (by kernel_rfl) Tryd.underlying42 rowErrR Tryd.underlying132 Tryd.underlying134 rfl rfl Tryd.underlying9 cellsErrR cellsStrR
  clear h
  refine ⟨fun i => if i = 1 then a1 else if i = 2 then a2 else if i = 3 then a3 else if i = 4 then a4 else if i = 5 then a5 else a6, ⟨?_, ?_, ?_, ?_, ?_, ?_⟩, ⟨?_, ?_⟩⟩
  · simpa using World.var?_cell g1 v1 0
  · simpa using World.var?_cell g2 v2 0
  · simpa using World.var?_cell g3 v3 0
  · simpa using World.var?_cell g4 v4 0
  · simpa using World.var?_cell g5 v5 0
  · simpa using World.var?_cell g6 v6 0
  · have ne : ∀ (a b : Addr) (s t : ByteArray) (x y : List UInt8), W.cell? a = some (.string s) → W.cell? b = some (.string t) → s.data.toList = x → t.data.toList = y → x ≠ y → a ≠ b := by
      rintro a b s t x y h1 h2 rfl rfl h3 rfl
      rw [h1] at h2
      injection h2 with h2
      injection h2 with h2
      exact h3 (by rw [h2])
    intro i j i1 i6 j1 j6 hij
    rcases (by omega : i = 1 ∨ i = 2 ∨ i = 3 ∨ i = 4 ∨ i = 5 ∨ i = 6) with rfl | rfl | rfl | rfl | rfl | rfl <;>
    rcases (by omega : j = 1 ∨ j = 2 ∨ j = 3 ∨ j = 4 ∨ j = 5 ∨ j = 6) with rfl | rfl | rfl | rfl | rfl | rfl <;>
    first
      | exact absurd rfl hij
      | exact ne _ _ _ _ _ _ k1 k2 x1 x2 (by decide) | exact ne _ _ _ _ _ _ k1 k3 x1 x3 (by decide) | exact ne _ _ _ _ _ _ k1 k4 x1 x4 (by decide) | exact ne _ _ _ _ _ _ k1 k5 x1 x5 (by decide) | exact ne _ _ _ _ _ _ k1 k6 x1 x6 (by decide)
      | exact ne _ _ _ _ _ _ k2 k1 x2 x1 (by decide) | exact ne _ _ _ _ _ _ k2 k3 x2 x3 (by decide) | exact ne _ _ _ _ _ _ k2 k4 x2 x4 (by decide) | exact ne _ _ _ _ _ _ k2 k5 x2 x5 (by decide) | exact ne _ _ _ _ _ _ k2 k6 x2 x6 (by decide)
      | exact ne _ _ _ _ _ _ k3 k1 x3 x1 (by decide) | exact ne _ _ _ _ _ _ k3 k2 x3 x2 (by decide) | exact ne _ _ _ _ _ _ k3 k4 x3 x4 (by decide) | exact ne _ _ _ _ _ _ k3 k5 x3 x5 (by decide) | exact ne _ _ _ _ _ _ k3 k6 x3 x6 (by decide)
      | exact ne _ _ _ _ _ _ k4 k1 x4 x1 (by decide) | exact ne _ _ _ _ _ _ k4 k2 x4 x2 (by decide) | exact ne _ _ _ _ _ _ k4 k3 x4 x3 (by decide) | exact ne _ _ _ _ _ _ k4 k5 x4 x5 (by decide) | exact ne _ _ _ _ _ _ k4 k6 x4 x6 (by decide)
      | exact ne _ _ _ _ _ _ k5 k1 x5 x1 (by decide) | exact ne _ _ _ _ _ _ k5 k2 x5 x2 (by decide) | exact ne _ _ _ _ _ _ k5 k3 x5 x3 (by decide) | exact ne _ _ _ _ _ _ k5 k4 x5 x4 (by decide) | exact ne _ _ _ _ _ _ k5 k6 x5 x6 (by decide)
      | exact ne _ _ _ _ _ _ k6 k1 x6 x1 (by decide) | exact ne _ _ _ _ _ _ k6 k2 x6 x2 (by decide) | exact ne _ _ _ _ _ _ k6 k3 x6 x3 (by decide) | exact ne _ _ _ _ _ _ k6 k4 x6 x4 (by decide) | exact ne _ _ _ _ _ _ k6 k5 x6 x5 (by decide)
  · intro i i1 i6
    rcases (by omega : i = 1 ∨ i = 2 ∨ i = 3 ∨ i = 4 ∨ i = 5 ∨ i = 6) with rfl | rfl | rfl | rfl | rfl | rfl
    · exact ⟨_, _, m1⟩
    · exact ⟨_, _, m2⟩
    · exact ⟨_, _, m3⟩
    · exact ⟨_, _, m4⟩
    · exact ⟨_, _, m5⟩
    · exact ⟨_, _, m6⟩
end Go.Proofs.YtbgmeppidedfbaaDoor
namespace Go.Proofs.YtbgmeppidedfbaaDoor.fnFromHexIs
open Go.ChangeShapes Go.WideShapes Go.ChangeAt Go.RowKit Go.Lib
set_option linter.unusedVariables false
set_option linter.unusedSimpArgs false

set_option maxRecDepth 20000 in
set_option maxHeartbeats 4000000 in
theorem walk (B : ByteArray) (w : World) (a : Nat → Addr) (hE : HexE a w) (hD : HexD a w) (hw : 5 < w.heap.size) : Calls Tryd.prog 3 #[.string B] w (RetBel (.bool true) w) := by
  obtain ⟨s, rfl⟩ : ∃ s : List UInt8, B = ⟨s.toArray⟩ := ⟨B.data.toList, by cases B; simp⟩
  by_cases c1 : 2147483647 < s.length
  · have c1' : (2147483647 : Int) < (s.length : Int) := by omega
    go_enter Tryd.func3, Tryd.ntmps3
    go_wp2
    go_ret
    exact retBel rfl (bel_refl w)
  have c1' : ¬ (2147483647 : Int) < (s.length : Int) := by omega
  by_cases c2 : 65536 < s.length
  · have c2' : (65536 : Int) < (s.length : Int) := by omega
    go_enter Tryd.func3, Tryd.ntmps3
    go_wp2
    go_ret
    exact retBel rfl (bel_refl w)
  have c2' : ¬ (65536 : Int) < (s.length : Int) := by omega
  obtain ⟨k1, k2, k3, k4⟩ := faults_hex s
  have OH := Lib.hid (ofHex_any s w (by omega))
  have HE := Lib.hid hE
  have HD := Lib.hid hD
  by_cases hF : specFaults s = []
  · have h0 := k1 hF
    obtain ⟨x, hx⟩ : ∃ x, x = ofN (hv (s.drop 2)) := ⟨_, rfl⟩
    have OK : Hid (Calls Tryd.prog 11 #[.string ⟨s.toArray⟩] w fun e w' => Below w.heap.size w w' ∧ e = .returned (.tuple #[x.v, .slice none 0 0])) := OH.out.mono fun e w' ⟨hb, h⟩ => ⟨hb, by
      rcases h with ⟨_, h⟩ | ⟨h, _⟩
      · rw [hx]; exact h
      · exact absurd hF h⟩
    have FH : Hid (∀ w2, Below w.heap.size w w2 → Calls Tryd.prog 12 #[.string ⟨s.toArray⟩] w2 fun e w' => e = .returned (.tuple #[x.v, .int .i64 0]) ∧ Below w2.heap.size w2 w') := fun w2 hb => by
      rw [hx]; exact implFromHex_ok a s w2 (HE.out.bel hb) (by have := hb.size; omega) h0
    have ex := eqb_self x
    clear OH k1 k2 k3 k4 hF h0 hx hE hD c1 c2
    go_enter Tryd.func3, Tryd.ntmps3
    go_wp2_with (go_at_call 11; refine OK.out.mono ?_; rintro e w1 ⟨hb1, rfl⟩; have HB1 := Lib.hid hb1; clear hb1)
    refine (FH.out _ (bel_alloc HB1.out _)).mono ?_
    rintro e w2 ⟨rfl, hb2⟩
    have A4 : At4 (w1.alloc (.cells #[V x.a, V x.b, V x.c, V x.d] 24)) w1.heap.size 0 x := by constructor <;> simp [go_sem]
    obtain ⟨q0, q1, q2, q3⟩ := A4.bel hb2
    simp only [Nat.zero_add] at q1 q2 q3
    have hlt : w1.heap.size < w2.heap.size := by have := hb2.size; simp at this; omega
    have HB2 := Lib.hid (bel_trans (bel_alloc HB1.out (.cells #[V x.a, V x.b, V x.c, V x.d] 24)) hb2)
    clear hb2 A4
    go_wp2
    go_ret
    exact retBel rfl (bel_alloc HB2.out _)
  · have h0 := k3 hF
    obtain ⟨F, hFe⟩ : ∃ F, F = specFaults s := ⟨_, rfl⟩
    obtain ⟨h, hh⟩ : ∃ h, h = hexFault s := ⟨_, rfl⟩
    have BAD : Hid (Calls Tryd.prog 11 #[.string ⟨s.toArray⟩] w fun e w' => Below w.heap.size w w' ∧ ∃ v, e = .returned (.tuple #[zeroR.v, v]) ∧ Sl w' v F) := OH.out.mono fun e w' ⟨hb, h⟩ => ⟨hb, by
      rcases h with ⟨h, _⟩ | ⟨_, h⟩
      · exact absurd h hF
      · rw [hFe]; exact h⟩
    have FH : Hid (∀ w2, Below w.heap.size w w2 → Calls Tryd.prog 12 #[.string ⟨s.toArray⟩] w2 fun e w' => e = .returned (.tuple #[zeroR.v, .int .i64 (h : Int)]) ∧ Below w2.heap.size w2 w') := fun w2 hb => by
      rw [hh]; exact implFromHex_bad a s w2 (HE.out.bel hb) (HD.out.bel hb) (by have := hb.size; omega) h0 k4
    have hne : F ≠ [] := by rw [hFe]; exact hF
    have hone : ∀ k, F = [k] → h = k := fun k e => by rw [hh]; exact k2 k (by rw [← hFe]; exact e)
    have hpos : 0 < h := by rw [hh]; omega
    clear OH k1 k2 k3 k4 hF h0 hFe hh hE hD c1 c2
    have b1 : ((h : Int) != 0) = true := by simp; omega
    obtain ⟨k, L, rfl⟩ : ∃ k L, F = k :: L := by
      match F, hne with
      | k :: L, _ => exact ⟨k, L, rfl⟩
    go_enter Tryd.func3, Tryd.ntmps3
    go_wp2_with (go_at_call 11; refine BAD.out.mono ?_; rintro e w1 ⟨hb1, v, rfl, hsl⟩; have HB1 := Lib.hid hb1; have HSL := Lib.hid hsl; clear hb1 hsl)
    refine (FH.out _ (bel_alloc HB1.out _)).mono ?_
    rintro e w2 ⟨rfl, hb2⟩
    have HB2 := Lib.hid (bel_trans (bel_alloc HB1.out (.cells #[V zeroR.a, V zeroR.b, V zeroR.c, V zeroR.d] 24)) hb2)
    have hsl2 := (HSL.out.bel (bel_alloc (bel_refl _) (.cells #[V zeroR.a, V zeroR.b, V zeroR.c, V zeroR.d] 24))).bel hb2
    obtain ⟨A, cap, rfl, hcap, hcell⟩ := hsl2
    obtain ⟨g, o, rfl, hc⟩ := hcell 0 k rfl
    have hlt : g < w2.heap.size := World.block_lt_of_cell? _ _ hc
    simp only [Nat.add_zero] at hc
    have hn0 : (((L.length : Int) + 1) == 0) = false := by simp; omega
    clear hb2 hcell hne
    rcases L with _ | ⟨k2, L⟩
    · have e := hone k rfl
      subst e
      go_wp2
      go_ret
      exact retBel rfl (bel_alloc HB2.out _)
    · have hn1 : (1 : Int) < (L.length : Int) + 1 + 1 := by omega
      go_wp2
      go_ret
      exact retBel rfl (bel_alloc HB2.out _)

theorem trodVars_len {H : Type} {enc : TypeId × Value → H} {P : Program} {W : World} {sp : Nat → Bool} : ∀ {ns : List String} {gs : List (DataW H)} {ps : List MemPlace}, DataW.TrodVars enc P W sp ns gs ps → gs.length = ns.length
  | [], [], _, _ => rfl
  | [], _ :: _, _, h => h.elim
  | _ :: _, [], _, h => h.elim
  | _ :: _, _ :: _, _, h => by
    obtain ⟨g, t, cs, fuel, p, q, h1, h2, h3, h4, hs, e⟩ := h
    simp [trodVars_len hs]
theorem own : ownKnob Tryd.prog.godebug = none := by kernel_rfl
theorem laidOut : laidOutB Tryd.prog = true := by kernel_rfl
theorem door_met (os : Os) (args : Array Value) : laidMetH Tryd.prog Rows.fnFromHexIsRow.laid ((World.doorLaid Tryd.prog 400 os).forCall (fun _ _ => 0) ⟨#[], args, []⟩).memory :=
  laidMetH_of_parts3 (fuel := 8) (laidMet_of_run' 8 (by kernel_rfl) (by kernel_rfl)) (by kernel_rfl) (by kernel_rfl)
set_option maxRecDepth 100000 in
theorem lifted (os : Os) (started : os.Started) (H : Type) (enc : TypeId × Value → H) :
    ReturnsInHanded {} Tryd.checked os 3 .any (fun w args => (Rows.fnFromHexIsSpec.pre enc Tryd.prog Tryd.f3 [] false w args ∧ laidMetH Tryd.prog Rows.fnFromHexIsRow.laid w) ∧ sizedMet enc Tryd.prog Tryd.f3 (OpenSpec.ofChange Rows.fnFromHexIsSpec) false w args)
      (Rows.fnFromHexIsSpec.post enc Tryd.prog Tryd.f3 false true false false) := by
  refine returnsInHanded_of_change_and (C := Tryd.checked) (X := fun w _ => laidMetH Tryd.prog Rows.fnFromHexIsRow.laid w) (fun _ _ _ hh h => h.of_heap hh) own started (by kernel_rfl) Tryd.func3
    (ChangeSpec.witness_shaped (enc := enc) (C := Tryd.checked) (os := os) (X := fun w _ => laidMetH Tryd.prog Rows.fnFromHexIsRow.laid w) false (World.doorLaid Tryd.prog 400 os) #[.string ByteArray.empty] 8 rfl (World.shaped_of_RefB (by kernel_rfl) (by kernel_rfl)) (by kernel_rfl) (by kernel_rfl) (by kernel_rfl) (door_met os _)) ?_
  intro W base args ds gs before hval0 hW _ _ hL _
  have hval : ∀ (j : Nat) t v, Tryd.f3.params[j]? = some t → args[j]? = some v → Value.okWide Tryd.prog W .any base t v := hval0
  have hW' := hW
  obtain ⟨p, q, hA0, hV, rfl, hfz, hnd⟩ := hW
  have hA : DataW.TrodAll enc Tryd.prog W 0 (fun _ => true) true Tryd.f3.params.toList args.toList ds p := hA0
  rw [Tryd.params3] at hA hval
  obtain ⟨v0, vs0, d0, ds0, p0, q0, hargs, rfl, rfl, h0, r0⟩ := trodAll_cons hA
  obtain ⟨rfl, rfl, rfl⟩ := trodAll_nil r0
  obtain rfl : args = #[v0] := by cases args; simp_all
  have k0 := h0
  have lt0 : ∀ x ∈ p0, x.block < W.heap.size := by obtain ⟨m, hm⟩ := k0; exact DataW.trod_lt m _ _ _ hm
  obtain ⟨x0, rfl⟩ := okWide_string Tryd.underlying9 (hval 0 9 v0 rfl rfl)
  have hlen := trodVars_len hV
  obtain ⟨z0, z1, z2, z3, z4, z5, rfl⟩ : ∃ z0 z1 z2 z3 z4 z5, gs = [z0, z1, z2, z3, z4, z5] := by
    match gs, hlen with
    | [z0, z1, z2, z3, z4, z5], _ => exact ⟨z0, z1, z2, z3, z4, z5, rfl⟩
  clear hA0 hval0
  have hL2 : laidMet Tryd.prog Rows.fnFromHexIsRow.laid W := by rw [← MakeChecks.laidMetH_plain _ _ _ (by kernel_rfl)]; exact hL
  obtain ⟨a, hA1, hA2⟩ := sentinels_of hL2
  have hsz : 5 < W.heap.size := World.block_lt_of_cell? _ _ hA1.e6
  refine (walk x0 W a hA1 hA2 hsz).mono fun e W' ⟨he, bel⟩ => ?_
  subst he
  exact ⟨_, rfl, _, _, _, [], _, _, hW', trodAll_mk1 (shut_bool Tryd.underlying4 _), (trodAll_cons_mk (Below.trod laidOut (by kernel_rfl) (of_decide_eq_true (by kernel_rfl)) k0 bel lt0) trodAll_mk0), Below.trodVars laidOut bel (by kernel_rfl) hV, bel.frame _, fun h => by cases h⟩
theorem row_holds : Rows.FnFromHexIsSaid :=
  OpenClaim.holds_of_wide 3 Tryd.f3 rfl rfl rfl rfl rfl rfl rfl ⟨rfl, rfl, rfl, rfl, rfl⟩ rfl rfl rfl rfl rfl (by kernel_rfl) Tryd.func3 (by kernel_rfl)
    (of_decide_eq_true (by kernel_rfl)) (by unfold Func.isWrapper; first | (rw [if_pos (by decide +kernel)]; kernel_rfl) | (rw [if_neg (by decide +kernel)]; exact ⟨rfl, rfl⟩))
    (fun os started H enc _ => lifted os started H enc)
theorem holds : Rows.FnFromHexIsCardSaid :=
  Claim7.holds_tied_plain_at .later [] _ true _ true
    row_holds (fun _ h => by cases h) (by kernel_rfl) (fun _ h => by cases h) fnFromHexIs_row_tie rfl ⟨rfl, rfl⟩ (by kernel_rfl) rfl
    (fun f fn hf hfn => by
      obtain rfl : f = 3 := Option.some.inj ((show Tryd.prog.funcNamed "loop.example/pub-g03023/laws.FnFromHexIs" = some 3 by kernel_rfl).symm.trans hf) |>.symm
      obtain rfl : fn = Tryd.f3 := (Option.some.inj (Tryd.func3.symm.trans hfn)).symm
      exact ⟨by kernel_rfl, fun j t ht => by
        rw [Tryd.params3] at ht
        have hm : t ∈ [9] := by simpa using Array.mem_of_getElem? ht
        have hall : ([9].all fun u => !Tryd.prog.wantsStandIn u) = true := by kernel_rfl
        exact (show Tryd.prog.wantsStandIn t = false by simpa using List.all_eq_true.1 hall t hm)⟩)
    (by kernel_rfl)
#print axioms holds
end Go.Proofs.YtbgmeppidedfbaaDoor.fnFromHexIs
