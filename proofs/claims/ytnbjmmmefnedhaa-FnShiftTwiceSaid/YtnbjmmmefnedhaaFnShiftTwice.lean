/-
  For every number, n and k: a shift by 0 is nothing, and two shifts by n and k (each 0 to 2^16) are one by both together, Lsh and SRsh alike (the statement FnShiftTwiceSaid, no conditions).
-/
import Derived.Test.YtnbjmmmefnedhaaOpen
import Derived.Test.YtnbjmmmefnedhaaLawOne
import Derived.Test.YtnbjmmmefnedhaaArith
import Derived.Test.YtnbjmmmefnedhaaEql2
import Derived.Test.YtnbjmmmefnedhaaDesk6
namespace Go.Proofs.Ytnbjmmmefnedhaa.fnShiftTwice
set_option maxRecDepth 20000
open Go.ChangeShapes Go.WideShapes Go.ChangeAt Go.RowKit
set_option linter.unusedVariables false
set_option linter.unusedSimpArgs false

theorem arrayN91 {l : Array Value} (h : l.size = 91) : ∃ x0 x1 x2 x3 x4 x5 x6 x7 x8 x9 x10 x11 x12 x13 x14 x15 x16 x17 x18 x19 x20 x21 x22 x23 x24 x25 x26 x27 x28 x29 x30 x31 x32 x33 x34 x35 x36 x37 x38 x39 x40 x41 x42 x43 x44 x45 x46 x47 x48 x49 x50 x51 x52 x53 x54 x55 x56 x57 x58 x59 x60 x61 x62 x63 x64 x65 x66 x67 x68 x69 x70 x71 x72 x73 x74 x75 x76 x77 x78 x79 x80 x81 x82 x83 x84 x85 x86 x87 x88 x89 x90, l = #[x0, x1, x2, x3, x4, x5, x6, x7, x8, x9, x10, x11, x12, x13, x14, x15, x16, x17, x18, x19, x20, x21, x22, x23, x24, x25, x26, x27, x28, x29, x30, x31, x32, x33, x34, x35, x36, x37, x38, x39, x40, x41, x42, x43, x44, x45, x46, x47, x48, x49, x50, x51, x52, x53, x54, x55, x56, x57, x58, x59, x60, x61, x62, x63, x64, x65, x66, x67, x68, x69, x70, x71, x72, x73, x74, x75, x76, x77, x78, x79, x80, x81, x82, x83, x84, x85, x86, x87, x88, x89, x90] := by
  obtain ⟨l⟩ := l
  have h0 : l.length = 90 + 1 := h
  clear h
  obtain ⟨x0, l1, rfl, h1⟩ := cons_of h0
  obtain ⟨x1, l2, rfl, h2⟩ := cons_of h1
  obtain ⟨x2, l3, rfl, h3⟩ := cons_of h2
  obtain ⟨x3, l4, rfl, h4⟩ := cons_of h3
  obtain ⟨x4, l5, rfl, h5⟩ := cons_of h4
  obtain ⟨x5, l6, rfl, h6⟩ := cons_of h5
  obtain ⟨x6, l7, rfl, h7⟩ := cons_of h6
  obtain ⟨x7, l8, rfl, h8⟩ := cons_of h7
  obtain ⟨x8, l9, rfl, h9⟩ := cons_of h8
  obtain ⟨x9, l10, rfl, h10⟩ := cons_of h9
  obtain ⟨x10, l11, rfl, h11⟩ := cons_of h10
  obtain ⟨x11, l12, rfl, h12⟩ := cons_of h11
  obtain ⟨x12, l13, rfl, h13⟩ := cons_of h12
  obtain ⟨x13, l14, rfl, h14⟩ := cons_of h13
  obtain ⟨x14, l15, rfl, h15⟩ := cons_of h14
  obtain ⟨x15, l16, rfl, h16⟩ := cons_of h15
  obtain ⟨x16, l17, rfl, h17⟩ := cons_of h16
  obtain ⟨x17, l18, rfl, h18⟩ := cons_of h17
  obtain ⟨x18, l19, rfl, h19⟩ := cons_of h18
  obtain ⟨x19, l20, rfl, h20⟩ := cons_of h19
  obtain ⟨x20, l21, rfl, h21⟩ := cons_of h20
  obtain ⟨x21, l22, rfl, h22⟩ := cons_of h21
  obtain ⟨x22, l23, rfl, h23⟩ := cons_of h22
  obtain ⟨x23, l24, rfl, h24⟩ := cons_of h23
  obtain ⟨x24, l25, rfl, h25⟩ := cons_of h24
  obtain ⟨x25, l26, rfl, h26⟩ := cons_of h25
  obtain ⟨x26, l27, rfl, h27⟩ := cons_of h26
  obtain ⟨x27, l28, rfl, h28⟩ := cons_of h27
  obtain ⟨x28, l29, rfl, h29⟩ := cons_of h28
  obtain ⟨x29, l30, rfl, h30⟩ := cons_of h29
  obtain ⟨x30, l31, rfl, h31⟩ := cons_of h30
  obtain ⟨x31, l32, rfl, h32⟩ := cons_of h31
  obtain ⟨x32, l33, rfl, h33⟩ := cons_of h32
  obtain ⟨x33, l34, rfl, h34⟩ := cons_of h33
  obtain ⟨x34, l35, rfl, h35⟩ := cons_of h34
  obtain ⟨x35, l36, rfl, h36⟩ := cons_of h35
  obtain ⟨x36, l37, rfl, h37⟩ := cons_of h36
  obtain ⟨x37, l38, rfl, h38⟩ := cons_of h37
  obtain ⟨x38, l39, rfl, h39⟩ := cons_of h38
  obtain ⟨x39, l40, rfl, h40⟩ := cons_of h39
  obtain ⟨x40, l41, rfl, h41⟩ := cons_of h40
  obtain ⟨x41, l42, rfl, h42⟩ := cons_of h41
  obtain ⟨x42, l43, rfl, h43⟩ := cons_of h42
  obtain ⟨x43, l44, rfl, h44⟩ := cons_of h43
  obtain ⟨x44, l45, rfl, h45⟩ := cons_of h44
  obtain ⟨x45, l46, rfl, h46⟩ := cons_of h45
  obtain ⟨x46, l47, rfl, h47⟩ := cons_of h46
  obtain ⟨x47, l48, rfl, h48⟩ := cons_of h47
  obtain ⟨x48, l49, rfl, h49⟩ := cons_of h48
  obtain ⟨x49, l50, rfl, h50⟩ := cons_of h49
  obtain ⟨x50, l51, rfl, h51⟩ := cons_of h50
  obtain ⟨x51, l52, rfl, h52⟩ := cons_of h51
  obtain ⟨x52, l53, rfl, h53⟩ := cons_of h52
  obtain ⟨x53, l54, rfl, h54⟩ := cons_of h53
  obtain ⟨x54, l55, rfl, h55⟩ := cons_of h54
  obtain ⟨x55, l56, rfl, h56⟩ := cons_of h55
  obtain ⟨x56, l57, rfl, h57⟩ := cons_of h56
  obtain ⟨x57, l58, rfl, h58⟩ := cons_of h57
  obtain ⟨x58, l59, rfl, h59⟩ := cons_of h58
  obtain ⟨x59, l60, rfl, h60⟩ := cons_of h59
  obtain ⟨x60, l61, rfl, h61⟩ := cons_of h60
  obtain ⟨x61, l62, rfl, h62⟩ := cons_of h61
  obtain ⟨x62, l63, rfl, h63⟩ := cons_of h62
  obtain ⟨x63, l64, rfl, h64⟩ := cons_of h63
  obtain ⟨x64, l65, rfl, h65⟩ := cons_of h64
  obtain ⟨x65, l66, rfl, h66⟩ := cons_of h65
  obtain ⟨x66, l67, rfl, h67⟩ := cons_of h66
  obtain ⟨x67, l68, rfl, h68⟩ := cons_of h67
  obtain ⟨x68, l69, rfl, h69⟩ := cons_of h68
  obtain ⟨x69, l70, rfl, h70⟩ := cons_of h69
  obtain ⟨x70, l71, rfl, h71⟩ := cons_of h70
  obtain ⟨x71, l72, rfl, h72⟩ := cons_of h71
  obtain ⟨x72, l73, rfl, h73⟩ := cons_of h72
  obtain ⟨x73, l74, rfl, h74⟩ := cons_of h73
  obtain ⟨x74, l75, rfl, h75⟩ := cons_of h74
  obtain ⟨x75, l76, rfl, h76⟩ := cons_of h75
  obtain ⟨x76, l77, rfl, h77⟩ := cons_of h76
  obtain ⟨x77, l78, rfl, h78⟩ := cons_of h77
  obtain ⟨x78, l79, rfl, h79⟩ := cons_of h78
  obtain ⟨x79, l80, rfl, h80⟩ := cons_of h79
  obtain ⟨x80, l81, rfl, h81⟩ := cons_of h80
  obtain ⟨x81, l82, rfl, h82⟩ := cons_of h81
  obtain ⟨x82, l83, rfl, h83⟩ := cons_of h82
  obtain ⟨x83, l84, rfl, h84⟩ := cons_of h83
  obtain ⟨x84, l85, rfl, h85⟩ := cons_of h84
  obtain ⟨x85, l86, rfl, h86⟩ := cons_of h85
  obtain ⟨x86, l87, rfl, h87⟩ := cons_of h86
  obtain ⟨x87, l88, rfl, h88⟩ := cons_of h87
  obtain ⟨x88, l89, rfl, h89⟩ := cons_of h88
  obtain ⟨x89, l90, rfl, h90⟩ := cons_of h89
  obtain ⟨x90, l91, rfl, h91⟩ := cons_of h90
  cases l91 with
  | nil => exact ⟨x0, x1, x2, x3, x4, x5, x6, x7, x8, x9, x10, x11, x12, x13, x14, x15, x16, x17, x18, x19, x20, x21, x22, x23, x24, x25, x26, x27, x28, x29, x30, x31, x32, x33, x34, x35, x36, x37, x38, x39, x40, x41, x42, x43, x44, x45, x46, x47, x48, x49, x50, x51, x52, x53, x54, x55, x56, x57, x58, x59, x60, x61, x62, x63, x64, x65, x66, x67, x68, x69, x70, x71, x72, x73, x74, x75, x76, x77, x78, x79, x80, x81, x82, x83, x84, x85, x86, x87, x88, x89, x90, rfl⟩
  | cons a t => simp at h91
def VF (x : N4) (n : Int) (k : Int) : Nat → Value → World → Prop
  | 0, v, w => v = freshW.v
  | 1, v, w => v = x.v
  | 2, v, w => v = .agg #[.int .u64 0, .int .u64 0, .int .u64 0, .int .u64 0, V x.a, V x.b, V x.c, V x.d, .int .u64 0, .int .u64 0, .int .u64 0, .int .u64 0, .int .u64 0, .int .u64 0, .int .u64 0, .int .u64 0]
  | 3, v, w => v = .int .i64 n
  | 4, v, w => v = ansV ⟨(x.lsh (uN n)), x, nulN, nulN⟩ false
  | 5, v, w => v = (C4.mk (x.lsh (uN n)) x nulN nulN).v
  | 6, v, w => v = (x.lsh (uN n)).v
  | 7, v, w => v = freshW.v
  | 8, v, w => v = x.v
  | 9, v, w => v = .agg #[.int .u64 0, .int .u64 0, .int .u64 0, .int .u64 0, V x.a, V x.b, V x.c, V x.d, .int .u64 0, .int .u64 0, .int .u64 0, .int .u64 0, .int .u64 0, .int .u64 0, .int .u64 0, .int .u64 0]
  | 10, v, w => v = .int .i64 n
  | 11, v, w => v = ansV ⟨(x.sar (uN n)), x, nulN, nulN⟩ false
  | 12, v, w => v = (C4.mk (x.sar (uN n)) x nulN nulN).v
  | 13, v, w => v = (x.sar (uN n)).v
  | 14, v, w => ∃ B, v = .pointer (some ⟨B, 0, none⟩) ∧ w.there B 0 4
  | 15, v, w => ∃ B, v = .pointer (some ⟨B, 0, none⟩) ∧ w.there B 0 4
  | 16, v, w => ∃ B, v = .pointer (some ⟨B, 0, none⟩) ∧ At4 w B 0 ((x.lsh (uN n)))
  | 17, v, w => ∃ B, v = .pointer (some ⟨B, 0, none⟩) ∧ At4 w B 0 ((x.sar (uN n)))
  | _, _, _ => False
theorem VF_mono (x : N4) (n : Int) (k : Int) : ∀ j v w w', Below w.heap.size w w' → VF x n k j v w → VF x n k j v w' := by
  intro j v w w' hb h
  match j, h with
  | 0, h => exact h
  | 1, h => exact h
  | 2, h => exact h
  | 3, h => exact h
  | 4, h => exact h
  | 5, h => exact h
  | 6, h => exact h
  | 7, h => exact h
  | 8, h => exact h
  | 9, h => exact h
  | 10, h => exact h
  | 11, h => exact h
  | 12, h => exact h
  | 13, h => exact h
  | 14, h => obtain ⟨B, rfl, h1⟩ := h; exact ⟨B, rfl, there_bel h1 (by omega) hb⟩
  | 15, h => obtain ⟨B, rfl, h1⟩ := h; exact ⟨B, rfl, there_bel h1 (by omega) hb⟩
  | 16, h => obtain ⟨B, rfl, h1⟩ := h; exact ⟨B, rfl, At4.bel h1 hb⟩
  | 17, h => obtain ⟨B, rfl, h1⟩ := h; exact ⟨B, rfl, At4.bel h1 hb⟩
attribute [local go_sem ↓] fldAns fldA
theorem uN_small (n : Int) (h0 : 0 ≤ n) (h1 : n ≤ 200000) : (uN n).toNat = n.toNat := by
  unfold uN; rw [BitVec.toNat_ofInt]; omega
theorem not_toNat (x : N4) : x.not.toNat + x.toNat = 2 ^ 256 - 1 := by
  unfold N4.not N4.toNat
  simp only [BitVec.toNat_not]
  have := x.a.isLt; have := x.b.isLt; have := x.c.isLt; have := x.d.isLt
  omega
theorem not_not' (x : N4) : x.not.not = x := by unfold N4.not; simp
theorem top_toNat (x : N4) : x.top = decide (2 ^ 255 ≤ x.toNat) := by
  rw [top_neg]
  have hn := neg_iff x
  rw [BitVec.lt_def] at hn
  simp only [BitVec.toNat_ofNat] at hn
  have a1 := x.a.isLt; have a2 := x.b.isLt; have a3 := x.c.isLt; have a4 := x.d.isLt
  rw [Bool.eq_iff_iff, decide_eq_true_eq, hn]
  unfold N4.toNat
  omega
theorem lsh_zero (x : N4) : x.lsh (uN 0) = x := toNat_inj (by rw [lsh_toNat, uN_small 0 (by omega) (by omega)]; simp; exact toNat_lt x)
theorem rsh_zero (x : N4) : x.rsh (uN 0) = x := toNat_inj (by rw [rsh_toNat, uN_small 0 (by omega) (by omega)]; simp)
theorem sar_zero (x : N4) : x.sar (uN 0) = x := by
  unfold N4.sar
  split
  · rw [srsh_is, rsh_zero, not_not']
  · exact rsh_zero x
theorem lsh_twice (x : N4) (n k : Int) (h0 : 0 ≤ n) (h1 : n ≤ 65536) (h2 : 0 ≤ k) (h3 : k ≤ 65536) : (x.lsh (uN n)).lsh (uN k) = x.lsh (uN (n + k)) := by
  apply toNat_inj
  rw [lsh_toNat, lsh_toNat, lsh_toNat, uN_small n h0 (by omega), uN_small k h2 (by omega), uN_small (n + k) (by omega) (by omega), Nat.mod_mul_mod, Nat.mul_assoc, ← Nat.pow_add, show n.toNat + k.toNat = (n + k).toNat by omega]
theorem rsh_twice (x : N4) (n k : Int) (h0 : 0 ≤ n) (h1 : n ≤ 65536) (h2 : 0 ≤ k) (h3 : k ≤ 65536) : (x.rsh (uN n)).rsh (uN k) = x.rsh (uN (n + k)) := by
  apply toNat_inj
  rw [rsh_toNat, rsh_toNat, rsh_toNat, uN_small n h0 (by omega), uN_small k h2 (by omega), uN_small (n + k) (by omega) (by omega), Nat.div_div_eq_div_mul, ← Nat.pow_add, show n.toNat + k.toNat = (n + k).toNat by omega]
theorem rsh_le (x : N4) (n : W64) : (x.rsh n).toNat ≤ x.toNat := by rw [rsh_toNat]; exact Nat.div_le_self _ _
theorem sar_twice (x : N4) (n k : Int) (h0 : 0 ≤ n) (h1 : n ≤ 65536) (h2 : 0 ≤ k) (h3 : k ≤ 65536) : (x.sar (uN n)).sar (uN k) = x.sar (uN (n + k)) := by
  cases ht : x.top
  · have e : x.sar (uN n) = x.rsh (uN n) := by unfold N4.sar; rw [ht]; rfl
    have e2 : x.sar (uN (n + k)) = x.rsh (uN (n + k)) := by unfold N4.sar; rw [ht]; rfl
    have t2 : (x.rsh (uN n)).top = false := by
      rw [top_toNat] at ht ⊢
      have := of_decide_eq_false ht
      have := rsh_le x (uN n)
      exact decide_eq_false (by omega)
    rw [e, e2]
    unfold N4.sar
    rw [t2]
    exact rsh_twice x n k h0 h1 h2 h3
  · have e : x.sar (uN n) = (x.not.rsh (uN n)).not := by unfold N4.sar; rw [ht, if_pos rfl, srsh_is]
    have e2 : x.sar (uN (n + k)) = (x.not.rsh (uN (n + k))).not := by unfold N4.sar; rw [ht, if_pos rfl, srsh_is]
    have t2 : ((x.not.rsh (uN n)).not).top = true := by
      rw [top_toNat] at ht ⊢
      have := of_decide_eq_true ht
      have := rsh_le x.not (uN n)
      have := not_toNat x
      have := not_toNat (x.not.rsh (uN n))
      exact decide_eq_true (by omega)
    rw [e, e2]
    unfold N4.sar
    rw [t2, if_pos rfl, srsh_is, not_not', rsh_twice x.not n k h0 h1 h2 h3]
set_option maxHeartbeats 4000000 in
theorem walk (x : N4) (n : Int) (hn : I64 n) (k : Int) (hk : I64 k) (w : World) : Calls Try.prog 9 #[x.v, .int .i64 n, .int .i64 k] w (RetBel (.bool true) w) := by
  unfold I64 at hn hk
  have h0 : (x.lsh (uN 0)).eqb x = true := (eqb_iff _ _).2 (lsh_zero x)
  have h0' : (x.sar (uN 0)).eqb x = true := (eqb_iff _ _).2 (sar_zero x)
  have L00 : ∀ w, Calls Try.prog 27 #[freshW.v, .agg #[.int .u64 0, .int .u64 0, .int .u64 0, .int .u64 0, V x.a, V x.b, V x.c, V x.d, .int .u64 0, .int .u64 0, .int .u64 0, .int .u64 0, .int .u64 0, .int .u64 0, .int .u64 0, .int .u64 0], .int .i64 (0)] w (RetBel (ansV ⟨x.lsh (uN 0), x, nulN, nulN⟩ false) w) := fun w => implLsh_any freshW (oneC x) (0) w freshW_ok
  have L0 := Lib.hid L00
  clear L00
  have S00 : ∀ w, Calls Try.prog 31 #[freshW.v, .agg #[.int .u64 0, .int .u64 0, .int .u64 0, .int .u64 0, V x.a, V x.b, V x.c, V x.d, .int .u64 0, .int .u64 0, .int .u64 0, .int .u64 0, .int .u64 0, .int .u64 0, .int .u64 0, .int .u64 0], .int .i64 (0)] w (RetBel (ansV ⟨x.sar (uN 0), x, nulN, nulN⟩ false) w) := fun w => implSRsh_any freshW (oneC x) (0) w freshW_ok
  have S0 := Lib.hid S00
  clear S00
  by_cases hout : n < 0 ∨ k < 0 ∨ 65536 < n ∨ 65536 < k
  · have hcs : (n < 0) ∨ (¬ n < 0 ∧ k < 0) ∨ (¬ n < 0 ∧ ¬ k < 0 ∧ 65536 < n) ∨ (¬ n < 0 ∧ ¬ k < 0 ∧ ¬ 65536 < n ∧ 65536 < k) := by omega
    clear hout
    rcases hcs with c1 | ⟨c1, c2⟩ | ⟨c1, c2, c3⟩ | ⟨c1, c2, c3, c4⟩
    all_goals
      go_enter Try.func9, Try.ntmps9
      go_wp2
      go_region_held3 (Keeps (w.heap.size + 1) (w.alloc (Obj.cells #[V x.a, V x.b, V x.c, V x.d] 26))) (first | exact Keeps.start _ _ | exact Keeps.step (by assumption) (by simp) hb)
        (first | (go_at_call 36; refine (fresh_any _).mono ?_; rintro e w1 ⟨rfl, hb⟩) | (go_at_call 27; (first | (with_reducible refine (L0.out _).mono ?_)); rintro e w1 ⟨rfl, hb⟩) | (go_at_call 31; (first | (with_reducible refine (S0.out _).mono ?_)); rintro e w1 ⟨rfl, hb⟩))
      go_wp2
      go_ret
      exact retBel rfl ((‹Keeps _ _ _›).bel (by omega) (bel_alloc (bel_refl w) _))
  have c1 : ¬ n < 0 := by omega
  have c2 : ¬ k < 0 := by omega
  have c3 : ¬ 65536 < n := by omega
  have c4 : ¬ 65536 < k := by omega
  have c5 : 0 ≤ n := by omega
  have c6 : 0 ≤ k := by omega
  have c7 : n ≤ 65536 := by omega
  have c8 : k ≤ 65536 := by omega
  have h1 : ((x.lsh (uN n)).lsh (uN k)).eqb (x.lsh (uN (n + k))) = true := (eqb_iff _ _).2 (lsh_twice x n k c5 c7 c6 c8)
  have h2 : ((x.sar (uN n)).sar (uN k)).eqb (x.sar (uN (n + k))) = true := (eqb_iff _ _).2 (sar_twice x n k c5 c7 c6 c8)
  have hw : IntKind.i64.wrap (n + k) = n + k := IntWalk.i64_in _ (by omega)
  clear hout
  have L10 : ∀ w, Calls Try.prog 27 #[freshW.v, .agg #[.int .u64 0, .int .u64 0, .int .u64 0, .int .u64 0, V x.a, V x.b, V x.c, V x.d, .int .u64 0, .int .u64 0, .int .u64 0, .int .u64 0, .int .u64 0, .int .u64 0, .int .u64 0, .int .u64 0], .int .i64 (n)] w (RetBel (ansV ⟨(x.lsh (uN n)), x, nulN, nulN⟩ false) w) := fun w => implLsh_any freshW (oneC x) (n) w freshW_ok
  have L1 := Lib.hid L10
  clear L10
  have S10 : ∀ w, Calls Try.prog 31 #[freshW.v, .agg #[.int .u64 0, .int .u64 0, .int .u64 0, .int .u64 0, V x.a, V x.b, V x.c, V x.d, .int .u64 0, .int .u64 0, .int .u64 0, .int .u64 0, .int .u64 0, .int .u64 0, .int .u64 0, .int .u64 0], .int .i64 (n)] w (RetBel (ansV ⟨(x.sar (uN n)), x, nulN, nulN⟩ false) w) := fun w => implSRsh_any freshW (oneC x) (n) w freshW_ok
  have S1 := Lib.hid S10
  clear S10
  have L20 : ∀ w, Calls Try.prog 27 #[freshW.v, .agg #[.int .u64 0, .int .u64 0, .int .u64 0, .int .u64 0, V (x.lsh (uN n)).a, V (x.lsh (uN n)).b, V (x.lsh (uN n)).c, V (x.lsh (uN n)).d, .int .u64 0, .int .u64 0, .int .u64 0, .int .u64 0, .int .u64 0, .int .u64 0, .int .u64 0, .int .u64 0], .int .i64 (k)] w (RetBel (ansV ⟨(x.lsh (uN n)).lsh (uN k), (x.lsh (uN n)), nulN, nulN⟩ false) w) := fun w => implLsh_any freshW (oneC (x.lsh (uN n))) (k) w freshW_ok
  have L2 := Lib.hid L20
  clear L20
  have S20 : ∀ w, Calls Try.prog 31 #[freshW.v, .agg #[.int .u64 0, .int .u64 0, .int .u64 0, .int .u64 0, V (x.sar (uN n)).a, V (x.sar (uN n)).b, V (x.sar (uN n)).c, V (x.sar (uN n)).d, .int .u64 0, .int .u64 0, .int .u64 0, .int .u64 0, .int .u64 0, .int .u64 0, .int .u64 0, .int .u64 0], .int .i64 (k)] w (RetBel (ansV ⟨(x.sar (uN n)).sar (uN k), (x.sar (uN n)), nulN, nulN⟩ false) w) := fun w => implSRsh_any freshW (oneC (x.sar (uN n))) (k) w freshW_ok
  have S2 := Lib.hid S20
  clear S20
  have L30 : ∀ w, Calls Try.prog 27 #[freshW.v, .agg #[.int .u64 0, .int .u64 0, .int .u64 0, .int .u64 0, V x.a, V x.b, V x.c, V x.d, .int .u64 0, .int .u64 0, .int .u64 0, .int .u64 0, .int .u64 0, .int .u64 0, .int .u64 0, .int .u64 0], .int .i64 (n + k)] w (RetBel (ansV ⟨x.lsh (uN (n + k)), x, nulN, nulN⟩ false) w) := fun w => implLsh_any freshW (oneC x) (n + k) w freshW_ok
  have L3 := Lib.hid L30
  clear L30
  have S30 : ∀ w, Calls Try.prog 31 #[freshW.v, .agg #[.int .u64 0, .int .u64 0, .int .u64 0, .int .u64 0, V x.a, V x.b, V x.c, V x.d, .int .u64 0, .int .u64 0, .int .u64 0, .int .u64 0, .int .u64 0, .int .u64 0, .int .u64 0, .int .u64 0], .int .i64 (n + k)] w (RetBel (ansV ⟨x.sar (uN (n + k)), x, nulN, nulN⟩ false) w) := fun w => implSRsh_any freshW (oneC x) (n + k) w freshW_ok
  have S3 := Lib.hid S30
  clear S30
  go_enter Try.func9, Try.ntmps9
  go_wp2
  go_region_held3 (Keeps (w.heap.size + 1) (w.alloc (Obj.cells #[V x.a, V x.b, V x.c, V x.d] 26))) (first | exact Keeps.start _ _ | exact Keeps.step (by assumption) (by simp) hb)
    (first | (go_at_call 36; refine (fresh_any _).mono ?_; rintro e w1 ⟨rfl, hb⟩) | (go_at_call 27; (first | (with_reducible refine (L0.out _).mono ?_)); rintro e w1 ⟨rfl, hb⟩) | (go_at_call 31; (first | (with_reducible refine (S0.out _).mono ?_)); rintro e w1 ⟨rfl, hb⟩))
  obtain ⟨k1, hbw⟩ := ‹Keeps _ _ _›
  have b0 := fun o => k1 w.heap.size o (by omega)
  have zsz := hbw.size
  simp [go_sem] at b0 zsz
  have belw := (bel_alloc (bel_refl w) (Obj.cells #[V x.a, V x.b, V x.c, V x.d] 26)).trans (hbw.mono (by omega))
  clear k1 hbw
  go_wp2
  refine wp_region_all (by kernel_rfl) (GA [41, 42, 43, 44, 45, 46, 47, 48, 49, 50, 51, 52, 53, 54, 7, 8] [7, 8] [] _ _ _) (FV (fun i => [41, 42, 43, 44, 45, 46, 47, 48, 49, 50, 51, 52, 53, 54, 7, 8, 7, 8].getD i 0) (VF x n k)) (all_ord (by kernel_rfl)) (GA.start (by simp)) ?_ ?_
  · intro j o ho a' w' hG hpre
    have hj : j < 18 := getElem?_lt ho
    have hb := hG.bel
    have s0 := hG.frame.rest 3 (by decide)
    have hc0 := fun o => (hb.cell (p := ⟨w.heap.size, o, none⟩) (show w.heap.size < _ by omega)).trans (b0 o)
    simp [go_sem] at s0
    match j, hj with
    | 0, _ =>
      cases ho
      refine all_val rfl rfl rfl hG (by decide) (by decide) (by simp) rfl (by kernel_rfl) (VF_mono _ _ _) ?_
      refine step_call (f := 36) (args := #[]) (w' := w') ?_ (fresh_any w') ?_
      · simp [execOp, Act.eval, go_sem]
      · rintro e w'' ⟨rfl, hb2⟩
        exact ⟨_, rfl, rfl, hb2⟩
    | 1, _ =>
      cases ho
      refine all_val rfl rfl rfl hG (by decide) (by decide) (by simp) rfl (by kernel_rfl) (VF_mono _ _ _) ?_
      refine step_val (v := x.v) (w' := w') ?_ ⟨rfl, bel_refl _⟩
      simp [execOp, Act.eval, s0, hc0, go_sem]
    | 2, _ =>
      cases ho
      refine all_val rfl rfl rfl hG (by decide) (by decide) (by simp) rfl (by kernel_rfl) (VF_mono _ _ _) ?_
      obtain ⟨v0, e0, rfl⟩ := FV.get (d := 42) (hpre ⟨1, .data⟩ (by simp) rfl) rfl
      refine step_val (v := .agg #[.int .u64 0, .int .u64 0, .int .u64 0, .int .u64 0, V x.a, V x.b, V x.c, V x.d, .int .u64 0, .int .u64 0, .int .u64 0, .int .u64 0, .int .u64 0, .int .u64 0, .int .u64 0, .int .u64 0]) (w' := w') ?_ ⟨rfl, bel_refl _⟩
      simp [execOp, Act.eval, e0, go_sem]
    | 3, _ =>
      cases ho
      refine all_val rfl rfl rfl hG (by decide) (by decide) (by simp) rfl (by kernel_rfl) (VF_mono _ _ _) ?_
      have sp1 := hG.frame.rest 1 (by decide)
      simp [go_sem] at sp1
      refine step_val (v := .int .i64 n) (w' := w') ?_ ⟨rfl, bel_refl _⟩
      simp [execOp, Act.eval, sp1, go_sem]
    | 4, _ =>
      cases ho
      refine all_val rfl rfl rfl hG (by decide) (by decide) (by simp) rfl (by kernel_rfl) (VF_mono _ _ _) ?_
      obtain ⟨v0, e0, rfl⟩ := FV.get (d := 41) (hpre ⟨0, .data⟩ (by simp) rfl) rfl
      obtain ⟨v1, e1, rfl⟩ := FV.get (d := 43) (hpre ⟨2, .data⟩ (by simp) rfl) rfl
      obtain ⟨v2, e2, rfl⟩ := FV.get (d := 44) (hpre ⟨3, .data⟩ (by simp) rfl) rfl
      refine step_call (f := 27) (args := #[freshW.v, .agg #[.int .u64 0, .int .u64 0, .int .u64 0, .int .u64 0, V x.a, V x.b, V x.c, V x.d, .int .u64 0, .int .u64 0, .int .u64 0, .int .u64 0, .int .u64 0, .int .u64 0, .int .u64 0, .int .u64 0], .int .i64 n]) (w' := w') ?_ (L1.out w') ?_
      · simp [execOp, Act.eval, e0, e1, e2, go_sem]
      · rintro e w'' ⟨rfl, hb2⟩
        exact ⟨_, rfl, rfl, hb2⟩
    | 5, _ =>
      cases ho
      refine all_val rfl rfl rfl hG (by decide) (by decide) (by simp) rfl (by kernel_rfl) (VF_mono _ _ _) ?_
      obtain ⟨v0, e0, rfl⟩ := FV.get (d := 45) (hpre ⟨4, .data⟩ (by simp) rfl) rfl
      refine step_val (v := (C4.mk (x.lsh (uN n)) x nulN nulN).v) (w' := w') ?_ ⟨rfl, bel_refl _⟩
      simp [execOp, Act.eval, e0, fldAns, go_sem]
    | 6, _ =>
      cases ho
      refine all_val rfl rfl rfl hG (by decide) (by decide) (by simp) rfl (by kernel_rfl) (VF_mono _ _ _) ?_
      obtain ⟨v0, e0, rfl⟩ := FV.get (d := 46) (hpre ⟨5, .data⟩ (by simp) rfl) rfl
      refine step_val (v := (x.lsh (uN n)).v) (w' := w') ?_ ⟨rfl, bel_refl _⟩
      simp [execOp, Act.eval, e0, fldA, go_sem]
    | 7, _ =>
      cases ho
      refine all_val rfl rfl rfl hG (by decide) (by decide) (by simp) rfl (by kernel_rfl) (VF_mono _ _ _) ?_
      refine step_call (f := 36) (args := #[]) (w' := w') ?_ (fresh_any w') ?_
      · simp [execOp, Act.eval, go_sem]
      · rintro e w'' ⟨rfl, hb2⟩
        exact ⟨_, rfl, rfl, hb2⟩
    | 8, _ =>
      cases ho
      refine all_val rfl rfl rfl hG (by decide) (by decide) (by simp) rfl (by kernel_rfl) (VF_mono _ _ _) ?_
      refine step_val (v := x.v) (w' := w') ?_ ⟨rfl, bel_refl _⟩
      simp [execOp, Act.eval, s0, hc0, go_sem]
    | 9, _ =>
      cases ho
      refine all_val rfl rfl rfl hG (by decide) (by decide) (by simp) rfl (by kernel_rfl) (VF_mono _ _ _) ?_
      obtain ⟨v0, e0, rfl⟩ := FV.get (d := 49) (hpre ⟨8, .data⟩ (by simp) rfl) rfl
      refine step_val (v := .agg #[.int .u64 0, .int .u64 0, .int .u64 0, .int .u64 0, V x.a, V x.b, V x.c, V x.d, .int .u64 0, .int .u64 0, .int .u64 0, .int .u64 0, .int .u64 0, .int .u64 0, .int .u64 0, .int .u64 0]) (w' := w') ?_ ⟨rfl, bel_refl _⟩
      simp [execOp, Act.eval, e0, go_sem]
    | 10, _ =>
      cases ho
      refine all_val rfl rfl rfl hG (by decide) (by decide) (by simp) rfl (by kernel_rfl) (VF_mono _ _ _) ?_
      have sp1 := hG.frame.rest 1 (by decide)
      simp [go_sem] at sp1
      refine step_val (v := .int .i64 n) (w' := w') ?_ ⟨rfl, bel_refl _⟩
      simp [execOp, Act.eval, sp1, go_sem]
    | 11, _ =>
      cases ho
      refine all_val rfl rfl rfl hG (by decide) (by decide) (by simp) rfl (by kernel_rfl) (VF_mono _ _ _) ?_
      obtain ⟨v0, e0, rfl⟩ := FV.get (d := 48) (hpre ⟨7, .data⟩ (by simp) rfl) rfl
      obtain ⟨v1, e1, rfl⟩ := FV.get (d := 50) (hpre ⟨9, .data⟩ (by simp) rfl) rfl
      obtain ⟨v2, e2, rfl⟩ := FV.get (d := 51) (hpre ⟨10, .data⟩ (by simp) rfl) rfl
      refine step_call (f := 31) (args := #[freshW.v, .agg #[.int .u64 0, .int .u64 0, .int .u64 0, .int .u64 0, V x.a, V x.b, V x.c, V x.d, .int .u64 0, .int .u64 0, .int .u64 0, .int .u64 0, .int .u64 0, .int .u64 0, .int .u64 0, .int .u64 0], .int .i64 n]) (w' := w') ?_ (S1.out w') ?_
      · simp [execOp, Act.eval, e0, e1, e2, go_sem]
      · rintro e w'' ⟨rfl, hb2⟩
        exact ⟨_, rfl, rfl, hb2⟩
    | 12, _ =>
      cases ho
      refine all_val rfl rfl rfl hG (by decide) (by decide) (by simp) rfl (by kernel_rfl) (VF_mono _ _ _) ?_
      obtain ⟨v0, e0, rfl⟩ := FV.get (d := 52) (hpre ⟨11, .data⟩ (by simp) rfl) rfl
      refine step_val (v := (C4.mk (x.sar (uN n)) x nulN nulN).v) (w' := w') ?_ ⟨rfl, bel_refl _⟩
      simp [execOp, Act.eval, e0, fldAns, go_sem]
    | 13, _ =>
      cases ho
      refine all_val rfl rfl rfl hG (by decide) (by decide) (by simp) rfl (by kernel_rfl) (VF_mono _ _ _) ?_
      obtain ⟨v0, e0, rfl⟩ := FV.get (d := 53) (hpre ⟨12, .data⟩ (by simp) rfl) rfl
      refine step_val (v := (x.sar (uN n)).v) (w' := w') ?_ ⟨rfl, bel_refl _⟩
      simp [execOp, Act.eval, e0, fldA, go_sem]
    | 14, _ =>
      cases ho
      refine all_alloc (.cells #[.int .u64 0, .int .u64 0, .int .u64 0, .int .u64 0] 26) rfl rfl rfl hG (by decide) (by simp) rfl (by kernel_rfl) (VF_mono _ _ _) ?_ ⟨_, rfl, there_new _ _ _ _ (by simp)⟩
      simp [execOp, Act.eval, go_sem]
    | 15, _ =>
      cases ho
      refine all_alloc (.cells #[.int .u64 0, .int .u64 0, .int .u64 0, .int .u64 0] 26) rfl rfl rfl hG (by decide) (by simp) rfl (by kernel_rfl) (VF_mono _ _ _) ?_ ⟨_, rfl, there_new _ _ _ _ (by simp)⟩
      simp [execOp, Act.eval, go_sem]
    | 16, _ =>
      cases ho
      obtain ⟨vp, ep, B, rfl, hth⟩ := FV.get (d := 7) (hpre ⟨14, .data⟩ (by simp) rfl) rfl
      obtain ⟨vx, ex, rfl⟩ := FV.get (d := 47) (hpre ⟨6, .data⟩ (by simp) rfl) rfl
      refine all_store 26 _ _ rfl B 0 [V ((x.lsh (uN n))).a, V ((x.lsh (uN n))).b, V ((x.lsh (uN n))).c, V ((x.lsh (uN n))).d] rfl rfl rfl hG rfl ep (by simp [Act.eval, ep]) (by simp [Act.eval, ex]) hth (hG.apart.1 7 (by decide) B 0 ep).1 (by kernel_rfl) (by simp [Value.oneCell']) ⟨B, rfl, At4.setNew hth⟩ ?_
      intro i u hij hi hu hv
      match i, hi with
      | 0, _ => exact (show u = freshW.v from hv)
      | 1, _ => exact (show u = x.v from hv)
      | 2, _ => exact (show u = .agg #[.int .u64 0, .int .u64 0, .int .u64 0, .int .u64 0, V x.a, V x.b, V x.c, V x.d, .int .u64 0, .int .u64 0, .int .u64 0, .int .u64 0, .int .u64 0, .int .u64 0, .int .u64 0, .int .u64 0] from hv)
      | 3, _ => exact (show u = .int .i64 n from hv)
      | 4, _ => exact (show u = ansV ⟨(x.lsh (uN n)), x, nulN, nulN⟩ false from hv)
      | 5, _ => exact (show u = (C4.mk (x.lsh (uN n)) x nulN nulN).v from hv)
      | 6, _ => exact (show u = (x.lsh (uN n)).v from hv)
      | 7, _ => exact (show u = freshW.v from hv)
      | 8, _ => exact (show u = x.v from hv)
      | 9, _ => exact (show u = .agg #[.int .u64 0, .int .u64 0, .int .u64 0, .int .u64 0, V x.a, V x.b, V x.c, V x.d, .int .u64 0, .int .u64 0, .int .u64 0, .int .u64 0, .int .u64 0, .int .u64 0, .int .u64 0, .int .u64 0] from hv)
      | 10, _ => exact (show u = .int .i64 n from hv)
      | 11, _ => exact (show u = ansV ⟨(x.sar (uN n)), x, nulN, nulN⟩ false from hv)
      | 12, _ => exact (show u = (C4.mk (x.sar (uN n)) x nulN nulN).v from hv)
      | 13, _ => exact (show u = (x.sar (uN n)).v from hv)
      | 14, _ => obtain ⟨B2, rfl, h⟩ := hv; exact ⟨B2, rfl, World.there_setCells h _ _ _⟩
      | 15, _ => obtain ⟨B2, rfl, h⟩ := hv; exact ⟨B2, rfl, World.there_setCells h _ _ _⟩
      | 16, _ => exact absurd rfl hij
      | 17, _ => obtain ⟨B2, rfl, h⟩ := hv; exact ⟨B2, rfl, h.setFar4 (hG.apart.2 8 (by decide) 7 (by decide) (by decide) _ _ _ _ hu ep)⟩
      | i + 18, hi => exact absurd hi (by simp)
    | 17, _ =>
      cases ho
      obtain ⟨vp, ep, B, rfl, hth⟩ := FV.get (d := 8) (hpre ⟨15, .data⟩ (by simp) rfl) rfl
      obtain ⟨vx, ex, rfl⟩ := FV.get (d := 54) (hpre ⟨13, .data⟩ (by simp) rfl) rfl
      refine all_store 26 _ _ rfl B 0 [V ((x.sar (uN n))).a, V ((x.sar (uN n))).b, V ((x.sar (uN n))).c, V ((x.sar (uN n))).d] rfl rfl rfl hG rfl ep (by simp [Act.eval, ep]) (by simp [Act.eval, ex]) hth (hG.apart.1 8 (by decide) B 0 ep).1 (by kernel_rfl) (by simp [Value.oneCell']) ⟨B, rfl, At4.setNew hth⟩ ?_
      intro i u hij hi hu hv
      match i, hi with
      | 0, _ => exact (show u = freshW.v from hv)
      | 1, _ => exact (show u = x.v from hv)
      | 2, _ => exact (show u = .agg #[.int .u64 0, .int .u64 0, .int .u64 0, .int .u64 0, V x.a, V x.b, V x.c, V x.d, .int .u64 0, .int .u64 0, .int .u64 0, .int .u64 0, .int .u64 0, .int .u64 0, .int .u64 0, .int .u64 0] from hv)
      | 3, _ => exact (show u = .int .i64 n from hv)
      | 4, _ => exact (show u = ansV ⟨(x.lsh (uN n)), x, nulN, nulN⟩ false from hv)
      | 5, _ => exact (show u = (C4.mk (x.lsh (uN n)) x nulN nulN).v from hv)
      | 6, _ => exact (show u = (x.lsh (uN n)).v from hv)
      | 7, _ => exact (show u = freshW.v from hv)
      | 8, _ => exact (show u = x.v from hv)
      | 9, _ => exact (show u = .agg #[.int .u64 0, .int .u64 0, .int .u64 0, .int .u64 0, V x.a, V x.b, V x.c, V x.d, .int .u64 0, .int .u64 0, .int .u64 0, .int .u64 0, .int .u64 0, .int .u64 0, .int .u64 0, .int .u64 0] from hv)
      | 10, _ => exact (show u = .int .i64 n from hv)
      | 11, _ => exact (show u = ansV ⟨(x.sar (uN n)), x, nulN, nulN⟩ false from hv)
      | 12, _ => exact (show u = (C4.mk (x.sar (uN n)) x nulN nulN).v from hv)
      | 13, _ => exact (show u = (x.sar (uN n)).v from hv)
      | 14, _ => obtain ⟨B2, rfl, h⟩ := hv; exact ⟨B2, rfl, World.there_setCells h _ _ _⟩
      | 15, _ => obtain ⟨B2, rfl, h⟩ := hv; exact ⟨B2, rfl, World.there_setCells h _ _ _⟩
      | 16, _ => obtain ⟨B2, rfl, h⟩ := hv; exact ⟨B2, rfl, h.setFar4 (hG.apart.2 7 (by decide) 8 (by decide) (by decide) _ _ _ _ hu ep)⟩
      | 17, _ => exact absurd rfl hij
      | i + 18, hi => exact absurd hi (by simp)
    | n + 18, hj => exact absurd hj (by simp)
  · intro a' w' hG hF
    obtain ⟨_, e7, B7, rfl, h7⟩ := FV.get (d := 7) (hF 16 (by decide)) rfl
    have l7 := h7.lt
    obtain ⟨h70, h71, h72, h73⟩ := h7
    simp only [Nat.zero_add] at h71 h72 h73
    obtain ⟨_, e8, B8, rfl, h8⟩ := FV.get (d := 8) (hF 17 (by decide)) rfl
    have l8 := h8.lt
    obtain ⟨h80, h81, h82, h83⟩ := h8
    simp only [Nat.zero_add] at h81 h82 h83
    have s3 := hG.frame.rest 3 (by decide)
    have c3 := fun o => (hG.bel.cell (p := ⟨w.heap.size, o, none⟩) (show w.heap.size < _ by omega)).trans (b0 o)
    have s1 := hG.frame.rest 1 (by decide)
    have s2 := hG.frame.rest 2 (by decide)
    have hsz := hG.frame.size
    have hdf := hG.frame.defers
    have hgs := hG.bel.size
    have hbel : Below w.heap.size w w' := bel_trans belw hG.bel
    have z3 : w.heap.size < w'.heap.size := by omega
    clear hF hG
    obtain ⟨tm, df⟩ := a'
    obtain ⟨x0, x1, x2, x3, x4, x5, x6, x7, x8, x9, x10, x11, x12, x13, x14, x15, x16, x17, x18, x19, x20, x21, x22, x23, x24, x25, x26, x27, x28, x29, x30, x31, x32, x33, x34, x35, x36, x37, x38, x39, x40, x41, x42, x43, x44, x45, x46, x47, x48, x49, x50, x51, x52, x53, x54, x55, x56, x57, x58, x59, x60, x61, x62, x63, x64, x65, x66, x67, x68, x69, x70, x71, x72, x73, x74, x75, x76, x77, x78, x79, x80, x81, x82, x83, x84, x85, x86, x87, x88, x89, x90, rfl⟩ := arrayN91 hsz
    simp [go_sem] at e7 e8 s3 s1 s2 hdf
    subst e7 e8 s3 s1 s2 hdf
    clear hsz
    go_wp2
    go_region_held3 (Keeps w'.heap.size w') (first | assumption | exact Keeps.start _ _ | exact Keeps.step (by assumption) (Nat.le_refl _) hb)
      (first | (go_at_call 36; refine (fresh_any _).mono ?_; rintro e w1 ⟨rfl, hb⟩) | (go_at_call 27; (first | (with_reducible refine (L2.out _).mono ?_) | (with_reducible refine (L3.out _).mono ?_)); rintro e w1 ⟨rfl, hb⟩) | (go_at_call 31; (first | (with_reducible refine (S2.out _).mono ?_) | (with_reducible refine (S3.out _).mono ?_)); rintro e w1 ⟨rfl, hb⟩))
    go_wp2
    go_ret
    exact retBel rfl ((‹Keeps _ _ _›).bel hbel.size hbel)

set_option maxRecDepth 100000 in
theorem lifted (os : Os) (started : os.Started) (H : Type) (enc : TypeId × Value → H) :
    ReturnsInHanded {} Try.checked os 9 .any (Rows.fnShiftTwiceSpec.pre6 enc Try.prog Try.f9 Rows.fnShiftTwiceRow.domain false) (Rows.fnShiftTwiceSpec.post enc Try.prog Try.f9 false true false false) := by
  refine returnsInHanded_of_change (C := Try.checked) Try.own started (by kernel_rfl) Try.func9
    (ChangeSpec.witness6 (enc := enc) (C := Try.checked) false ⟨#[], #[.agg #[.int .u64 0, .int .u64 0, .int .u64 0, .int .u64 0], .int .i64 0, .int .i64 0], []⟩ 8 (by kernel_rfl) (by kernel_rfl) (by kernel_rfl) (by kernel_rfl)) ?_
  intro W base args ds gs before hval0 hW hcnd _
  have hval : ∀ (j : Nat) t v, Try.f9.params[j]? = some t → args[j]? = some v → Value.okWide Try.prog W .any base t v := hval0
  have hW' := hW
  obtain ⟨p, q, hA0, hV, rfl, hfz, hnd⟩ := hW
  have hA : DataW.TrodAll enc Try.prog W 0 (fun _ => true) true Try.f9.params.toList args.toList ds p := hA0
  rw [Try.params9] at hA hval
  obtain ⟨v0, vs0, d0, ds0, p0, q0, hargs, rfl, rfl, h0, r0⟩ := trodAll_cons hA
  obtain ⟨v1, vs1, d1, ds1, p1, q1, rfl, rfl, rfl, h1, r1⟩ := trodAll_cons r0
  obtain ⟨v2, vs2, d2, ds2, p2, q2, rfl, rfl, rfl, h2, r2⟩ := trodAll_cons r1
  obtain ⟨rfl, rfl, rfl⟩ := trodAll_nil r2
  obtain rfl : args = #[v0, v1, v2] := by cases args; simp_all
  obtain ⟨rfl, rfl⟩ := trodVars_none hV
  have k0 := h0
  have lt0 : ∀ x ∈ p0, x.block < W.heap.size := by obtain ⟨m, hm⟩ := k0; exact DataW.trod_lt m _ _ _ hm
  obtain ⟨x0, rfl⟩ := open_num (hval 0 26 v0 rfl rfl)
  have k1 := h1
  have lt1 : ∀ x ∈ p1, x.block < W.heap.size := by obtain ⟨m, hm⟩ := k1; exact DataW.trod_lt m _ _ _ hm
  obtain ⟨x1, rfl, g1⟩ := open_i64 (hval 1 3 v1 rfl rfl)
  have k2 := h2
  have lt2 : ∀ x ∈ p2, x.block < W.heap.size := by obtain ⟨m, hm⟩ := k2; exact DataW.trod_lt m _ _ _ hm
  obtain ⟨x2, rfl, g2⟩ := open_i64 (hval 2 3 v2 rfl rfl)
  clear hA0 hval0
  refine (walk x0 x1 g1 x2 g2 W).mono fun e W' ⟨he, bel⟩ => ?_
  subst he
  exact ⟨_, rfl, _, _, _, [], _, [], hW', trodAll_mk1 (shut_bool Try.underlying4 _), (trodAll_cons_mk (Below.trod Try.laidOut (by kernel_rfl) (of_decide_eq_true (by kernel_rfl)) k0 bel lt0) (trodAll_cons_mk (Below.trod Try.laidOut (by kernel_rfl) (of_decide_eq_true (by kernel_rfl)) k1 bel lt1) (trodAll_cons_mk (Below.trod Try.laidOut (by kernel_rfl) (of_decide_eq_true (by kernel_rfl)) k2 bel lt2) trodAll_mk0))), rfl, bel.frame _, fun h => by cases h⟩

theorem holds : Rows.FnShiftTwiceSaid :=
  OpenClaim.holds_of_wide 9 Try.f9 rfl rfl rfl rfl rfl rfl rfl ⟨rfl, rfl, rfl, rfl, rfl⟩ rfl rfl rfl rfl rfl (by kernel_rfl) Try.func9 (by kernel_rfl)
    (of_decide_eq_true (by kernel_rfl)) (by unfold Func.isWrapper; first | (rw [if_pos (by decide +kernel)]; kernel_rfl) | (rw [if_neg (by decide +kernel)]; exact ⟨rfl, rfl⟩))
    (fun os started H enc _ => lifted os started H enc)
#print axioms holds
end Go.Proofs.Ytnbjmmmefnedhaa.fnShiftTwice
