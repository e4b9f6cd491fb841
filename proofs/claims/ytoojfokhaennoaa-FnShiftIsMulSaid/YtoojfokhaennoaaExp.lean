/-
  The contract of uint256's Exp.
-/
import Derived.Test.YtoojfokhaennoaaExp0
import Derived.Test.YtoojfokhaennoaaMul
import Derived.Test.YtoojfokhaennoaaDiv8
import Derived.Deep.DeepCutAuto
import Derived.Deep.CutBlock
import Derived.Outline
namespace Go.Proofs.Ytoojfokhaennoaa
set_option maxRecDepth 20000
open Go.RowKit
set_option linter.unusedVariables false
set_option linter.unusedSimpArgs false
set_option maxRecDepth 20000
/-- The power, by worth. -/
def N4.exp (x y : N4) : N4 := ofN (x.toNat ^ y.toNat)
theorem ofN_mul (a b : Nat) : ofN ((ofN a).toNat * (ofN b).toNat) = ofN (a * b) := by
  apply toNat_inj
  rw [ofN_toNat, ofN_toNat, ofN_toNat, ofN_toNat, ← Nat.mul_mod]
theorem exp_sq (x i : Nat) : x ^ 2 ^ i * x ^ 2 ^ i = x ^ 2 ^ (i + 1) := by rw [← Nat.pow_add]; congr 1; rw [Nat.pow_succ]; omega
theorem exp_bit1 (x e i : Nat) (h : e / 2 ^ i % 2 = 1) : x ^ (e % 2 ^ i) * x ^ 2 ^ i = x ^ (e % 2 ^ (i + 1)) := by
  rw [← Nat.pow_add]; congr 1
  rw [Nat.pow_succ, Nat.mod_mul, h, Nat.mul_one]
theorem exp_bit0 (x e i : Nat) (h : e / 2 ^ i % 2 = 0) : x ^ (e % 2 ^ i) = x ^ (e % 2 ^ (i + 1)) := by
  congr 1
  rw [Nat.pow_succ, Nat.mod_mul, h, Nat.mul_zero, Nat.add_zero]
theorem exp_even (x e : Nat) (hx : x % 2 = 0) (he : 256 ≤ e) : ofN (x ^ e) = ofN 0 := by
  apply toNat_inj
  rw [ofN_toNat, ofN_toNat]
  obtain ⟨y, rfl⟩ : ∃ y, x = 2 * y := ⟨x / 2, by omega⟩
  rw [Nat.mul_pow, show 2 ^ e = 2 ^ 256 * 2 ^ (e - 256) by rw [← Nat.pow_add]; congr 1; omega, Nat.mul_assoc, Nat.mul_mod_right]
theorem word_of (y : N4) (k : Nat) (hk : k < 4) : (wd y.l4 k).toNat = y.toNat / 2 ^ (64 * k) % 2 ^ 64 := by
  have a1 := y.a.isLt; have a2 := y.b.isLt; have a3 := y.c.isLt; have a4 := y.d.isLt
  unfold N4.toNat
  match k, hk with
  | 0, _ => show y.a.toNat = _; omega
  | 1, _ => show y.b.toNat = _; omega
  | 2, _ => show y.c.toNat = _; omega
  | 3, _ => show y.d.toNat = _; omega
/-- The bit that the loop looks at. -/
theorem bit_here (y : N4) (k i : Nat) (hk : k < 4) (h1 : 64 * k ≤ i) (h2 : i < 64 * k + 64) : (wd y.l4 k).toNat / 2 ^ (i - 64 * k) % 2 = y.toNat / 2 ^ i % 2 := by
  rw [word_of y k hk]
  obtain ⟨j, rfl⟩ : ∃ j, i = 64 * k + j := ⟨i - 64 * k, by omega⟩
  rw [Nat.add_sub_cancel_left]
  have hj : j < 64 := by omega
  have e : (2 : Nat) ^ 64 = 2 ^ j * 2 ^ (64 - j) := by rw [← Nat.pow_add]; congr 1; omega
  rw [e, Nat.mod_mul_right_div_self, Nat.div_div_eq_div_mul, ← Nat.pow_add]
  have e2 : 2 ^ (64 - j) = 2 * 2 ^ (63 - j) := by rw [show 64 - j = (63 - j) + 1 by omega, Nat.pow_succ, Nat.mul_comm]
  rw [e2, Nat.mod_mul_right_mod]
theorem low_bit (v : W64) : ((v &&& 1#64) == 1#64) = decide (v.toNat % 2 = 1) := by
  rw [Bool.eq_iff_iff, beq_iff_eq, decide_eq_true_eq, ← BitVec.toNat_inj, BitVec.toNat_and]
  have e : v.toNat &&& 1 = v.toNat % 2 := Nat.and_two_pow_sub_one_eq_mod v.toNat 1
  simp only [BitVec.toNat_ofNat]
  rw [show 1 % 2 ^ 64 = 1 from rfl, e]
theorem low_bit0 (v : W64) : ((v &&& 1#64) == 0#64) = decide (v.toNat % 2 = 0) := by
  rw [Bool.eq_iff_iff, beq_iff_eq, decide_eq_true_eq, ← BitVec.toNat_inj, BitVec.toNat_and]
  have e : v.toNat &&& 1 = v.toNat % 2 := Nat.and_two_pow_sub_one_eq_mod v.toNat 1
  simp only [BitVec.toNat_ofNat]
  rw [show 1 % 2 ^ 64 = 1 from rfl, e]
theorem bits_zero (x : N4) (h : x.toNat = 0) : x.bits = 0 := by
  unfold N4.toNat at h
  have ha : x.a = 0#64 := BitVec.eq_of_toNat_eq (by show _ = 0; omega)
  have hb : x.b = 0#64 := BitVec.eq_of_toNat_eq (by show _ = 0; omega)
  have hc : x.c = 0#64 := BitVec.eq_of_toNat_eq (by show _ = 0; omega)
  have hd : x.d = 0#64 := BitVec.eq_of_toNat_eq (by show _ = 0; omega)
  unfold N4.bits
  rw [ha, hb, hc, hd, if_neg (fun h => h rfl), if_neg (fun h => h rfl), if_neg (fun h => h rfl)]
  decide
def halfW (v : W64) : W64 := v >>> (1 : Nat)
theorem halfW_toNat (v : W64) : (halfW v).toNat = v.toNat / 2 := by unfold halfW; rw [BitVec.toNat_ushiftRight, Nat.shiftRight_eq_div_pow]
theorem u64_half1 (v : W64) : U v / (2 : Int) = U (halfW v) := by unfold U; rw [halfW_toNat]; simp
theorem u64_and1w (v : W64) : bits BinOp.and IntKind.u64 (U v) (1 : Int) = U (v &&& 1#64) := u64_and v 1#64
attribute [local go_sem] u64_half1 u64_and1w
/-- What the loops keep: res and multiplier are new numbers. -/
structure ExpW (w W : World) (x e i : Nat) : Prop where
  r : At4 W w.heap.size 0 (ofN (x ^ (e % 2 ^ i)))
  fr : Free4 W w.heap.size 0
  m : At4 W (w.heap.size + 1) 0 (ofN (x ^ 2 ^ i))
  fm : Free4 W (w.heap.size + 1) 0
  but : But [] w W
theorem ExpW.mulR {w W : World} {x e i n : Nat} (h : ExpW w W x e i) (hb : e / 2 ^ i % 2 = 1) : At4 ((put4 W w.heap.size 0 (N4.mul (ofN (x ^ (e % 2 ^ i))) (ofN (x ^ 2 ^ i)))).drewN n) w.heap.size 0 (ofN (x ^ (e % 2 ^ (i + 1)))) := by
  have e1 : N4.mul (ofN (x ^ (e % 2 ^ i))) (ofN (x ^ 2 ^ i)) = ofN (x ^ (e % 2 ^ (i + 1))) := by
    rw [eq_ofN (mul_toNat _ _), ofN_mul, exp_bit1 x e i hb]
  rw [e1]
  exact (put4_at _ _ _ _ _ h.r).drewN n
def ExpRel (w W : World) (x : Nat) (y : N4) (n k : Nat) (i : Nat) (v : W64) : Prop :=
  i ≤ n ∧ i ≤ 64 * k + 64 ∧ (i = n ∨ 64 * k ≤ i) ∧ (64 * k ≤ i → v.toNat = (wd y.l4 k).toNat / 2 ^ (i - 64 * k)) ∧ ExpW w W x y.toNat i
/-- A round. -/
theorem ExpRel.step1 {w W : World} {x : Nat} {y : N4} {n k i a c : Nat} {v : W64} (hk : k < 4) (h : ExpRel w W x y n k i v) (h1 : i < n) (h2 : i < 64 * k + 64) (hb : v.toNat % 2 = 1) :
    ExpRel w ((put4 ((put4 W w.heap.size 0 (N4.mul (ofN (x ^ (y.toNat % 2 ^ i))) (ofN (x ^ 2 ^ i)))).drewN a) (w.heap.size + 1) 0 (ofN ((ofN (x ^ 2 ^ i)).toNat * (ofN (x ^ 2 ^ i)).toNat))).drewN c) x y n k (i + 1) (halfW v) := by
  obtain ⟨g1, g2, g3, g4, g5⟩ := h
  have hi : 64 * k ≤ i := by omega
  have hv := g4 hi
  have hbit : y.toNat / 2 ^ i % 2 = 1 := by rw [← bit_here y k i hk hi h2, ← hv]; exact hb
  have hm : ofN ((ofN (x ^ 2 ^ i)).toNat * (ofN (x ^ 2 ^ i)).toNat) = ofN (x ^ 2 ^ (i + 1)) := by rw [ofN_mul, exp_sq]
  rw [hm]
  refine ⟨by omega, by omega, .inr (by omega), fun _ => ?_, ?_, ?_, ?_, ?_, ?_⟩
  · rw [halfW_toNat, hv, Nat.div_div_eq_div_mul, ← Nat.pow_succ]; congr 2; omega
  · exact (put4_far (g5.mulR hbit) (fun h => by omega)).drewN _
  · exact (((g5.fr.put _).drewN _).put _).drewN _
  · exact (put4_at _ _ _ _ _ ((put4_far g5.m (fun h => by omega)).drewN a)).drewN _
  · exact (((g5.fm.put _).drewN _).put _).drewN _
  · exact ((((g5.but.put4 (.inr (Nat.le_refl _)) 0 _).drewN a).put4 (.inr (Nat.le_succ _)) 0 _)).drewN c
theorem ExpRel.step0 {w W : World} {x : Nat} {y : N4} {n k i c : Nat} {v : W64} (hk : k < 4) (h : ExpRel w W x y n k i v) (h1 : i < n) (h2 : i < 64 * k + 64) (hb : ¬ v.toNat % 2 = 1) :
    ExpRel w ((put4 W (w.heap.size + 1) 0 (ofN ((ofN (x ^ 2 ^ i)).toNat * (ofN (x ^ 2 ^ i)).toNat))).drewN c) x y n k (i + 1) (halfW v) := by
  obtain ⟨g1, g2, g3, g4, g5⟩ := h
  have hi : 64 * k ≤ i := by omega
  have hv := g4 hi
  have hbit : y.toNat / 2 ^ i % 2 = 0 := by rw [← bit_here y k i hk hi h2, ← hv]; omega
  have hm : ofN ((ofN (x ^ 2 ^ i)).toNat * (ofN (x ^ 2 ^ i)).toNat) = ofN (x ^ 2 ^ (i + 1)) := by rw [ofN_mul, exp_sq]
  rw [hm]
  refine ⟨by omega, by omega, .inr (by omega), fun _ => ?_, ?_, ?_, ?_, ?_, ?_⟩
  · rw [halfW_toNat, hv, Nat.div_div_eq_div_mul, ← Nat.pow_succ]; congr 2; omega
  · rw [← exp_bit0 x y.toNat i hbit]
    exact (put4_far g5.r (fun h => by omega)).drewN _
  · exact (g5.fr.put _).drewN _
  · exact (put4_at _ _ _ _ _ g5.m).drewN _
  · exact (g5.fm.put _).drewN _
  · exact (g5.but.put4 (.inr (Nat.le_succ _)) 0 _).drewN c
set_option maxHeartbeats 16000000 in
theorem expInt_any (b o c p d q : Nat) (z x y : N4) (w : World) (hz : At4 w b o z) (fz : Free4 w b o) (hx : At4 w c p x) (hy : At4 w d q y) :
    Calls Try.prog 50 #[.pointer (some ⟨b, o, none⟩), .pointer (some ⟨c, p, none⟩), .pointer (some ⟨d, q, none⟩)] w (RetLeft b o (x.exp y) w) := by
  have hb := hz.lt
  have hc := hx.lt
  have hd := hy.lt
  have Hz := Lib.hid hz
  have Hf := Lib.hid fz
  have Hx := Lib.hid hx
  have Hy := Lib.hid hy
  obtain ⟨x0, x1, x2, x3⟩ := hx
  have y0 := hy.c0
  clear hz fz hy
  go_enter Try.func50, Try.ntmps50
  go_wp2_with fail
  refine (bitLen_any d q y _ ((Hy.out.alloc _).alloc _)).mono ?_
  rintro e w1 ⟨rfl, rfl⟩
  have EW : Hid (ExpW w ((w.alloc (Obj.cells #[.int .u64 1, .int .u64 0, .int .u64 0, .int .u64 0] 85)).alloc (Obj.cells #[V x.a, V x.b, V x.c, V x.d] 85)) x.toNat y.toNat 0) := by
    refine ⟨?_, ?_, ?_, ?_, ((But.refl [] w).alloc _).alloc _⟩
    · rw [Nat.pow_zero, Nat.mod_one, Nat.pow_zero, ofN_one]
      refine At4.alloc ?_ _
      constructor <;> simp [go_sem] <;> rfl
    · refine Free4.alloc ?_ (by simp) _
      constructor <;> simp [go_sem]
    · rw [Nat.pow_zero, Nat.pow_one, ofN_self]
      constructor <;> simp [go_sem]
    · constructor <;> simp [go_sem]
  have HyW := Lib.hid (((Hy.out.alloc (Obj.cells #[.int .u64 1, .int .u64 0, .int .u64 0, .int .u64 0] 85)).alloc (Obj.cells #[V x.a, V x.b, V x.c, V x.d] 85)))
  have hxa : ((w.alloc (Obj.cells #[.int .u64 1, .int .u64 0, .int .u64 0, .int .u64 0] 85)).alloc (Obj.cells #[V x.a, V x.b, V x.c, V x.d] 85)).cell? ⟨c, p, none⟩ = some (V x.a) := bel_cell (bel_alloc (bel_alloc (bel_refl w) _) _) x0
  generalize (w.alloc (Obj.cells #[.int .u64 1, .int .u64 0, .int .u64 0, .int .u64 0] 85)).alloc (Obj.cells #[V x.a, V x.b, V x.c, V x.d] 85) = W0 at *
  have y0 := HyW.out.c0
  obtain ⟨bs1, bs2, bs3⟩ := bits_spec y
  have BZ := Lib.hid (bits_zero y)
  generalize y.bits = n at *
  have BS1 := Lib.hid bs1
  have BS2 := Lib.hid bs2
  clear bs1 bs2 x0 x1 x2 x3
  have fin : ∀ W, ExpW w W x.toNat y.toNat n → At4 W w.heap.size 0 (x.exp y) := fun W h => by
    have h1 := h.r
    rw [Nat.mod_eq_of_lt BS1.out] at h1
    exact h1
  have FIN := Lib.hid fin
  clear fin
  cases hev : (x.a &&& 1#64 == 0#64)
  · go_upto_block 0 with fail
    go_cut [10, 11] (fun s10 s11 wx => ∃ (i : Nat) (v : W64), s10 = .int .i64 (i : Int) ∧ s11 = V v ∧ Hid (i = n ∨ i = 64) ∧ Hid (ExpRel w wx x.toNat y n 0 i v))
    case first =>
      go_wp2_with fail
      go_loopw [10, 11] (fun s10 s11 wx => ∃ (i : Nat) (v : W64), s10 = .int .i64 (i : Int) ∧ s11 = V v ∧ Hid (ExpRel w wx x.toNat y n 0 i v)) (fun s10 _ _ => (64 - intOf s10).toNat)
      case atStart => exact ⟨0, y.a, rfl, rfl, ⟨Nat.zero_le _, by omega, .inr (by omega), fun _ => (Nat.div_one _).symm, EW.out⟩⟩
      case round =>
        obtain ⟨i, v, rfl, rfl, H⟩ := hrel
        obtain ⟨wo, rfl⟩ : ∃ wo : World, wo = wr := ⟨_, rfl⟩
        have hin : i ≤ n := H.out.1
        by_cases hc : i < n ∧ i < 64
        · have d1 : decide ((i : Int) < (n : Int)) = true := decide_eq_true (by omega)
          have d2 : decide ((i : Int) < 64) = true := decide_eq_true (by omega)
          have AR := Lib.hid H.out.2.2.2.2.r
          have FR := Lib.hid H.out.2.2.2.2.fr
          have AM := Lib.hid H.out.2.2.2.2.m
          have FM := Lib.hid H.out.2.2.2.2.fm
          by_cases hb : v.toNat % 2 = 1
          · have hbb : (v &&& 1#64 == 1#64) = true := by rw [low_bit]; exact decide_eq_true hb
            have AM1 : Hid (∀ m, At4 ((put4 wo w.heap.size 0 (N4.mul (ofN (x.toNat ^ (y.toNat % 2 ^ i))) (ofN (x.toNat ^ 2 ^ i)))).drewN m) (w.heap.size + 1) 0 (ofN (x.toNat ^ 2 ^ i))) := fun m => (put4_far AM.out (fun h => by omega)).drewN m
            have FM1 : Hid (∀ m, Free4 ((put4 wo w.heap.size 0 (N4.mul (ofN (x.toNat ^ (y.toNat % 2 ^ i))) (ofN (x.toNat ^ 2 ^ i)))).drewN m) (w.heap.size + 1) 0) := fun m => (FM.out.put _).drewN m
            have ST := fun a c => Lib.hid (ExpRel.step1 (a := a) (c := c) (by decide) H.out hc.1 (by omega) hb)
            go_wp2_with (first | (go_at_call 84; refine (mulInt_any w.heap.size 0 w.heap.size 0 (w.heap.size + 1) 0 _ _ _ _ AR.out FR.out AR.out AM.out).mono ?_; rintro e w1 ⟨rfl, m1, rfl⟩) | (go_at_call 85; refine (squared_any (w.heap.size + 1) 0 _ _ (AM1.out _) (FM1.out _)).mono ?_; rintro e w2 ⟨rfl, m2, rfl⟩))
            go_roundw
            case rel => exact ⟨i + 1, halfW v, rfl, rfl, ST _ _⟩
            case measure => simp [intOf] <;> omega
          · have hbb : (v &&& 1#64 == 1#64) = false := by rw [low_bit]; exact decide_eq_false hb
            have ST := fun c => Lib.hid (ExpRel.step0 (c := c) (by decide) H.out hc.1 (by omega) hb)
            go_wp2_with (go_at_call 85; refine (squared_any (w.heap.size + 1) 0 _ _ AM.out FM.out).mono ?_; rintro e w2 ⟨rfl, m2, rfl⟩)
            go_roundw
            case rel => exact ⟨i + 1, halfW v, rfl, rfl, ST _⟩
            case measure => simp [intOf] <;> omega
        · have HE : Hid (i = n ∨ i = 64) := by
            have h1 := H.out.1
            have h2 := H.out.2.1
            show _ ∨ _
            omega
          by_cases hc1 : i < n
          · have d1 : decide ((i : Int) < (n : Int)) = true := decide_eq_true (by omega)
            have d2 : decide ((i : Int) < 64) = false := decide_eq_false (by omega)
            go_wp2_with fail
            go_meet
            exact ⟨i, v, rfl, rfl, HE, H⟩
          · have d1 : decide ((i : Int) < (n : Int)) = false := decide_eq_false (by omega)
            go_wp2_with fail
            go_meet
            exact ⟨i, v, rfl, rfl, HE, H⟩
    case rest =>
      obtain ⟨i0, v0, rfl, rfl, HI0, HE0⟩ := hcut
      have yw0 := (Hy.out.but HE0.out.2.2.2.2.but (by simp)).c1
      have SR0 : Hid (ExpRel w wc x.toNat y n 1 i0 y.b) := by
        obtain ⟨g1, g2, g3, g4, g5⟩ := HE0.out
        have gi := HI0.out
        refine ⟨g1, by omega, by omega, fun h => ?_, g5⟩
        obtain rfl : i0 = 64 := by omega
        exact (Nat.div_one _).symm
      go_upto_block 2 with fail
      go_cut [10, 11] (fun s10 s11 wx => ∃ (i : Nat) (v : W64), s10 = .int .i64 (i : Int) ∧ s11 = V v ∧ Hid (i = n ∨ i = 128) ∧ Hid (ExpRel w wx x.toNat y n 1 i v))
      case first =>
        go_wp2_with fail
        go_loopw [10, 11] (fun s10 s11 wx => ∃ (i : Nat) (v : W64), s10 = .int .i64 (i : Int) ∧ s11 = V v ∧ Hid (ExpRel w wx x.toNat y n 1 i v)) (fun s10 _ _ => (128 - intOf s10).toNat)
        case atStart => exact ⟨i0, y.b, rfl, rfl, SR0⟩
        case round =>
          obtain ⟨i, v, rfl, rfl, H⟩ := hrel
          obtain ⟨wo, rfl⟩ : ∃ wo : World, wo = wr := ⟨_, rfl⟩
          have hin : i ≤ n := H.out.1
          by_cases hc : i < n ∧ i < 128
          · have d1 : decide ((i : Int) < (n : Int)) = true := decide_eq_true (by omega)
            have d2 : decide ((i : Int) < 128) = true := decide_eq_true (by omega)
            have AR := Lib.hid H.out.2.2.2.2.r
            have FR := Lib.hid H.out.2.2.2.2.fr
            have AM := Lib.hid H.out.2.2.2.2.m
            have FM := Lib.hid H.out.2.2.2.2.fm
            by_cases hb : v.toNat % 2 = 1
            · have hbb : (v &&& 1#64 == 1#64) = true := by rw [low_bit]; exact decide_eq_true hb
              have AM1 : Hid (∀ m, At4 ((put4 wo w.heap.size 0 (N4.mul (ofN (x.toNat ^ (y.toNat % 2 ^ i))) (ofN (x.toNat ^ 2 ^ i)))).drewN m) (w.heap.size + 1) 0 (ofN (x.toNat ^ 2 ^ i))) := fun m => (put4_far AM.out (fun h => by omega)).drewN m
              have FM1 : Hid (∀ m, Free4 ((put4 wo w.heap.size 0 (N4.mul (ofN (x.toNat ^ (y.toNat % 2 ^ i))) (ofN (x.toNat ^ 2 ^ i)))).drewN m) (w.heap.size + 1) 0) := fun m => (FM.out.put _).drewN m
              have ST := fun a c => Lib.hid (ExpRel.step1 (a := a) (c := c) (by decide) H.out hc.1 (by omega) hb)
              go_wp2_with (first | (go_at_call 84; refine (mulInt_any w.heap.size 0 w.heap.size 0 (w.heap.size + 1) 0 _ _ _ _ AR.out FR.out AR.out AM.out).mono ?_; rintro e w1 ⟨rfl, m1, rfl⟩) | (go_at_call 85; refine (squared_any (w.heap.size + 1) 0 _ _ (AM1.out _) (FM1.out _)).mono ?_; rintro e w2 ⟨rfl, m2, rfl⟩))
              go_roundw
              case rel => exact ⟨i + 1, halfW v, rfl, rfl, ST _ _⟩
              case measure => simp [intOf] <;> omega
            · have hbb : (v &&& 1#64 == 1#64) = false := by rw [low_bit]; exact decide_eq_false hb
              have ST := fun c => Lib.hid (ExpRel.step0 (c := c) (by decide) H.out hc.1 (by omega) hb)
              go_wp2_with (go_at_call 85; refine (squared_any (w.heap.size + 1) 0 _ _ AM.out FM.out).mono ?_; rintro e w2 ⟨rfl, m2, rfl⟩)
              go_roundw
              case rel => exact ⟨i + 1, halfW v, rfl, rfl, ST _⟩
              case measure => simp [intOf] <;> omega
          · have HE : Hid (i = n ∨ i = 128) := by
              have h1 := H.out.1
              have h2 := H.out.2.1
              show _ ∨ _
              omega
            by_cases hc1 : i < n
            · have d1 : decide ((i : Int) < (n : Int)) = true := decide_eq_true (by omega)
              have d2 : decide ((i : Int) < 128) = false := decide_eq_false (by omega)
              go_wp2_with fail
              go_meet
              exact ⟨i, v, rfl, rfl, HE, H⟩
            · have d1 : decide ((i : Int) < (n : Int)) = false := decide_eq_false (by omega)
              go_wp2_with fail
              go_meet
              exact ⟨i, v, rfl, rfl, HE, H⟩
      case rest =>
        obtain ⟨i1, v1, rfl, rfl, HI1, HE1⟩ := hcut
        have yw1 := (Hy.out.but HE1.out.2.2.2.2.but (by simp)).c2
        have SR1 : Hid (ExpRel w wc x.toNat y n 2 i1 y.c) := by
          obtain ⟨g1, g2, g3, g4, g5⟩ := HE1.out
          have gi := HI1.out
          refine ⟨g1, by omega, by omega, fun h => ?_, g5⟩
          obtain rfl : i1 = 128 := by omega
          exact (Nat.div_one _).symm
        go_upto_block 4 with fail
        go_cut [10, 11] (fun s10 s11 wx => ∃ (i : Nat) (v : W64), s10 = .int .i64 (i : Int) ∧ s11 = V v ∧ Hid (i = n ∨ i = 192) ∧ Hid (ExpRel w wx x.toNat y n 2 i v))
        case first =>
          go_wp2_with fail
          go_loopw [10, 11] (fun s10 s11 wx => ∃ (i : Nat) (v : W64), s10 = .int .i64 (i : Int) ∧ s11 = V v ∧ Hid (ExpRel w wx x.toNat y n 2 i v)) (fun s10 _ _ => (192 - intOf s10).toNat)
          case atStart => exact ⟨i1, y.c, rfl, rfl, SR1⟩
          case round =>
            obtain ⟨i, v, rfl, rfl, H⟩ := hrel
            obtain ⟨wo, rfl⟩ : ∃ wo : World, wo = wr := ⟨_, rfl⟩
            have hin : i ≤ n := H.out.1
            by_cases hc : i < n ∧ i < 192
            · have d1 : decide ((i : Int) < (n : Int)) = true := decide_eq_true (by omega)
              have d2 : decide ((i : Int) < 192) = true := decide_eq_true (by omega)
              have AR := Lib.hid H.out.2.2.2.2.r
              have FR := Lib.hid H.out.2.2.2.2.fr
              have AM := Lib.hid H.out.2.2.2.2.m
              have FM := Lib.hid H.out.2.2.2.2.fm
              by_cases hb : v.toNat % 2 = 1
              · have hbb : (v &&& 1#64 == 1#64) = true := by rw [low_bit]; exact decide_eq_true hb
                have AM1 : Hid (∀ m, At4 ((put4 wo w.heap.size 0 (N4.mul (ofN (x.toNat ^ (y.toNat % 2 ^ i))) (ofN (x.toNat ^ 2 ^ i)))).drewN m) (w.heap.size + 1) 0 (ofN (x.toNat ^ 2 ^ i))) := fun m => (put4_far AM.out (fun h => by omega)).drewN m
                have FM1 : Hid (∀ m, Free4 ((put4 wo w.heap.size 0 (N4.mul (ofN (x.toNat ^ (y.toNat % 2 ^ i))) (ofN (x.toNat ^ 2 ^ i)))).drewN m) (w.heap.size + 1) 0) := fun m => (FM.out.put _).drewN m
                have ST := fun a c => Lib.hid (ExpRel.step1 (a := a) (c := c) (by decide) H.out hc.1 (by omega) hb)
                go_wp2_with (first | (go_at_call 84; refine (mulInt_any w.heap.size 0 w.heap.size 0 (w.heap.size + 1) 0 _ _ _ _ AR.out FR.out AR.out AM.out).mono ?_; rintro e w1 ⟨rfl, m1, rfl⟩) | (go_at_call 85; refine (squared_any (w.heap.size + 1) 0 _ _ (AM1.out _) (FM1.out _)).mono ?_; rintro e w2 ⟨rfl, m2, rfl⟩))
                go_roundw
                case rel => exact ⟨i + 1, halfW v, rfl, rfl, ST _ _⟩
                case measure => simp [intOf] <;> omega
              · have hbb : (v &&& 1#64 == 1#64) = false := by rw [low_bit]; exact decide_eq_false hb
                have ST := fun c => Lib.hid (ExpRel.step0 (c := c) (by decide) H.out hc.1 (by omega) hb)
                go_wp2_with (go_at_call 85; refine (squared_any (w.heap.size + 1) 0 _ _ AM.out FM.out).mono ?_; rintro e w2 ⟨rfl, m2, rfl⟩)
                go_roundw
                case rel => exact ⟨i + 1, halfW v, rfl, rfl, ST _⟩
                case measure => simp [intOf] <;> omega
            · have HE : Hid (i = n ∨ i = 192) := by
                have h1 := H.out.1
                have h2 := H.out.2.1
                show _ ∨ _
                omega
              by_cases hc1 : i < n
              · have d1 : decide ((i : Int) < (n : Int)) = true := decide_eq_true (by omega)
                have d2 : decide ((i : Int) < 192) = false := decide_eq_false (by omega)
                go_wp2_with fail
                go_meet
                exact ⟨i, v, rfl, rfl, HE, H⟩
              · have d1 : decide ((i : Int) < (n : Int)) = false := decide_eq_false (by omega)
                go_wp2_with fail
                go_meet
                exact ⟨i, v, rfl, rfl, HE, H⟩
        case rest =>
          obtain ⟨i2, v2, rfl, rfl, HI2, HE2⟩ := hcut
          have yw2 := (Hy.out.but HE2.out.2.2.2.2.but (by simp)).c3
          have SR2 : Hid (ExpRel w wc x.toNat y n 3 i2 y.d) := by
            obtain ⟨g1, g2, g3, g4, g5⟩ := HE2.out
            have gi := HI2.out
            refine ⟨g1, by omega, by omega, fun h => ?_, g5⟩
            obtain rfl : i2 = 192 := by omega
            exact (Nat.div_one _).symm
          go_upto_block 6 with fail
          go_cut [10, 11] (fun s10 s11 wx => ∃ (i : Nat) (v : W64), s10 = .int .i64 (i : Int) ∧ s11 = V v ∧ Hid (i = n ∨ i = 256) ∧ Hid (ExpRel w wx x.toNat y n 3 i v))
          case first =>
            go_wp2_with fail
            go_loopw [10, 11] (fun s10 s11 wx => ∃ (i : Nat) (v : W64), s10 = .int .i64 (i : Int) ∧ s11 = V v ∧ Hid (ExpRel w wx x.toNat y n 3 i v)) (fun s10 _ _ => (256 - intOf s10).toNat)
            case atStart => exact ⟨i2, y.d, rfl, rfl, SR2⟩
            case round =>
              obtain ⟨i, v, rfl, rfl, H⟩ := hrel
              obtain ⟨wo, rfl⟩ : ∃ wo : World, wo = wr := ⟨_, rfl⟩
              have hin : i ≤ n := H.out.1
              by_cases hc : i < n ∧ i < 256
              · have d1 : decide ((i : Int) < (n : Int)) = true := decide_eq_true (by omega)
                have d2 : decide ((i : Int) < 256) = true := decide_eq_true (by omega)
                have AR := Lib.hid H.out.2.2.2.2.r
                have FR := Lib.hid H.out.2.2.2.2.fr
                have AM := Lib.hid H.out.2.2.2.2.m
                have FM := Lib.hid H.out.2.2.2.2.fm
                by_cases hb : v.toNat % 2 = 1
                · have hbb : (v &&& 1#64 == 1#64) = true := by rw [low_bit]; exact decide_eq_true hb
                  have AM1 : Hid (∀ m, At4 ((put4 wo w.heap.size 0 (N4.mul (ofN (x.toNat ^ (y.toNat % 2 ^ i))) (ofN (x.toNat ^ 2 ^ i)))).drewN m) (w.heap.size + 1) 0 (ofN (x.toNat ^ 2 ^ i))) := fun m => (put4_far AM.out (fun h => by omega)).drewN m
                  have FM1 : Hid (∀ m, Free4 ((put4 wo w.heap.size 0 (N4.mul (ofN (x.toNat ^ (y.toNat % 2 ^ i))) (ofN (x.toNat ^ 2 ^ i)))).drewN m) (w.heap.size + 1) 0) := fun m => (FM.out.put _).drewN m
                  have ST := fun a c => Lib.hid (ExpRel.step1 (a := a) (c := c) (by decide) H.out hc.1 (by omega) hb)
                  go_wp2_with (first | (go_at_call 84; refine (mulInt_any w.heap.size 0 w.heap.size 0 (w.heap.size + 1) 0 _ _ _ _ AR.out FR.out AR.out AM.out).mono ?_; rintro e w1 ⟨rfl, m1, rfl⟩) | (go_at_call 85; refine (squared_any (w.heap.size + 1) 0 _ _ (AM1.out _) (FM1.out _)).mono ?_; rintro e w2 ⟨rfl, m2, rfl⟩))
                  go_roundw
                  case rel => exact ⟨i + 1, halfW v, rfl, rfl, ST _ _⟩
                  case measure => simp [intOf] <;> omega
                · have hbb : (v &&& 1#64 == 1#64) = false := by rw [low_bit]; exact decide_eq_false hb
                  have ST := fun c => Lib.hid (ExpRel.step0 (c := c) (by decide) H.out hc.1 (by omega) hb)
                  go_wp2_with (go_at_call 85; refine (squared_any (w.heap.size + 1) 0 _ _ AM.out FM.out).mono ?_; rintro e w2 ⟨rfl, m2, rfl⟩)
                  go_roundw
                  case rel => exact ⟨i + 1, halfW v, rfl, rfl, ST _⟩
                  case measure => simp [intOf] <;> omega
              · have HE : Hid (i = n ∨ i = 256) := by
                  have h1 := H.out.1
                  have h2 := H.out.2.1
                  show _ ∨ _
                  omega
                by_cases hc1 : i < n
                · have d1 : decide ((i : Int) < (n : Int)) = true := decide_eq_true (by omega)
                  have d2 : decide ((i : Int) < 256) = false := decide_eq_false (by omega)
                  go_wp2_with fail
                  go_meet
                  exact ⟨i, v, rfl, rfl, HE, H⟩
                · have d1 : decide ((i : Int) < (n : Int)) = false := decide_eq_false (by omega)
                  go_wp2_with fail
                  go_meet
                  exact ⟨i, v, rfl, rfl, HE, H⟩
          case rest =>
            obtain ⟨i, v, rfl, rfl, HI, HE⟩ := hcut
            obtain rfl : i = n := by
              have h1 := HI.out
              have h2 := HE.out.1
              omega
            have HW := Lib.hid HE.out.2.2.2.2
            have RZ := Lib.hid (FIN.out _ HW.out)
            have HZ := Lib.hid (Hz.out.but HW.out.but (by simp))
            have HF := Lib.hid (Hf.out.but hb HW.out.but (by simp))
            have HB := Lib.hid (HW.out.but.bel (bel_refl w) (by simp))
            go_wp2_with (go_at_call 86; refine (set_any b o w.heap.size 0 _ _ _ HZ.out HF.out RZ.out (fun e => by omega)).mono ?_; rintro e w1 ⟨rfl, m1, rfl⟩)
            go_ret
            exact ⟨rfl, Left.of_alloc HB.out hb⟩
  · by_cases h8 : 8 < n
    · have K : Hid (x.exp y = ⟨0#64, 0#64, 0#64, 0#64⟩) := by
        show _ = _
        unfold N4.exp
        rw [exp_even, ofN_zero]
        · rw [low_bit0, decide_eq_true_eq] at hev
          unfold N4.toNat
          omega
        · have h0 : y.toNat ≠ 0 := fun e => by
            have := BZ.out e
            omega
          have := (BS2.out h0).2
          exact Nat.le_trans (Nat.pow_le_pow_right (by decide) (by omega) : 2 ^ 8 ≤ 2 ^ (n - 1)) this
      have d8 : decide ((8 : Int) < (n : Int)) = true := decide_eq_true (by omega)
      have RC := K
      have HZ := Lib.hid (Hz.out.but EW.out.but (by simp))
      have HF := Lib.hid (Hf.out.but hb EW.out.but (by simp))
      have HB := Lib.hid (EW.out.but.bel (bel_refl w) (by simp))
      go_wp2_with (go_at_call 83; refine (clear_any b o _ _ HZ.out HF.out).mono ?_; rintro e w1 ⟨rfl, m1, rfl⟩)
      go_ret
      rw [K.out]
      exact ⟨rfl, Left.of_alloc HB.out hb⟩
    · have d8 : decide ((8 : Int) < (n : Int)) = false := decide_eq_false (by omega)
      go_upto_block 0 with fail
      go_cut [10, 11] (fun s10 s11 wx => ∃ (i : Nat) (v : W64), s10 = .int .i64 (i : Int) ∧ s11 = V v ∧ Hid (i = n ∨ i = 64) ∧ Hid (ExpRel w wx x.toNat y n 0 i v))
      case first =>
        go_wp2_with fail
        go_loopw [10, 11] (fun s10 s11 wx => ∃ (i : Nat) (v : W64), s10 = .int .i64 (i : Int) ∧ s11 = V v ∧ Hid (ExpRel w wx x.toNat y n 0 i v)) (fun s10 _ _ => (64 - intOf s10).toNat)
        case atStart => exact ⟨0, y.a, rfl, rfl, ⟨Nat.zero_le _, by omega, .inr (by omega), fun _ => (Nat.div_one _).symm, EW.out⟩⟩
        case round =>
          obtain ⟨i, v, rfl, rfl, H⟩ := hrel
          obtain ⟨wo, rfl⟩ : ∃ wo : World, wo = wr := ⟨_, rfl⟩
          have hin : i ≤ n := H.out.1
          by_cases hc : i < n ∧ i < 64
          · have d1 : decide ((i : Int) < (n : Int)) = true := decide_eq_true (by omega)
            have d2 : decide ((i : Int) < 64) = true := decide_eq_true (by omega)
            have AR := Lib.hid H.out.2.2.2.2.r
            have FR := Lib.hid H.out.2.2.2.2.fr
            have AM := Lib.hid H.out.2.2.2.2.m
            have FM := Lib.hid H.out.2.2.2.2.fm
            by_cases hb : v.toNat % 2 = 1
            · have hbb : (v &&& 1#64 == 1#64) = true := by rw [low_bit]; exact decide_eq_true hb
              have AM1 : Hid (∀ m, At4 ((put4 wo w.heap.size 0 (N4.mul (ofN (x.toNat ^ (y.toNat % 2 ^ i))) (ofN (x.toNat ^ 2 ^ i)))).drewN m) (w.heap.size + 1) 0 (ofN (x.toNat ^ 2 ^ i))) := fun m => (put4_far AM.out (fun h => by omega)).drewN m
              have FM1 : Hid (∀ m, Free4 ((put4 wo w.heap.size 0 (N4.mul (ofN (x.toNat ^ (y.toNat % 2 ^ i))) (ofN (x.toNat ^ 2 ^ i)))).drewN m) (w.heap.size + 1) 0) := fun m => (FM.out.put _).drewN m
              have ST := fun a c => Lib.hid (ExpRel.step1 (a := a) (c := c) (by decide) H.out hc.1 (by omega) hb)
              go_wp2_with (first | (go_at_call 84; refine (mulInt_any w.heap.size 0 w.heap.size 0 (w.heap.size + 1) 0 _ _ _ _ AR.out FR.out AR.out AM.out).mono ?_; rintro e w1 ⟨rfl, m1, rfl⟩) | (go_at_call 85; refine (squared_any (w.heap.size + 1) 0 _ _ (AM1.out _) (FM1.out _)).mono ?_; rintro e w2 ⟨rfl, m2, rfl⟩))
              go_roundw
              case rel => exact ⟨i + 1, halfW v, rfl, rfl, ST _ _⟩
              case measure => simp [intOf] <;> omega
            · have hbb : (v &&& 1#64 == 1#64) = false := by rw [low_bit]; exact decide_eq_false hb
              have ST := fun c => Lib.hid (ExpRel.step0 (c := c) (by decide) H.out hc.1 (by omega) hb)
              go_wp2_with (go_at_call 85; refine (squared_any (w.heap.size + 1) 0 _ _ AM.out FM.out).mono ?_; rintro e w2 ⟨rfl, m2, rfl⟩)
              go_roundw
              case rel => exact ⟨i + 1, halfW v, rfl, rfl, ST _⟩
              case measure => simp [intOf] <;> omega
          · have HE : Hid (i = n ∨ i = 64) := by
              have h1 := H.out.1
              have h2 := H.out.2.1
              show _ ∨ _
              omega
            by_cases hc1 : i < n
            · have d1 : decide ((i : Int) < (n : Int)) = true := decide_eq_true (by omega)
              have d2 : decide ((i : Int) < 64) = false := decide_eq_false (by omega)
              go_wp2_with fail
              go_meet
              exact ⟨i, v, rfl, rfl, HE, H⟩
            · have d1 : decide ((i : Int) < (n : Int)) = false := decide_eq_false (by omega)
              go_wp2_with fail
              go_meet
              exact ⟨i, v, rfl, rfl, HE, H⟩
      case rest =>
        obtain ⟨i, v, rfl, rfl, HI, HE⟩ := hcut
        obtain rfl : i = n := by
          have h1 := HI.out
          have h2 := HE.out.1
          omega
        have HW := Lib.hid HE.out.2.2.2.2
        have RZ := Lib.hid (FIN.out _ HW.out)
        have HZ := Lib.hid (Hz.out.but HW.out.but (by simp))
        have HF := Lib.hid (Hf.out.but hb HW.out.but (by simp))
        have HB := Lib.hid (HW.out.but.bel (bel_refl w) (by simp))
        go_wp2_with (go_at_call 86; refine (set_any b o w.heap.size 0 _ _ _ HZ.out HF.out RZ.out (fun e => by omega)).mono ?_; rintro e w1 ⟨rfl, m1, rfl⟩)
        go_ret
        exact ⟨rfl, Left.of_alloc HB.out hb⟩
end Go.Proofs.Ytoojfokhaennoaa
