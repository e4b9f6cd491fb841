/-
  The reference's Cut: the number of a list of digits, modulo 2^256.
-/
import Derived.Test.YtfaocjcpnjmfiaaDoorDig3
import Derived.Test.YtfaocjcpnjmfiaaDoorArith
namespace Go.Proofs.YtfaocjcpnjmfiaaDoor
set_option maxRecDepth 20000
open Go.RowKit
set_option linter.unusedVariables false
theorem u64_wrapU (x : W64) : IntKind.u64.wrap (U x) = U x := by
  unfold U; rw [IntKind.wrap_u64]; have := x.isLt; omega
theorem u64_shl_nat (x : W64) (k : Nat) (hk : k ≤ 64) : Op.shift .shl .u64 (U x) .i64 (k : Int) = pure (.int .u64 (U (x <<< k))) := by
  rw [shift_shl_any _ _ _ _ (by omega)]
  congr 2
  unfold U
  rw [IntKind.wrap_u64, BitVec.toNat_shiftLeft, Nat.shiftLeft_eq, Int.toNat_natCast, show min k (IntKind.u64.bits) = k from Nat.min_eq_left hk]
  simp
theorem u64_shl0 (x : W64) : Op.shift .shl .u64 (U x) .i64 0 = pure (.int .u64 (U (x <<< 0))) := u64_shl_nat x 0 (by decide)
theorem u64_shl16 (x : W64) : Op.shift .shl .u64 (U x) .i64 16 = pure (.int .u64 (U (x <<< 16))) := u64_shl_nat x 16 (by decide)
theorem u64_shl32 (x : W64) : Op.shift .shl .u64 (U x) .i64 32 = pure (.int .u64 (U (x <<< 32))) := u64_shl_nat x 32 (by decide)
theorem u64_shl48 (x : W64) : Op.shift .shl .u64 (U x) .i64 48 = pure (.int .u64 (U (x <<< 48))) := u64_shl_nat x 48 (by decide)
theorem or_add (x : W64) (d k : Nat) (hx : x.toNat < 2 ^ k) (hd : d < 65536) (hk : k ≤ 48) : (x ||| (BitVec.ofNat 64 d <<< k)).toNat = x.toNat + 2 ^ k * d := by
  have hp : 2 ^ k ≤ 2 ^ 48 := Nat.pow_le_pow_right (by decide) hk
  have hm : 2 ^ k * d ≤ 2 ^ 48 * 65535 := Nat.mul_le_mul hp (by omega)
  rw [BitVec.toNat_or, BitVec.toNat_shiftLeft, BitVec.toNat_ofNat, Nat.shiftLeft_eq, Nat.mod_eq_of_lt (show d < 2 ^ 64 by omega), Nat.mul_comm d, Nat.mod_eq_of_lt (show 2 ^ k * d < 2 ^ 64 by omega), Nat.or_comm, ← Nat.two_pow_add_eq_or_of_lt hx]
  omega
theorem vlow_mod {l : List Nat} (h : Digits l) (n k : Nat) : vlow l (n + k) % 65536 ^ n = vlow l n := by
  induction k with
  | zero => exact Nat.mod_eq_of_lt (vlow_lt h n)
  | succ k ih =>
    rw [← Nat.add_assoc, vlow, Nat.pow_add, Nat.mul_assoc, Nat.add_mul_mod_self_left, ih]
theorem val_mod {l : List Nat} (h : Digits l) : val l % 2 ^ 256 = vlow l 16 := by
  rw [← pow16]
  rcases Nat.le_total l.length 16 with hl | hl
  · rw [← vlow_ge hl]; exact Nat.mod_eq_of_lt (vlow_lt h 16)
  · obtain ⟨k, hk⟩ : ∃ k, l.length = 16 + k := ⟨l.length - 16, by omega⟩
    unfold val
    rw [hk]; exact vlow_mod h 16 k
/-- A number with another word j. -/
def N4.setW (x : N4) (j : Nat) (v : W64) : N4 := if j = 0 then { x with a := v } else if j = 1 then { x with b := v } else if j = 2 then { x with c := v } else { x with d := v }
def cutW (x : N4) (l : List Nat) (i : Nat) : N4 := x.setW (i / 4) (x.wd (i / 4) ||| (BitVec.ofNat 64 (dig l i) <<< (16 * (i % 4))))
theorem cut_step (x : N4) (l : List Nat) (hd : Digits l) (i : Nat) (hi : i < 16) (h : x.toNat = vlow l i) : (cutW x l i).toNat = vlow l (i + 1) := by
  have hb := vlow_lt hd i
  have hdl := dig_lt hd i
  have xa := x.a.isLt
  have xb := x.b.isLt
  have xc := x.c.isLt
  have xd := x.d.isLt
  rw [vlow, ← h]
  rw [← h] at hb
  unfold N4.toNat at hb
  unfold cutW
  rcases (by omega : i = 0 ∨ i = 1 ∨ i = 2 ∨ i = 3 ∨ i = 4 ∨ i = 5 ∨ i = 6 ∨ i = 7 ∨ i = 8 ∨ i = 9 ∨ i = 10 ∨ i = 11 ∨ i = 12 ∨ i = 13 ∨ i = 14 ∨ i = 15) with rfl | rfl | rfl | rfl | rfl | rfl | rfl | rfl | rfl | rfl | rfl | rfl | rfl | rfl | rfl | rfl
  · have e := or_add x.a (dig l 0) 0 (by omega) hdl (by omega)
    show N4.toNat ({ x with a := x.a ||| (BitVec.ofNat 64 (dig l 0) <<< 0) }) = _
    unfold N4.toNat
    simp only [e]
    omega
  · have e := or_add x.a (dig l 1) 16 (by omega) hdl (by omega)
    show N4.toNat ({ x with a := x.a ||| (BitVec.ofNat 64 (dig l 1) <<< 16) }) = _
    unfold N4.toNat
    simp only [e]
    omega
  · have e := or_add x.a (dig l 2) 32 (by omega) hdl (by omega)
    show N4.toNat ({ x with a := x.a ||| (BitVec.ofNat 64 (dig l 2) <<< 32) }) = _
    unfold N4.toNat
    simp only [e]
    omega
  · have e := or_add x.a (dig l 3) 48 (by omega) hdl (by omega)
    show N4.toNat ({ x with a := x.a ||| (BitVec.ofNat 64 (dig l 3) <<< 48) }) = _
    unfold N4.toNat
    simp only [e]
    omega
  · have e := or_add x.b (dig l 4) 0 (by omega) hdl (by omega)
    show N4.toNat ({ x with b := x.b ||| (BitVec.ofNat 64 (dig l 4) <<< 0) }) = _
    unfold N4.toNat
    simp only [e]
    omega
  · have e := or_add x.b (dig l 5) 16 (by omega) hdl (by omega)
    show N4.toNat ({ x with b := x.b ||| (BitVec.ofNat 64 (dig l 5) <<< 16) }) = _
    unfold N4.toNat
    simp only [e]
    omega
  · have e := or_add x.b (dig l 6) 32 (by omega) hdl (by omega)
    show N4.toNat ({ x with b := x.b ||| (BitVec.ofNat 64 (dig l 6) <<< 32) }) = _
    unfold N4.toNat
    simp only [e]
    omega
  · have e := or_add x.b (dig l 7) 48 (by omega) hdl (by omega)
    show N4.toNat ({ x with b := x.b ||| (BitVec.ofNat 64 (dig l 7) <<< 48) }) = _
    unfold N4.toNat
    simp only [e]
    omega
  · have e := or_add x.c (dig l 8) 0 (by omega) hdl (by omega)
    show N4.toNat ({ x with c := x.c ||| (BitVec.ofNat 64 (dig l 8) <<< 0) }) = _
    unfold N4.toNat
    simp only [e]
    omega
  · have e := or_add x.c (dig l 9) 16 (by omega) hdl (by omega)
    show N4.toNat ({ x with c := x.c ||| (BitVec.ofNat 64 (dig l 9) <<< 16) }) = _
    unfold N4.toNat
    simp only [e]
    omega
  · have e := or_add x.c (dig l 10) 32 (by omega) hdl (by omega)
    show N4.toNat ({ x with c := x.c ||| (BitVec.ofNat 64 (dig l 10) <<< 32) }) = _
    unfold N4.toNat
    simp only [e]
    omega
  · have e := or_add x.c (dig l 11) 48 (by omega) hdl (by omega)
    show N4.toNat ({ x with c := x.c ||| (BitVec.ofNat 64 (dig l 11) <<< 48) }) = _
    unfold N4.toNat
    simp only [e]
    omega
  · have e := or_add x.d (dig l 12) 0 (by omega) hdl (by omega)
    show N4.toNat ({ x with d := x.d ||| (BitVec.ofNat 64 (dig l 12) <<< 0) }) = _
    unfold N4.toNat
    simp only [e]
    omega
  · have e := or_add x.d (dig l 13) 16 (by omega) hdl (by omega)
    show N4.toNat ({ x with d := x.d ||| (BitVec.ofNat 64 (dig l 13) <<< 16) }) = _
    unfold N4.toNat
    simp only [e]
    omega
  · have e := or_add x.d (dig l 14) 32 (by omega) hdl (by omega)
    show N4.toNat ({ x with d := x.d ||| (BitVec.ofNat 64 (dig l 14) <<< 32) }) = _
    unfold N4.toNat
    simp only [e]
    omega
  · have e := or_add x.d (dig l 15) 48 (by omega) hdl (by omega)
    show N4.toNat ({ x with d := x.d ||| (BitVec.ofNat 64 (dig l 15) <<< 48) }) = _
    unfold N4.toNat
    simp only [e]
    omega
theorem At4.one {w : World} {b : Nat} {x : N4} (h : At4 w b 0 x) (j : Nat) (hj : j < 4) (v : W64) : At4 (w.setCell ⟨b, j, none⟩ (V v)) b 0 (x.setW j v) := by
  obtain ⟨h0, h1, h2, h3⟩ := h
  simp only [Nat.zero_add] at h1 h2 h3
  rcases (by omega : j = 0 ∨ j = 1 ∨ j = 2 ∨ j = 3) with rfl | rfl | rfl | rfl
  all_goals
    constructor <;> simp [N4.setW, h0, h1, h2, h3, go_sem]
theorem i64_lit0 : IntKind.i64.wrap 0 = 0 := by decide
theorem i64_lit1 : IntKind.i64.wrap 1 = 1 := by decide
theorem i64_lit2 : IntKind.i64.wrap 2 = 2 := by decide
theorem i64_lit3 : IntKind.i64.wrap 3 = 3 := by decide
theorem i64_lit16 : IntKind.i64.wrap 16 = 16 := by decide
theorem i64_lit32 : IntKind.i64.wrap 32 = 32 := by decide
theorem i64_lit48 : IntKind.i64.wrap 48 = 48 := by decide
attribute [local go_sem] u64_wrapU i64_lit0 i64_lit1 i64_lit2 i64_lit3 i64_lit16 i64_lit32 i64_lit48
attribute [local go_sem ↓] u64_shl0 u64_shl16 u64_shl32 u64_shl48
set_option maxHeartbeats 4000000 in
theorem cut_any (v : Value) (l : List Nat) (w : World) (hs : Sl w v l) (hd : Digits l) (hl : l.length ≤ 1000000) :
    Calls Tryd.prog 18 #[v] w (RetBel (ofN (val l)).v w) := by
  have Hs := Lib.hid hs
  clear hs
  go_enter Tryd.func18, Tryd.ntmps18
  go_wp2
  go_loopw [4] (fun t wr => ∃ (i : Nat) (x : N4), i ≤ 16 ∧ t = .int .i64 (i : Int) ∧ At4 wr (w.heap.size + 1) 0 x ∧ Free4 wr (w.heap.size + 1) 0 ∧ wr.there w.heap.size 0 4 ∧ Hid (x.toNat = vlow l i) ∧ Below w.heap.size w wr) (fun t _ => 16 - (intOf t).toNat)
  case atStart =>
    refine ⟨0, ⟨0#64, 0#64, 0#64, 0#64⟩, by omega, rfl, ?_, ?_, World.there_alloc (there_at w _ _ 4 _ (Nat.le_refl _) rfl) _, rfl, bel_alloc (bel_alloc (bel_refl w) _) _⟩
    · constructor <;> simp [go_sem] <;> rfl
    · constructor <;> simp [go_sem]
  case round =>
    obtain ⟨i, x, hi, rfl, hat, hfr, hres, HX, hbel⟩ := hrel
    by_cases hlt : i < 16
    · have N : Hid ((cutW x l i).toNat = vlow l (i + 1)) := cut_step x l hd i hlt HX.out
      have SW := Lib.hid (Hs.out.bel hbel)
      have hdl := dig_lt hd i
      have hU : ((dig l i : Nat) : Int) = U (BitVec.ofNat 64 (dig l i)) := (U_ofNat _ (by omega)).symm
      have Hat := Lib.hid hat
      have Hfr := Lib.hid hfr
      obtain ⟨a0, a1, a2, a3⟩ := hat
      obtain ⟨f0, f1, f2, f3⟩ := hfr
      simp only [Nat.zero_add] at a1 a2 a3 f1 f2 f3
      clear HX
      rcases (by omega : i = 0 ∨ i = 1 ∨ i = 2 ∨ i = 3 ∨ i = 4 ∨ i = 5 ∨ i = 6 ∨ i = 7 ∨ i = 8 ∨ i = 9 ∨ i = 10 ∨ i = 11 ∨ i = 12 ∨ i = 13 ∨ i = 14 ∨ i = 15) with rfl | rfl | rfl | rfl | rfl | rfl | rfl | rfl | rfl | rfl | rfl | rfl | rfl | rfl | rfl | rfl
      · go_wp2
        go_region_with (go_at_call 28; refine (at_any _ l _ _ (SW.out.drewN 1) hl (by omega) (by omega)).mono ?_; rintro e w' ⟨rfl, rfl⟩)
        all_goals
          go_wp2
          go_roundw
          case rel =>
            have e : cutW x l 0 = x.setW 0 (x.a ||| BitVec.ofNat 64 (dig l 0)) := by simp [cutW, N4.wd]
            refine ⟨1, cutW x l 0, by omega, by go_num, ?_, (Hfr.out.drewN 1).set _ _, there_set (there_drewN hres 1) _ _ _, N, bel_set (bel_drewN hbel 1) _ (by simp) _⟩
            rw [e]
            exact (Hat.out.drewN 1).one 0 (by omega) _
          case measure => simp [intOf] <;> omega
      · go_wp2
        go_region_with (go_at_call 28; refine (at_any _ l _ _ (SW.out.drewN 1) hl (by omega) (by omega)).mono ?_; rintro e w' ⟨rfl, rfl⟩)
        all_goals
          go_wp2
          go_roundw
          case rel =>
            have e : cutW x l 1 = x.setW 0 (x.a ||| BitVec.ofNat 64 (dig l 1) <<< (16 : Nat)) := by simp [cutW, N4.wd]
            refine ⟨2, cutW x l 1, by omega, by go_num, ?_, (Hfr.out.drewN 1).set _ _, there_set (there_drewN hres 1) _ _ _, N, bel_set (bel_drewN hbel 1) _ (by simp) _⟩
            rw [e]
            exact (Hat.out.drewN 1).one 0 (by omega) _
          case measure => simp [intOf] <;> omega
      · go_wp2
        go_region_with (go_at_call 28; refine (at_any _ l _ _ (SW.out.drewN 1) hl (by omega) (by omega)).mono ?_; rintro e w' ⟨rfl, rfl⟩)
        all_goals
          go_wp2
          go_roundw
          case rel =>
            have e : cutW x l 2 = x.setW 0 (x.a ||| BitVec.ofNat 64 (dig l 2) <<< (32 : Nat)) := by simp [cutW, N4.wd]
            refine ⟨3, cutW x l 2, by omega, by go_num, ?_, (Hfr.out.drewN 1).set _ _, there_set (there_drewN hres 1) _ _ _, N, bel_set (bel_drewN hbel 1) _ (by simp) _⟩
            rw [e]
            exact (Hat.out.drewN 1).one 0 (by omega) _
          case measure => simp [intOf] <;> omega
      · go_wp2
        go_region_with (go_at_call 28; refine (at_any _ l _ _ (SW.out.drewN 1) hl (by omega) (by omega)).mono ?_; rintro e w' ⟨rfl, rfl⟩)
        all_goals
          go_wp2
          go_roundw
          case rel =>
            have e : cutW x l 3 = x.setW 0 (x.a ||| BitVec.ofNat 64 (dig l 3) <<< (48 : Nat)) := by simp [cutW, N4.wd]
            refine ⟨4, cutW x l 3, by omega, by go_num, ?_, (Hfr.out.drewN 1).set _ _, there_set (there_drewN hres 1) _ _ _, N, bel_set (bel_drewN hbel 1) _ (by simp) _⟩
            rw [e]
            exact (Hat.out.drewN 1).one 0 (by omega) _
          case measure => simp [intOf] <;> omega
      · go_wp2
        go_region_with (go_at_call 28; refine (at_any _ l _ _ (SW.out.drewN 1) hl (by omega) (by omega)).mono ?_; rintro e w' ⟨rfl, rfl⟩)
        all_goals
          go_wp2
          go_roundw
          case rel =>
            have e : cutW x l 4 = x.setW 1 (x.b ||| BitVec.ofNat 64 (dig l 4)) := by simp [cutW, N4.wd]
            refine ⟨5, cutW x l 4, by omega, by go_num, ?_, (Hfr.out.drewN 1).set _ _, there_set (there_drewN hres 1) _ _ _, N, bel_set (bel_drewN hbel 1) _ (by simp) _⟩
            rw [e]
            exact (Hat.out.drewN 1).one 1 (by omega) _
          case measure => simp [intOf] <;> omega
      · go_wp2
        go_region_with (go_at_call 28; refine (at_any _ l _ _ (SW.out.drewN 1) hl (by omega) (by omega)).mono ?_; rintro e w' ⟨rfl, rfl⟩)
        all_goals
          go_wp2
          go_roundw
          case rel =>
            have e : cutW x l 5 = x.setW 1 (x.b ||| BitVec.ofNat 64 (dig l 5) <<< (16 : Nat)) := by simp [cutW, N4.wd]
            refine ⟨6, cutW x l 5, by omega, by go_num, ?_, (Hfr.out.drewN 1).set _ _, there_set (there_drewN hres 1) _ _ _, N, bel_set (bel_drewN hbel 1) _ (by simp) _⟩
            rw [e]
            exact (Hat.out.drewN 1).one 1 (by omega) _
          case measure => simp [intOf] <;> omega
      · go_wp2
        go_region_with (go_at_call 28; refine (at_any _ l _ _ (SW.out.drewN 1) hl (by omega) (by omega)).mono ?_; rintro e w' ⟨rfl, rfl⟩)
        all_goals
          go_wp2
          go_roundw
          case rel =>
            have e : cutW x l 6 = x.setW 1 (x.b ||| BitVec.ofNat 64 (dig l 6) <<< (32 : Nat)) := by simp [cutW, N4.wd]
            refine ⟨7, cutW x l 6, by omega, by go_num, ?_, (Hfr.out.drewN 1).set _ _, there_set (there_drewN hres 1) _ _ _, N, bel_set (bel_drewN hbel 1) _ (by simp) _⟩
            rw [e]
            exact (Hat.out.drewN 1).one 1 (by omega) _
          case measure => simp [intOf] <;> omega
      · go_wp2
        go_region_with (go_at_call 28; refine (at_any _ l _ _ (SW.out.drewN 1) hl (by omega) (by omega)).mono ?_; rintro e w' ⟨rfl, rfl⟩)
        all_goals
          go_wp2
          go_roundw
          case rel =>
            have e : cutW x l 7 = x.setW 1 (x.b ||| BitVec.ofNat 64 (dig l 7) <<< (48 : Nat)) := by simp [cutW, N4.wd]
            refine ⟨8, cutW x l 7, by omega, by go_num, ?_, (Hfr.out.drewN 1).set _ _, there_set (there_drewN hres 1) _ _ _, N, bel_set (bel_drewN hbel 1) _ (by simp) _⟩
            rw [e]
            exact (Hat.out.drewN 1).one 1 (by omega) _
          case measure => simp [intOf] <;> omega
      · go_wp2
        go_region_with (go_at_call 28; refine (at_any _ l _ _ (SW.out.drewN 1) hl (by omega) (by omega)).mono ?_; rintro e w' ⟨rfl, rfl⟩)
        all_goals
          go_wp2
          go_roundw
          case rel =>
            have e : cutW x l 8 = x.setW 2 (x.c ||| BitVec.ofNat 64 (dig l 8)) := by simp [cutW, N4.wd]
            refine ⟨9, cutW x l 8, by omega, by go_num, ?_, (Hfr.out.drewN 1).set _ _, there_set (there_drewN hres 1) _ _ _, N, bel_set (bel_drewN hbel 1) _ (by simp) _⟩
            rw [e]
            exact (Hat.out.drewN 1).one 2 (by omega) _
          case measure => simp [intOf] <;> omega
      · go_wp2
        go_region_with (go_at_call 28; refine (at_any _ l _ _ (SW.out.drewN 1) hl (by omega) (by omega)).mono ?_; rintro e w' ⟨rfl, rfl⟩)
        all_goals
          go_wp2
          go_roundw
          case rel =>
            have e : cutW x l 9 = x.setW 2 (x.c ||| BitVec.ofNat 64 (dig l 9) <<< (16 : Nat)) := by simp [cutW, N4.wd]
            refine ⟨10, cutW x l 9, by omega, by go_num, ?_, (Hfr.out.drewN 1).set _ _, there_set (there_drewN hres 1) _ _ _, N, bel_set (bel_drewN hbel 1) _ (by simp) _⟩
            rw [e]
            exact (Hat.out.drewN 1).one 2 (by omega) _
          case measure => simp [intOf] <;> omega
      · go_wp2
        go_region_with (go_at_call 28; refine (at_any _ l _ _ (SW.out.drewN 1) hl (by omega) (by omega)).mono ?_; rintro e w' ⟨rfl, rfl⟩)
        all_goals
          go_wp2
          go_roundw
          case rel =>
            have e : cutW x l 10 = x.setW 2 (x.c ||| BitVec.ofNat 64 (dig l 10) <<< (32 : Nat)) := by simp [cutW, N4.wd]
            refine ⟨11, cutW x l 10, by omega, by go_num, ?_, (Hfr.out.drewN 1).set _ _, there_set (there_drewN hres 1) _ _ _, N, bel_set (bel_drewN hbel 1) _ (by simp) _⟩
            rw [e]
            exact (Hat.out.drewN 1).one 2 (by omega) _
          case measure => simp [intOf] <;> omega
      · go_wp2
        go_region_with (go_at_call 28; refine (at_any _ l _ _ (SW.out.drewN 1) hl (by omega) (by omega)).mono ?_; rintro e w' ⟨rfl, rfl⟩)
        all_goals
          go_wp2
          go_roundw
          case rel =>
            have e : cutW x l 11 = x.setW 2 (x.c ||| BitVec.ofNat 64 (dig l 11) <<< (48 : Nat)) := by simp [cutW, N4.wd]
            refine ⟨12, cutW x l 11, by omega, by go_num, ?_, (Hfr.out.drewN 1).set _ _, there_set (there_drewN hres 1) _ _ _, N, bel_set (bel_drewN hbel 1) _ (by simp) _⟩
            rw [e]
            exact (Hat.out.drewN 1).one 2 (by omega) _
          case measure => simp [intOf] <;> omega
      · go_wp2
        go_region_with (go_at_call 28; refine (at_any _ l _ _ (SW.out.drewN 1) hl (by omega) (by omega)).mono ?_; rintro e w' ⟨rfl, rfl⟩)
        all_goals
          go_wp2
          go_roundw
          case rel =>
            have e : cutW x l 12 = x.setW 3 (x.d ||| BitVec.ofNat 64 (dig l 12)) := by simp [cutW, N4.wd]
            refine ⟨13, cutW x l 12, by omega, by go_num, ?_, (Hfr.out.drewN 1).set _ _, there_set (there_drewN hres 1) _ _ _, N, bel_set (bel_drewN hbel 1) _ (by simp) _⟩
            rw [e]
            exact (Hat.out.drewN 1).one 3 (by omega) _
          case measure => simp [intOf] <;> omega
      · go_wp2
        go_region_with (go_at_call 28; refine (at_any _ l _ _ (SW.out.drewN 1) hl (by omega) (by omega)).mono ?_; rintro e w' ⟨rfl, rfl⟩)
        all_goals
          go_wp2
          go_roundw
          case rel =>
            have e : cutW x l 13 = x.setW 3 (x.d ||| BitVec.ofNat 64 (dig l 13) <<< (16 : Nat)) := by simp [cutW, N4.wd]
            refine ⟨14, cutW x l 13, by omega, by go_num, ?_, (Hfr.out.drewN 1).set _ _, there_set (there_drewN hres 1) _ _ _, N, bel_set (bel_drewN hbel 1) _ (by simp) _⟩
            rw [e]
            exact (Hat.out.drewN 1).one 3 (by omega) _
          case measure => simp [intOf] <;> omega
      · go_wp2
        go_region_with (go_at_call 28; refine (at_any _ l _ _ (SW.out.drewN 1) hl (by omega) (by omega)).mono ?_; rintro e w' ⟨rfl, rfl⟩)
        all_goals
          go_wp2
          go_roundw
          case rel =>
            have e : cutW x l 14 = x.setW 3 (x.d ||| BitVec.ofNat 64 (dig l 14) <<< (32 : Nat)) := by simp [cutW, N4.wd]
            refine ⟨15, cutW x l 14, by omega, by go_num, ?_, (Hfr.out.drewN 1).set _ _, there_set (there_drewN hres 1) _ _ _, N, bel_set (bel_drewN hbel 1) _ (by simp) _⟩
            rw [e]
            exact (Hat.out.drewN 1).one 3 (by omega) _
          case measure => simp [intOf] <;> omega
      · go_wp2
        go_region_with (go_at_call 28; refine (at_any _ l _ _ (SW.out.drewN 1) hl (by omega) (by omega)).mono ?_; rintro e w' ⟨rfl, rfl⟩)
        all_goals
          go_wp2
          go_roundw
          case rel =>
            have e : cutW x l 15 = x.setW 3 (x.d ||| BitVec.ofNat 64 (dig l 15) <<< (48 : Nat)) := by simp [cutW, N4.wd]
            refine ⟨16, cutW x l 15, by omega, by go_num, ?_, (Hfr.out.drewN 1).set _ _, there_set (there_drewN hres 1) _ _ _, N, bel_set (bel_drewN hbel 1) _ (by simp) _⟩
            rw [e]
            exact (Hat.out.drewN 1).one 3 (by omega) _
          case measure => simp [intOf] <;> omega
    · obtain rfl : i = 16 := by omega
      have E : Hid (ofN (val l) = x) := (eq_ofN (by rw [HX.out, val_mod hd])).symm
      obtain ⟨a0, a1, a2, a3⟩ := hat
      simp only [Nat.zero_add] at a1 a2 a3
      clear HX hfr
      go_wp2_with (refine wpList_store_mid rfl 24 _ _ rfl w.heap.size 0 [V x.a, V x.b, V x.c, V x.d].toArray rfl rfl hres (by kernel_rfl) (by simp [Value.oneCell']) ?_)
      rw [E.out]
      exact retBel_row rfl rfl w.heap.size [V x.a, V x.b, V x.c, V x.d] _ rfl (World.rangeAt_setCells_same wr _ 0 _ hres) Tryd.underlying24 rfl (by kernel_rfl) rfl (setCells_bel hbel (Nat.le_refl _))
end Go.Proofs.YtfaocjcpnjmfiaaDoor
