/-
  The reference's words and Whole: a number as sixteen digits of sixteen bits.
-/
import Derived.Test.YtfaocjcpnjmfiaaDoorDig0
namespace Go.Proofs.YtfaocjcpnjmfiaaDoor
set_option maxRecDepth 20000
open Go.RowKit
set_option linter.unusedVariables false
theorem u64_shr16 (x : W64) (k : Nat) : Op.shift .shr .u64 (U x) .i64 (16 * (k : Int)) = pure (.int .u64 (U (x >>> (16 * k)))) := by
  rw [shift_shr_any _ _ _ _ (by omega)]
  congr 2
  unfold U
  rw [BitVec.toNat_ushiftRight, Nat.shiftRight_eq_div_pow, show (16 * (k : Int)).toNat = 16 * k by omega]
  by_cases h : 16 * k ≤ 64
  · rw [show min (16 * k) (IntKind.u64.bits) = 16 * k from Nat.min_eq_left h]
    simp
  · rw [show min (16 * k) (IntKind.u64.bits) = 64 from Nat.min_eq_right (by show 64 ≤ 16 * k; omega)]
    have h1 : x.toNat < 2 ^ (16 * k) := Nat.lt_of_lt_of_le x.isLt (Nat.pow_le_pow_right (by decide) (by omega))
    rw [Nat.div_eq_of_lt h1]
    have := x.isLt
    omega
theorem u64_and16 (x : W64) : bits BinOp.and IntKind.u64 (U x) (65535 : Int) = U (x &&& 65535#64) := u64_and x 65535#64
theorem and16_toNat (x : W64) : (x &&& 65535#64).toNat = x.toNat % 65536 := by
  rw [BitVec.toNat_and]
  exact Nat.and_two_pow_sub_one_eq_mod x.toNat 16
/-- The lowest sixteen bits. -/
def lo16 (x : W64) : Nat := x.toNat % 65536
theorem i64_and16 (x : W64) : IntKind.i64.wrap (U (x &&& 65535#64)) = (lo16 x : Int) := by
  unfold U lo16
  rw [and16_toNat, IntWalk.i64_in _ (by omega)]
/-- Digit i of a number. -/
def N4.wd (x : N4) (j : Nat) : W64 := if j = 0 then x.a else if j = 1 then x.b else if j = 2 then x.c else x.d
def N4.dg (x : N4) (i : Nat) : Nat := lo16 (x.wd (i / 4) >>> (16 * (i % 4)))
def N4.digs (x : N4) : List Nat := (List.range 16).map x.dg
theorem digs_len (x : N4) : x.digs.length = 16 := by simp [N4.digs]
theorem digs_take (x : N4) (n : Nat) (h : n < 16) : x.digs.take (n + 1) = x.digs.take n ++ [x.dg n] := by
  rw [List.take_succ_eq_append_getElem (by rw [digs_len]; exact h)]
  simp [N4.digs]
theorem digs_snoc (x : N4) (j k : Nat) (hj : j < 4) (hk : k < 4) : ints (x.digs.take (4 * j + (k + 1))) = ints (x.digs.take (4 * j + k)) ++ [.int .i64 (lo16 (x.wd j >>> (16 * k)) : Int)] := by
  rw [show 4 * j + (k + 1) = 4 * j + k + 1 by omega, digs_take x _ (by omega)]
  simp only [ints, List.map_append, List.map_cons, List.map_nil, N4.dg]
  rw [show (4 * j + k) / 4 = j by omega, show (4 * j + k) % 4 = k by omega]
theorem grown_of_bel {w w' : World} (h : Below w.heap.size w w') : w.grownBy w' none := ⟨h.os, h.tape, h.output, h.size, fun k hk _ => h.block k hk⟩
attribute [local go_sem ↓] u64_shr16
attribute [local go_sem] u64_and16 i64_and16
set_option maxHeartbeats 400000 in
theorem words_any (x : N4) (w : World) : Calls Tryd.prog 34 #[x.v] w (RetBel x.v w) := by
  go_enter Tryd.func34, Tryd.ntmps34
  go_wp2
  refine bodyPost_ret (v := x.v) (by simp [results, Tryd.results34, go_sem]) rfl (retBel rfl ?_)
  exact bel_alloc (bel_alloc (bel_refl _) _) _
theorem Tryd.infoInt : (Tryd.prog.info? 3).map (fun i => (i.zero, i.size, i.bytes)) = some (some (.int .i64 0), 1, 8) := by kernel_rfl
theorem idxWord (x : N4) (j : Nat) (hj : j < 4) (w : World) : (Instr.index 42 x.v (.int .i64 (j : Int))).run Tryd.prog w = .ok (V (x.wd j)) w := by
  rcases (by omega : j = 0 ∨ j = 1 ∨ j = 2 ∨ j = 3) with rfl | rfl | rfl | rfl
  all_goals kernel_rfl
/-- A new slice of ints. -/
def RetSl (l : List Nat) (w : World) (e : Ending) (w' : World) : Prop := ∃ v, e = .returned v ∧ Sl w' v l ∧ Below w.heap.size w w'
set_option maxRecDepth 100000 in
set_option maxHeartbeats 1000000 in
theorem whole_any (x : N4) (w : World) : Calls Tryd.prog 26 #[x.v] w (RetSl x.digs w) := by
  obtain ⟨i0, hi, hz0, hz1, hz2⟩ := info_parts Tryd.infoInt
  go_enter Tryd.func26, Tryd.ntmps26
  go_wp2_with fail
  refine (words_any x _).mono ?_
  rintro e w1 ⟨rfl, hb⟩
  have hown : w1.ownsRow w.heap.size 3 1 (.slice (some ⟨w.heap.size + 1, 0, none⟩) 0 0) 0 [] := by
    have h := (World.ownsRow_made (base := w.heap.size) (e := 3) (size := 1) (w.alloc (Obj.cells #[V x.a, V x.b, V x.c, V x.d] 24)) #[] 0 (by simp) (Nat.zero_le _) rfl).kept (grown_of_bel hb) (.inr (by simp [Value.ownBlock]))
    simpa using h
  have hbel : Below w.heap.size w w1 := bel_trans (bel_alloc (bel_alloc (bel_refl w) _) _) hb
  clear hb
  go_wp2
  go_loopw [3, 10] (fun v t wr => ∃ j : Nat, j ≤ 4 ∧ t = .int .i64 (j : Int) ∧ wr.ownsRow w.heap.size 3 1 v (4 * j) (ints (x.digs.take (4 * j))) ∧ Below w.heap.size w wr) (fun _ t _ => 4 - (intOf t).toNat)
  case atStart => exact ⟨0, by omega, rfl, by simpa [ints] using hown, hbel⟩
  case round =>
    obtain ⟨j, hj, rfl, hown, hbel⟩ := hrel
    obtain ⟨wo, rfl⟩ : ∃ wo : World, wo = wr := ⟨_, rfl⟩
    by_cases hlt : j < 4
    · have hix := idxWord x j hlt
      have hd4 : decide ((j : Int) < 4) = true := decide_eq_true (by omega)
      go_wp2
      go_loopw [3, 6] (fun v t wr => ∃ k : Nat, k ≤ 4 ∧ t = .int .i64 (k : Int) ∧ wr.ownsRow w.heap.size 3 1 v (4 * j + k) (ints (x.digs.take (4 * j + k))) ∧ Below w.heap.size w wr) (fun _ t _ => 4 - (intOf t).toNat)
      case atStart => exact ⟨0, by omega, rfl, hown, hbel⟩
      case round =>
        obtain ⟨k, hk, rfl, hown, hbel⟩ := hrel
        by_cases hlk : k < 4
        · have hsz := hbel.size
          have D := Lib.hid (digs_snoc x j k hlt hlk)
          go_wp2_with (at_builtin; refine wpList_append_own _ rfl _ _ 30 rfl w.heap.size 3 i0 (.int .i64 0) 1 8 Tryd.underlying30 hi hz0 hz1 hz2 rfl (by decide) _ _ _ rfl (hown.alloc _) ⟨wr.heap.size, 0, none⟩ 1 1 [.int .i64 (lo16 (x.wd j >>> (16 * k)) : Int)] rfl rfl ?c1 ?c2 ?c3 ?c4 ?c5 ?_)
          case c1 =>
            intro i u hu
            match i with
            | 0 => simp at hu; subst hu; simp [Addr.add, go_sem]
            | i + 1 => simp at hu
          case c2 => intro u hu; simp at hu; subst hu; rfl
          case c3 => unfold maxLen; omega
          case c4 => omega
          case c5 => simp; omega
          intro v' w2 hown2 hgrow _
          have hown3 : w2.ownsRow w.heap.size 3 1 v' (4 * j + (k + 1)) (ints (x.digs.take (4 * j + (k + 1)))) := by rw [D.out]; exact hown2
          have hbel3 : Below w.heap.size w w2 := (bel_alloc hbel _).grown hgrow (by simp; omega) (fun g hg => (hown.lt g hg).1)
          clear hown2 hgrow hown hbel D
          go_wp2
          go_roundw
          case rel => first | exact ⟨k + 1, by omega, by go_num, hown3, hbel3⟩ | ((repeat apply Exists.intro); exact ⟨⟨k + 1, by omega, by go_num, hown3, hbel3⟩, rfl⟩)
          case measure => simp [intOf] <;> omega
        · obtain rfl : k = 4 := by omega
          go_wp2
          go_roundw
          case rel => first | exact ⟨j + 1, by omega, by go_num, hown, hbel⟩ | ((repeat apply Exists.intro); exact ⟨⟨j + 1, by omega, by go_num, hown, hbel⟩, rfl⟩)
          case measure => simp [intOf] <;> omega
    · obtain rfl : j = 4 := by omega
      go_wp2
      go_ret
      have hd : x.digs.take (4 * 4) = x.digs := List.take_of_length_le (by rw [digs_len]; omega)
      rw [hd] at hown
      exact ⟨_, rfl, Sl.of_own (by rw [digs_len]; exact hown), hbel⟩
end Go.Proofs.YtfaocjcpnjmfiaaDoor
