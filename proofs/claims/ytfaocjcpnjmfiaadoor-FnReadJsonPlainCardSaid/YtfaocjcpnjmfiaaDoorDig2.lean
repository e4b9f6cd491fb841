/-
  The reference's Plus, by what its digits are worth.
-/
import Derived.Test.YtfaocjcpnjmfiaaDoorVal
namespace Go.Proofs.YtfaocjcpnjmfiaaDoor
set_option maxRecDepth 20000
open Go.RowKit
set_option linter.unusedVariables false
/-- What v leads to lies from block base on. -/
def From (base : Nat) (v : Value) : Prop := ∀ k, v.ownBlock = some k → base ≤ k
theorem From.of_own {w : World} {base e n : Nat} {v : Value} {xs : List Value} (h : w.ownsRow base e 1 v n xs) : From base v := fun k hk => (h.lt k hk).1
/-- A new slice of digits that is worth n, of at most L digits. -/
def RetVal (n L : Nat) (w : World) (e : Ending) (w' : World) : Prop := ∃ v l, e = .returned v ∧ (Sl w' v l ∧ From w.heap.size v) ∧ Digits l ∧ val l = n ∧ l.length ≤ L ∧ Below w.heap.size w w'
theorem ints_snoc (l : List Nat) (d : Nat) : ints (l ++ [d]) = ints l ++ [.int .i64 (d : Int)] := by simp [ints]
theorem Digits.snoc {l : List Nat} (h : Digits l) {d : Nat} (hd : d < 65536) : Digits (l ++ [d]) := by
  intro x hx
  simp at hx
  rcases hx with hx | rfl
  · exact h x hx
  · exact hd
theorem dig_snoc_lt {l : List Nat} {d i : Nat} (h : i < l.length) : dig (l ++ [d]) i = dig l i := by
  unfold dig; rw [List.getD_eq_getElem?_getD, List.getD_eq_getElem?_getD, List.getElem?_append_left h]
theorem dig_snoc_eq {l : List Nat} {d : Nat} : dig (l ++ [d]) l.length = d := by
  unfold dig; rw [List.getD_eq_getElem?_getD]; simp
theorem vlow_snoc {l : List Nat} {d n : Nat} (h : n ≤ l.length) : vlow (l ++ [d]) n = vlow l n := by
  induction n with
  | zero => rfl
  | succ n ih => rw [vlow, vlow, ih (by omega), dig_snoc_lt (by omega)]
theorem val_snoc (l : List Nat) (d : Nat) : val (l ++ [d]) = val l + 65536 ^ l.length * d := by
  unfold val
  rw [show (l ++ [d]).length = l.length + 1 by simp, vlow, vlow_snoc (Nat.le_refl _), dig_snoc_eq]
theorem plus_step (o a b : List Nat) (i r s : Nat) (ho : o.length = i) (h : val o + 65536 ^ i * r = vlow a i + vlow b i) (hs : s = r + dig a i + dig b i) :
    val (o ++ [s % 65536]) + 65536 ^ (i + 1) * (s / 65536) = vlow a (i + 1) + vlow b (i + 1) := by
  subst ho
  rw [val_snoc, vlow, vlow, Nat.pow_succ]
  have e : 65536 ^ o.length * (s % 65536) + 65536 ^ o.length * 65536 * (s / 65536) = 65536 ^ o.length * s := by
    rw [Nat.mul_assoc, ← Nat.mul_add, Nat.mod_add_div]
  have e2 : 65536 ^ o.length * s = 65536 ^ o.length * r + 65536 ^ o.length * dig a o.length + 65536 ^ o.length * dig b o.length := by
    rw [hs, Nat.mul_add, Nat.mul_add]
  omega
theorem Tryd.infoInt' : (Tryd.prog.info? 3).map (fun i => (i.zero, i.size, i.bytes)) = some (some (.int .i64 0), 1, 8) := by kernel_rfl
set_option maxHeartbeats 2000000 in
theorem plus_any (va vb : Value) (a b : List Nat) (w : World) (sa : Sl w va a) (sb : Sl w vb b) (da : Digits a) (db : Digits b) (la : a.length ≤ 400000) (lb : b.length ≤ 400000) :
    Calls Tryd.prog 16 #[va, vb] w (RetVal (val a + val b) (max a.length b.length + 1) w) := by
  obtain ⟨i0, hi, hz0, hz1, hz2⟩ := info_parts Tryd.infoInt'
  have Sa := Lib.hid sa
  have Sb := Lib.hid sb
  obtain ⟨A, ca, rfl, _, _⟩ := sa
  obtain ⟨B, cb, rfl, _, _⟩ := sb
  obtain ⟨n, hn⟩ : ∃ n, n = a.length := ⟨_, rfl⟩
  obtain ⟨m, hm⟩ : ∃ m, m = b.length := ⟨_, rfl⟩
  rw [← hn] at la
  rw [← hm] at lb
  rw [← hn] at Sa
  rw [← hm] at Sb
  rw [← hn, ← hm]
  have Hn := Lib.hid hn
  have Hm := Lib.hid hm
  clear hn hm
  go_enter Tryd.func16, Tryd.ntmps16
  go_wp2
  have hown0 : (w.alloc (Obj.cells #[] 3)).ownsRow w.heap.size 3 1 (.slice (some ⟨w.heap.size, 0, none⟩) 0 0) 0 (ints []) := World.ownsRow_made (base := w.heap.size) (e := 3) (size := 1) w #[] 0 (Nat.le_refl _) (Nat.zero_le _) rfl
  go_loopw [5, 6, 7] (fun v t u wr => ∃ (o : List Nat) (r i : Nat), t = .int .i64 (r : Int) ∧ u = .int .i64 (i : Int) ∧ wr.ownsRow w.heap.size 3 1 v i (ints o) ∧ Hid (o.length = i) ∧ Digits o ∧ r ≤ 1 ∧ i ≤ max n m + 1 ∧ (max n m < i → r < 1) ∧ Hid (val o + 65536 ^ i * r = vlow a i + vlow b i) ∧ Below w.heap.size w wr) (fun _ _ u _ => 400002 - (intOf u).toNat)
  case atStart => exact ⟨[], 0, 0, rfl, rfl, hown0, rfl, (fun d hd => absurd hd (by simp)), by omega, by omega, by omega, rfl, bel_alloc (bel_refl w) _⟩
  case round =>
    obtain ⟨o, r, i, rfl, rfl, hown, HL, hdo, hr1, hi1, hend, HV, hbel⟩ := hrel
    have SaW := Lib.hid (Sa.out.bel hbel)
    have SbW := Lib.hid (Sb.out.bel hbel)
    have d1 := dig_lt da i
    have d2 := dig_lt db i
    have hsz := hbel.size
    have st := Lib.hid (plus_step o a b i r (r + dig a i + dig b i) HL.out HV.out rfl)
    by_cases c1 : i < n
    · have e1 : decide (i < n) = true := decide_eq_true c1
      go_wp2_with (first | (go_at_call 28; (first | (with_reducible refine (at_any _ a _ _ SaW.out (by rw [← Hn.out]; omega) (by omega) (by omega)).mono ?_) | (with_reducible refine (at_any _ b _ _ SbW.out (by rw [← Hm.out]; omega) (by omega) (by omega)).mono ?_)); rintro e w' ⟨rfl, rfl⟩) | (at_builtin; refine wpList_append_own _ rfl _ _ 30 rfl w.heap.size 3 i0 (.int .i64 0) 1 8 Tryd.underlying30 hi hz0 hz1 hz2 rfl (by decide) _ _ _ rfl (hown.alloc _) ⟨wr.heap.size, 0, none⟩ 1 1 [.int .i64 (((r : Int) + (dig a i : Int) + (dig b i : Int)) % 65536)] rfl rfl ?c1 ?c2 ?c3 ?c4 ?c5 ?_))
      case c1 =>
        intro i u hu
        match i with
        | 0 => simp at hu; subst hu; simp [Addr.add, go_sem]
        | i + 1 => simp at hu
      case c2 => intro u hu; simp at hu; subst hu; rfl
      case c3 => unfold maxLen; omega
      case c4 => omega
      case c5 => simp; omega
      intro v' w2 hown2 hgrow _
      have hown3 : w2.ownsRow w.heap.size 3 1 v' (i + 1) (ints (o ++ [(r + dig a i + dig b i) % 65536])) := by rw [ints_snoc]; simpa using hown2
      have hbel3 : Below w.heap.size w w2 := (bel_alloc hbel _).grown hgrow (by simp; omega) (fun g hg => (hown.lt g hg).1)
      clear hown2 hgrow hown hbel SaW SbW
      go_wp2
      go_roundw
      case rel =>
        have HL2 : (o ++ [(r + dig a i + dig b i) % 65536]).length = i + 1 := by rw [List.length_append, HL.out]; rfl
        first | exact ⟨_, (r + dig a i + dig b i) / 65536, i + 1, by simp, by go_num, hown3, HL2, hdo.snoc (by omega), by omega, by omega, by omega, st, hbel3⟩ | ((repeat apply Exists.intro); exact ⟨⟨_, (r + dig a i + dig b i) / 65536, i + 1, by simp, by go_num, hown3, HL2, hdo.snoc (by omega), by omega, by omega, by omega, st, hbel3⟩, rfl⟩)
      case measure => simp [intOf] <;> omega
    have e1 : decide (i < n) = false := decide_eq_false c1
    by_cases c2 : i < m
    · have e2 : decide (i < m) = true := decide_eq_true c2
      go_wp2_with (first | (go_at_call 28; (first | (with_reducible refine (at_any _ a _ _ SaW.out (by rw [← Hn.out]; omega) (by omega) (by omega)).mono ?_) | (with_reducible refine (at_any _ b _ _ SbW.out (by rw [← Hm.out]; omega) (by omega) (by omega)).mono ?_)); rintro e w' ⟨rfl, rfl⟩) | (at_builtin; refine wpList_append_own _ rfl _ _ 30 rfl w.heap.size 3 i0 (.int .i64 0) 1 8 Tryd.underlying30 hi hz0 hz1 hz2 rfl (by decide) _ _ _ rfl (hown.alloc _) ⟨wr.heap.size, 0, none⟩ 1 1 [.int .i64 (((r : Int) + (dig a i : Int) + (dig b i : Int)) % 65536)] rfl rfl ?c1 ?c2 ?c3 ?c4 ?c5 ?_))
      case c1 =>
        intro i u hu
        match i with
        | 0 => simp at hu; subst hu; simp [Addr.add, go_sem]
        | i + 1 => simp at hu
      case c2 => intro u hu; simp at hu; subst hu; rfl
      case c3 => unfold maxLen; omega
      case c4 => omega
      case c5 => simp; omega
      intro v' w2 hown2 hgrow _
      have hown3 : w2.ownsRow w.heap.size 3 1 v' (i + 1) (ints (o ++ [(r + dig a i + dig b i) % 65536])) := by rw [ints_snoc]; simpa using hown2
      have hbel3 : Below w.heap.size w w2 := (bel_alloc hbel _).grown hgrow (by simp; omega) (fun g hg => (hown.lt g hg).1)
      clear hown2 hgrow hown hbel SaW SbW
      go_wp2
      go_roundw
      case rel =>
        have HL2 : (o ++ [(r + dig a i + dig b i) % 65536]).length = i + 1 := by rw [List.length_append, HL.out]; rfl
        first | exact ⟨_, (r + dig a i + dig b i) / 65536, i + 1, by simp, by go_num, hown3, HL2, hdo.snoc (by omega), by omega, by omega, by omega, st, hbel3⟩ | ((repeat apply Exists.intro); exact ⟨⟨_, (r + dig a i + dig b i) / 65536, i + 1, by simp, by go_num, hown3, HL2, hdo.snoc (by omega), by omega, by omega, by omega, st, hbel3⟩, rfl⟩)
      case measure => simp [intOf] <;> omega
    have e2 : decide (i < m) = false := decide_eq_false c2
    have z1 : dig a i ≤ 0 := by rw [dig_out (by rw [← Hn.out]; omega)]; omega
    have z2 : dig b i ≤ 0 := by rw [dig_out (by rw [← Hm.out]; omega)]; omega
    by_cases c3 : 0 < r
    · have e3 : decide ((0 : Int) < (r : Int)) = true := decide_eq_true (by omega)
      have e3' : decide (0 < r) = true := decide_eq_true c3
      go_wp2_with (first | (go_at_call 28; (first | (with_reducible refine (at_any _ a _ _ SaW.out (by rw [← Hn.out]; omega) (by omega) (by omega)).mono ?_) | (with_reducible refine (at_any _ b _ _ SbW.out (by rw [← Hm.out]; omega) (by omega) (by omega)).mono ?_)); rintro e w' ⟨rfl, rfl⟩) | (at_builtin; refine wpList_append_own _ rfl _ _ 30 rfl w.heap.size 3 i0 (.int .i64 0) 1 8 Tryd.underlying30 hi hz0 hz1 hz2 rfl (by decide) _ _ _ rfl (hown.alloc _) ⟨wr.heap.size, 0, none⟩ 1 1 [.int .i64 (((r : Int) + (dig a i : Int) + (dig b i : Int)) % 65536)] rfl rfl ?c1 ?c2 ?c3 ?c4 ?c5 ?_))
      case c1 =>
        intro i u hu
        match i with
        | 0 => simp at hu; subst hu; simp [Addr.add, go_sem]
        | i + 1 => simp at hu
      case c2 => intro u hu; simp at hu; subst hu; rfl
      case c3 => unfold maxLen; omega
      case c4 => omega
      case c5 => simp; omega
      intro v' w2 hown2 hgrow _
      have hown3 : w2.ownsRow w.heap.size 3 1 v' (i + 1) (ints (o ++ [(r + dig a i + dig b i) % 65536])) := by rw [ints_snoc]; simpa using hown2
      have hbel3 : Below w.heap.size w w2 := (bel_alloc hbel _).grown hgrow (by simp; omega) (fun g hg => (hown.lt g hg).1)
      clear hown2 hgrow hown hbel SaW SbW
      go_wp2
      go_roundw
      case rel =>
        have HL2 : (o ++ [(r + dig a i + dig b i) % 65536]).length = i + 1 := by rw [List.length_append, HL.out]; rfl
        first | exact ⟨_, (r + dig a i + dig b i) / 65536, i + 1, by simp, by go_num, hown3, HL2, hdo.snoc (by omega), by omega, by omega, by omega, st, hbel3⟩ | ((repeat apply Exists.intro); exact ⟨⟨_, (r + dig a i + dig b i) / 65536, i + 1, by simp, by go_num, hown3, HL2, hdo.snoc (by omega), by omega, by omega, by omega, st, hbel3⟩, rfl⟩)
      case measure => simp [intOf] <;> omega
    · have e3 : decide ((0 : Int) < (r : Int)) = false := decide_eq_false (by omega)
      have e3' : decide (0 < r) = false := decide_eq_false c3
      have N : Hid (val o = val a + val b) := by
        show val o = val a + val b
        have h0 : r = 0 := by omega
        have := HV.out
        rw [h0, vlow_ge (by rw [← Hn.out]; omega), vlow_ge (by rw [← Hm.out]; omega)] at this
        omega
      go_wp2
      go_ret
      refine ⟨_, o, rfl, ⟨Sl.of_own (by rw [HL.out]; exact hown), From.of_own hown⟩, hdo, N.out, by rw [HL.out]; exact hi1, hbel⟩
end Go.Proofs.YtfaocjcpnjmfiaaDoor
