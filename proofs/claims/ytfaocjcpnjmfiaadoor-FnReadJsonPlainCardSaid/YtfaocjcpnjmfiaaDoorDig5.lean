/-
  Digits by what they are worth (Dg); the reference's Minus and Power.
-/
import Derived.Test.YtfaocjcpnjmfiaaDoorDig4
namespace Go.Proofs.YtfaocjcpnjmfiaaDoor
set_option maxRecDepth 20000
open Go.RowKit
set_option linter.unusedVariables false
/-- The value v is a slice of at most L digits that is worth n. -/
def Dg (w : World) (v : Value) (n L : Nat) : Prop := ∃ l, Sl w v l ∧ Digits l ∧ val l = n ∧ l.length ≤ L
theorem Dg.bel {w w' : World} {v : Value} {n L : Nat} (h : Dg w v n L) (k : Below w.heap.size w w') : Dg w' v n L := by
  obtain ⟨l, h1, h2⟩ := h; exact ⟨l, h1.bel k, h2⟩
theorem Dg.drewN {w : World} {v : Value} {n L : Nat} (h : Dg w v n L) (m : Nat) : Dg (w.drewN m) v n L := h
theorem Dg.le {w : World} {v : Value} {n L M : Nat} (h : Dg w v n L) (k : L ≤ M) : Dg w v n M := by
  obtain ⟨l, h1, h2, h3, h4⟩ := h; exact ⟨l, h1, h2, h3, by omega⟩
theorem Dg.eq {w : World} {v : Value} {n m L : Nat} (h : Dg w v n L) (k : n = m) : Dg w v m L := k ▸ h
/-- A new slice of digits that is worth n. -/
def RetDg (n L : Nat) (w : World) (e : Ending) (w' : World) : Prop := ∃ v, e = .returned v ∧ Dg w' v n L ∧ Below w.heap.size w w'
/-- .. in memory of its own. -/
def RetDgF (n L : Nat) (w : World) (e : Ending) (w' : World) : Prop := ∃ v, e = .returned v ∧ Dg w' v n L ∧ Below w.heap.size w w' ∧ From w.heap.size v
theorem RetDg.of {n L : Nat} {w : World} {e : Ending} {w' : World} (h : RetVal n L w e w') : RetDg n L w e w' := by
  obtain ⟨v, l, h1, h2, h3, h4, h5, h6⟩ := h; exact ⟨v, h1, ⟨l, h2.1, h3, h4, h5⟩, h6⟩
theorem Dg.far {w : World} {v : Value} {n L b o : Nat} {u : Value} (h : Dg w v n L) (hf : ∀ k, v.ownBlock = some k → k ≠ b) : Dg (w.setCell ⟨b, o, none⟩ u) v n L := by
  obtain ⟨l, ⟨A, cap, e, hc, h1⟩, h2⟩ := h
  refine ⟨l, ⟨A, cap, e, hc, fun i d hd => ?_⟩, h2⟩
  obtain ⟨b', o', e1, h3⟩ := h1 i d hd
  refine ⟨b', o', e1, (World.cell?_setCell_other _ _ _ _ (fun e2 => ?_)).trans h3⟩
  injection e2 with e2
  exact hf b' (by rw [e, e1]; rfl) e2.symm
theorem Dg.nil (w : World) : Dg w (.slice none 0 0) 0 0 := ⟨[], Sl.nil w, fun d hd => absurd hd (by simp), rfl, Nat.le_refl _⟩
theorem Dg.lt {w : World} {v : Value} {n L : Nat} (h : Dg w v n L) : n < 65536 ^ L := by
  obtain ⟨l, h1, h2, h3, h4⟩ := h
  rw [← h3, ← vlow_ge h4]; exact vlow_lt h2 L
theorem whole_dg (x : N4) (w : World) : Calls Tryd.prog 26 #[x.v] w (RetDg x.toNat 16 w) :=
  (whole_any x w).mono fun e w' ⟨v, h1, h2, h3⟩ => ⟨v, h1, ⟨x.digs, h2, digs_digits x, val_digs x, by rw [digs_len]; exact Nat.le_refl _⟩, h3⟩
theorem cut_dg (v : Value) (n L : Nat) (w : World) (h : Dg w v n L) (hL : L ≤ 100000) : Calls Tryd.prog 18 #[v] w (RetBel (ofN n).v w) := by
  obtain ⟨l, h1, h2, rfl, h4⟩ := h
  exact cut_any v l w h1 h2 (by omega)
theorem fits_dg (v : Value) (n L : Nat) (w : World) (h : Dg w v n L) (hL : L ≤ 100000) : Calls Tryd.prog 15 #[v] w fun e w' => e = .returned (.bool (decide (n < 2 ^ 256))) ∧ w = w' := by
  obtain ⟨l, h1, h2, rfl, h4⟩ := h
  exact fits_any v l w h1 h2 (by omega)
/-- Comparison. -/
def cmpN (a b : Nat) : Int := if a < b then -1 else if a = b then 0 else 1
theorem compare_dg (v u : Value) (a b L M : Nat) (w : World) (h : Dg w v a L) (k : Dg w u b M) (hL : L ≤ 100000) (hM : M ≤ 100000) :
    Calls Tryd.prog 36 #[v, u] w fun e w' => e = .returned (.int .i64 (cmpN a b)) ∧ w = w' := by
  obtain ⟨l, h1, h2, rfl, h4⟩ := h
  obtain ⟨m, k1, k2, rfl, k4⟩ := k
  exact (compare_any v u l m w h1 k1 (by omega) (by omega)).mono fun e w' ⟨he, hw⟩ => ⟨by rw [he, compare_eq h2 k2]; rfl, hw⟩
theorem dig_val {l : List Nat} (h : Digits l) (i : Nat) : dig l i = val l / 65536 ^ i % 65536 := by
  rcases Nat.lt_or_ge i l.length with hi | hi
  · obtain ⟨k, hk⟩ : ∃ k, l.length = i + 1 + k := ⟨l.length - (i + 1), by omega⟩
    have h1 : val l % 65536 ^ (i + 1) = vlow l (i + 1) := by unfold val; rw [hk]; exact vlow_mod h (i + 1) k
    have h2 := vlow_lt h i
    have h3 := dig_lt h i
    rw [vlow] at h1
    have h4 : val l / 65536 ^ i % 65536 = val l % 65536 ^ (i + 1) / 65536 ^ i := by
      rw [Nat.pow_succ, Nat.mod_mul_right_div_self]
    rw [h4, h1, Nat.add_mul_div_left _ _ (Nat.pow_pos (by decide)), Nat.div_eq_of_lt h2, Nat.zero_add]
  · rw [dig_out hi]
    have h2 := vlow_lt h i
    rw [vlow_ge hi] at h2
    rw [Nat.div_eq_of_lt h2]
theorem at_dg (v : Value) (n L : Nat) (i : Int) (w : World) (h : Dg w v n L) (hL : L ≤ 100000) (h0 : 0 ≤ i) (h1 : i ≤ 1000000) :
    Calls Tryd.prog 28 #[v, .int .i64 i] w fun e w' => e = .returned (.int .i64 ((n / 65536 ^ i.toNat % 65536 : Nat) : Int)) ∧ w = w' := by
  obtain ⟨l, k1, k2, rfl, k4⟩ := h
  exact (at_any v l i w k1 (by omega) h0 h1).mono fun e w' ⟨he, hw⟩ => ⟨by rw [he, dig_val k2], hw⟩
theorem plus_dg (v u : Value) (a b L M : Nat) (w : World) (h : Dg w v a L) (k : Dg w u b M) (hL : L ≤ 100000) (hM : M ≤ 100000) :
    Calls Tryd.prog 16 #[v, u] w (RetDg (a + b) (max L M + 1) w) := by
  obtain ⟨l, h1, h2, rfl, h4⟩ := h
  obtain ⟨m, k1, k2, rfl, k4⟩ := k
  exact (plus_any v u l m w h1 k1 h2 k2 (by omega) (by omega)).mono fun e w' ⟨v, o, q1, q2, q3, q4, q5, q6⟩ => ⟨v, q1, ⟨o, q2.1, q3, q4, by omega⟩, q6⟩
theorem plus_dgF (v u : Value) (a b L M : Nat) (w : World) (h : Dg w v a L) (k : Dg w u b M) (hL : L ≤ 100000) (hM : M ≤ 100000) :
    Calls Tryd.prog 16 #[v, u] w (RetDgF (a + b) (max L M + 1) w) := by
  obtain ⟨l, h1, h2, rfl, h4⟩ := h
  obtain ⟨m, k1, k2, rfl, k4⟩ := k
  exact (plus_any v u l m w h1 k1 h2 k2 (by omega) (by omega)).mono fun e w' ⟨v, o, q1, q2, q3, q4, q5, q6⟩ => ⟨v, q1, ⟨o, q2.1, q3, q4, by omega⟩, q6, q2.2⟩
theorem minus_step (o a b : List Nat) (i r d q : Nat) (ho : o.length = i) (h : val o + 65536 ^ i * 0 + vlow b i = vlow a i + 65536 ^ i * r) (hs : d + dig b i + r = dig a i + 65536 * q) :
    val (o ++ [d]) + 65536 ^ (i + 1) * 0 + vlow b (i + 1) = vlow a (i + 1) + 65536 ^ (i + 1) * q := by
  subst ho
  rw [val_snoc, vlow, vlow, Nat.pow_succ]
  have e : 65536 ^ o.length * (d + dig b o.length + r) = 65536 ^ o.length * (dig a o.length + 65536 * q) := by rw [hs]
  rw [Nat.mul_add, Nat.mul_add, Nat.mul_add, ← Nat.mul_assoc] at e
  omega
theorem minus_end (o a b : List Nat) (i r : Nat) (ho : o.length = i) (hd : Digits o) (h : val o + 65536 ^ i * 0 + vlow b i = vlow a i + 65536 ^ i * r) (hr : r ≤ 1) (ha : a.length ≤ i) (hb : b.length ≤ i) (hle : val b ≤ val a) : val o = val a - val b := by
  rw [vlow_ge ha, vlow_ge hb] at h
  have h1 : val o < 65536 ^ i := by have := vlow_lt hd i; rw [vlow_ge (by omega)] at this; exact this
  rcases (by omega : r = 0 ∨ r = 1) with rfl | rfl
  · omega
  · rw [Nat.mul_one] at h; omega
theorem Tryd.infoInt5 : (Tryd.prog.info? 3).map (fun i => (i.zero, i.size, i.bytes)) = some (some (.int .i64 0), 1, 8) := by kernel_rfl
set_option maxHeartbeats 4000000 in
theorem minus_any (va vb : Value) (a b : List Nat) (w : World) (sa : Sl w va a) (sb : Sl w vb b) (da : Digits a) (db : Digits b) (la : a.length ≤ 100000) (lb : b.length ≤ 100000) (hle : val b ≤ val a) :
    Calls Tryd.prog 37 #[va, vb] w (RetVal (val a - val b) (max a.length b.length) w) := by
  obtain ⟨i0, hi, hz0, hz1, hz2⟩ := info_parts Tryd.infoInt5
  have Sa := Lib.hid sa
  have Sb := Lib.hid sb
  have LE := Lib.hid hle
  clear hle
  obtain ⟨A, ca, rfl, _, _⟩ := sa
  obtain ⟨B, cb, rfl, _, _⟩ := sb
  obtain ⟨n, hn⟩ : ∃ n, n = a.length := ⟨_, rfl⟩
  obtain ⟨m, hm⟩ : ∃ m, m = b.length := ⟨_, rfl⟩
  rw [← hn] at la
  rw [← hm] at lb
  rw [← hn] at Sa
  rw [← hm] at Sb
  rw [← hn, ← hm]
  have Hn := Lib.hid hn
  have Hm := Lib.hid hm
  clear hn hm
  go_enter Tryd.func37, Tryd.ntmps37
  go_wp2
  have hown0 : (w.alloc (Obj.cells #[] 3)).ownsRow w.heap.size 3 1 (.slice (some ⟨w.heap.size, 0, none⟩) 0 0) 0 (ints []) := World.ownsRow_made (base := w.heap.size) (e := 3) (size := 1) w #[] 0 (Nat.le_refl _) (Nat.zero_le _) rfl
  go_loopw [5, 6, 7, 8] (fun v t u x wr => ∃ (o : List Nat) (r i : Nat) (q : Value), x = q ∧ t = .int .i64 (r : Int) ∧ u = .int .i64 (i : Int) ∧ wr.ownsRow w.heap.size 3 1 v i (ints o) ∧ Hid (o.length = i) ∧ Digits o ∧ r ≤ 1 ∧ i ≤ max n m ∧ Hid (val o + 65536 ^ i * 0 + vlow b i = vlow a i + 65536 ^ i * r) ∧ Below w.heap.size w wr) (fun _ _ u _ _ => 100002 - (intOf u).toNat)
  case atStart => exact ⟨[], 0, 0, _, rfl, rfl, rfl, hown0, rfl, (fun d hd => absurd hd (by simp)), by omega, by omega, rfl, bel_alloc (bel_refl w) _⟩
  case round =>
    obtain ⟨o, r, i, q, rfl, rfl, rfl, hown, HL, hdo, hr1, hi1, HV, hbel⟩ := hrel
    have SaW := Lib.hid (Sa.out.bel hbel)
    have SbW := Lib.hid (Sb.out.bel hbel)
    have d1 := dig_lt da i
    have d2 := dig_lt db i
    have hsz := hbel.size
    have st := Lib.hid (fun d q => minus_step o a b i r d q HL.out HV.out)
    by_cases c1 : i < n ∨ i < m
    · have hw1 : (decide (i < n) = true) ∨ (decide (i < n) = false ∧ decide (i < m) = true) := by
        by_cases h : i < n
        · exact .inl (decide_eq_true h)
        · exact .inr ⟨decide_eq_false h, decide_eq_true (by omega)⟩
      by_cases cb : dig a i < dig b i + r
      · obtain ⟨D, hD⟩ : ∃ D, D = dig a i + 65536 - dig b i - r := ⟨_, rfl⟩
        have hDv : ((dig a i : Int) - (dig b i : Int) - (r : Int) + 65536) = (D : Int) := by omega
        have HD := Lib.hid hD
        have HDv := Lib.hid hDv
        have cbI : (dig a i : Int) - (dig b i : Int) - (r : Int) < 0 := by omega
        have hDl : D < 65536 := by omega
        clear hD hDv
        rcases hw1 with e1 | ⟨e1, e2⟩
        all_goals
          go_wp2_with (first | (go_at_call 28; (first | (with_reducible refine (at_any _ a _ _ SaW.out (by rw [← Hn.out]; omega) (by omega) (by omega)).mono ?_) | (with_reducible refine (at_any _ b _ _ SbW.out (by rw [← Hm.out]; omega) (by omega) (by omega)).mono ?_)); rintro e w' ⟨rfl, rfl⟩) | (at_builtin; refine wpList_append_own _ rfl _ _ 30 rfl w.heap.size 3 i0 (.int .i64 0) 1 8 Tryd.underlying30 hi hz0 hz1 hz2 rfl (by decide) _ _ _ rfl (hown.alloc _) ⟨wr.heap.size, 0, none⟩ 1 1 [.int .i64 ((dig a i : Int) - (dig b i : Int) - (r : Int) + 65536)] rfl rfl ?_ ?_ ?_ ?_ ?_ ?_))
          · intro i u hu
            match i with
            | 0 => simp at hu; subst hu; simp [Addr.add, go_sem]
            | i + 1 => simp at hu
          · intro u hu; simp at hu; subst hu; rfl
          · unfold maxLen; omega
          · omega
          · simp; omega
          intro v' w2 hown2 hgrow _
          have hown3 : w2.ownsRow w.heap.size 3 1 v' (i + 1) (ints (o ++ [D])) := by rw [ints_snoc, ← HDv.out]; exact hown2
          have hbel3 : Below w.heap.size w w2 := (bel_alloc hbel _).grown hgrow (by simp; omega) (fun g hg => (hown.lt g hg).1)
          have ST := Lib.hid (st.out D 1 (by have := HD.out; omega))
          clear hown2 hgrow hown hbel SaW SbW st
          go_wp2
          go_roundw
          case rel =>
            have HL2 : (o ++ [D]).length = i + 1 := by rw [List.length_append, HL.out]; rfl
            first | exact ⟨_, 1, i + 1, _, rfl, rfl, by go_num, hown3, HL2, hdo.snoc hDl, by omega, by omega, ST, hbel3⟩ | ((repeat apply Exists.intro); exact ⟨⟨_, 1, i + 1, _, rfl, rfl, by go_num, hown3, HL2, hdo.snoc hDl, by omega, by omega, ST, hbel3⟩, rfl⟩)
          case measure => simp [intOf] <;> omega
      · obtain ⟨D, hD⟩ : ∃ D, D = dig a i - dig b i - r := ⟨_, rfl⟩
        have hDv : ((dig a i : Int) - (dig b i : Int) - (r : Int)) = (D : Int) := by omega
        have HD := Lib.hid hD
        have HDv := Lib.hid hDv
        have cbI : ¬ (dig a i : Int) - (dig b i : Int) - (r : Int) < 0 := by omega
        have hDl : D < 65536 := by omega
        clear hD hDv
        rcases hw1 with e1 | ⟨e1, e2⟩
        all_goals
          go_wp2_with (first | (go_at_call 28; (first | (with_reducible refine (at_any _ a _ _ SaW.out (by rw [← Hn.out]; omega) (by omega) (by omega)).mono ?_) | (with_reducible refine (at_any _ b _ _ SbW.out (by rw [← Hm.out]; omega) (by omega) (by omega)).mono ?_)); rintro e w' ⟨rfl, rfl⟩) | (at_builtin; refine wpList_append_own _ rfl _ _ 30 rfl w.heap.size 3 i0 (.int .i64 0) 1 8 Tryd.underlying30 hi hz0 hz1 hz2 rfl (by decide) _ _ _ rfl (hown.alloc _) ⟨wr.heap.size, 0, none⟩ 1 1 [.int .i64 ((dig a i : Int) - (dig b i : Int) - (r : Int))] rfl rfl ?_ ?_ ?_ ?_ ?_ ?_))
          · intro i u hu
            match i with
            | 0 => simp at hu; subst hu; simp [Addr.add, go_sem]
            | i + 1 => simp at hu
          · intro u hu; simp at hu; subst hu; rfl
          · unfold maxLen; omega
          · omega
          · simp; omega
          intro v' w2 hown2 hgrow _
          have hown3 : w2.ownsRow w.heap.size 3 1 v' (i + 1) (ints (o ++ [D])) := by rw [ints_snoc, ← HDv.out]; exact hown2
          have hbel3 : Below w.heap.size w w2 := (bel_alloc hbel _).grown hgrow (by simp; omega) (fun g hg => (hown.lt g hg).1)
          have ST := Lib.hid (st.out D 0 (by have := HD.out; omega))
          clear hown2 hgrow hown hbel SaW SbW st
          go_wp2
          go_roundw
          case rel =>
            have HL2 : (o ++ [D]).length = i + 1 := by rw [List.length_append, HL.out]; rfl
            first | exact ⟨_, 0, i + 1, _, rfl, rfl, by go_num, hown3, HL2, hdo.snoc hDl, by omega, by omega, ST, hbel3⟩ | ((repeat apply Exists.intro); exact ⟨⟨_, 0, i + 1, _, rfl, rfl, by go_num, hown3, HL2, hdo.snoc hDl, by omega, by omega, ST, hbel3⟩, rfl⟩)
          case measure => simp [intOf] <;> omega
    · have e1 : decide (i < n) = false := decide_eq_false (by omega)
      have e2 : decide (i < m) = false := decide_eq_false (by omega)
      have N : Hid (val o = val a - val b) := minus_end o a b i r HL.out hdo HV.out hr1 (by rw [← Hn.out]; omega) (by rw [← Hm.out]; omega) LE.out
      clear st
      go_wp2
      go_ret
      refine ⟨_, o, rfl, ⟨Sl.of_own (by rw [HL.out]; exact hown), From.of_own hown⟩, hdo, N.out, by rw [HL.out]; exact hi1, hbel⟩
theorem minus_dg (v u : Value) (a b L M : Nat) (w : World) (h : Dg w v a L) (k : Dg w u b M) (hL : L ≤ 100000) (hM : M ≤ 100000) (hle : b ≤ a) :
    Calls Tryd.prog 37 #[v, u] w (RetDg (a - b) (max L M) w) := by
  obtain ⟨l, h1, h2, rfl, h4⟩ := h
  obtain ⟨m, k1, k2, rfl, k4⟩ := k
  exact (minus_any v u l m w h1 k1 h2 k2 (by omega) (by omega) hle).mono fun e w' ⟨v, o, q1, q2, q3, q4, q5, q6⟩ => ⟨v, q1, ⟨o, q2.1, q3, q4, by omega⟩, q6⟩
theorem minus_dgF (v u : Value) (a b L M : Nat) (w : World) (h : Dg w v a L) (k : Dg w u b M) (hL : L ≤ 100000) (hM : M ≤ 100000) (hle : b ≤ a) :
    Calls Tryd.prog 37 #[v, u] w (RetDgF (a - b) (max L M) w) := by
  obtain ⟨l, h1, h2, rfl, h4⟩ := h
  obtain ⟨m, k1, k2, rfl, k4⟩ := k
  exact (minus_any v u l m w h1 k1 h2 k2 (by omega) (by omega) hle).mono fun e w' ⟨v, o, q1, q2, q3, q4, q5, q6⟩ => ⟨v, q1, ⟨o, q2.1, q3, q4, by omega⟩, q6, q2.2⟩
/-! ### a digit is set -/
theorem dig_set {l : List Nat} {i d j : Nat} (h : i < l.length) : dig (l.set i d) j = if j = i then d else dig l j := by
  unfold dig
  rw [List.getD_eq_getElem?_getD, List.getD_eq_getElem?_getD, List.getElem?_set]
  by_cases e : i = j
  · subst e; simp [h]
  · rw [if_neg e, if_neg (fun k => e k.symm)]
theorem vlow_set {l : List Nat} {i d : Nat} (h : i < l.length) (n : Nat) : vlow (l.set i d) n + (if i < n then 65536 ^ i * dig l i else 0) = vlow l n + (if i < n then 65536 ^ i * d else 0) := by
  induction n with
  | zero => rfl
  | succ n ih =>
    rw [vlow, vlow, dig_set h]
    rcases Nat.lt_trichotomy i n with c | c | c
    · rw [if_pos c, if_pos c] at ih
      rw [if_neg (by omega), if_pos (by omega), if_pos (by omega)]
      omega
    · subst c
      rw [if_neg (by omega), if_neg (by omega)] at ih
      rw [if_pos rfl, if_pos (by omega), if_pos (by omega)]
      omega
    · rw [if_neg (by omega), if_neg (by omega)] at ih
      rw [if_neg (by omega), if_neg (by omega), if_neg (by omega)]
      omega
theorem val_set {l : List Nat} {i d : Nat} (h : i < l.length) : val (l.set i d) + 65536 ^ i * dig l i = val l + 65536 ^ i * d := by
  have := vlow_set (d := d) h l.length
  rw [if_pos h, if_pos h] at this
  unfold val
  rw [List.length_set]
  exact this
theorem ints_set (l : List Nat) (i d : Nat) : ints (l.set i d) = (ints l).set i (.int .i64 (d : Int)) := by simp [ints, List.map_set]
theorem Digits.set {l : List Nat} (h : Digits l) (i : Nat) {d : Nat} (hd : d < 65536) : Digits (l.set i d) := by
  intro x hx
  rcases List.mem_or_eq_of_mem_set hx with h1 | rfl
  · exact h x h1
  · exact hd
theorem dig_replicate (n i : Nat) : dig (List.replicate n 0) i = 0 := by
  unfold dig
  rw [List.getD_eq_getElem?_getD, List.getElem?_replicate]
  split <;> rfl
theorem vlow_replicate (n i : Nat) : vlow (List.replicate n 0) i = 0 := by
  induction i with
  | zero => rfl
  | succ i ih => rw [vlow, ih, dig_replicate]; simp
theorem val_replicate (n : Nat) : val (List.replicate n 0) = 0 := vlow_replicate _ _
theorem Digits.replicate (n : Nat) : Digits (List.replicate n 0) := by
  intro d hd
  rw [List.mem_replicate] at hd
  omega
theorem ints_made (n : Nat) : (madeCells #[Value.int .i64 0] n).toList = ints (List.replicate n 0) := by
  rw [toList_madeCells_one]
  simp [ints]
theorem ints_getElem {l : List Nat} {i : Nat} (h : i < l.length) : (ints l)[i]? = some (.int .i64 (dig l i : Int)) := by
  unfold dig
  rw [List.getD_eq_getElem?_getD]
  simp [ints, List.getElem?_eq_getElem h]
theorem ints_len (l : List Nat) : (ints l).length = l.length := by simp [ints]
theorem pow_split (n : Nat) : 65536 ^ (n / 16) * 2 ^ (n % 16) = 2 ^ n := by
  rw [show (65536 : Nat) = 2 ^ 16 from rfl, ← Nat.pow_mul, ← Nat.pow_add]
  congr 1
  omega
theorem i64_shl1 (k : Nat) (h : k < 62) : Op.shift .shl .i64 1 .i64 (k : Int) = pure (.int .i64 ((2 ^ k : Nat) : Int)) := by
  rw [shift_shl_any _ _ _ _ (by omega)]
  congr 2
  have hp : 2 ^ k ≤ 2 ^ 61 := Nat.pow_le_pow_right (by decide) (by omega)
  have e : (1 : Int) * 2 ^ k = ((2 ^ k : Nat) : Int) := by simp
  rw [Int.toNat_natCast, show min k (IntKind.i64.bits) = k from Nat.min_eq_left (by show k ≤ 64; omega), e]
  generalize 2 ^ k = P at hp
  exact IntWalk.i64_in _ (by omega)
theorem shl1_16 (n : Nat) : Op.shift .shl .i64 1 .i64 ((n : Int) % 16) = pure (.int .i64 ((2 ^ (n % 16) : Nat) : Int)) := i64_shl1 (n % 16) (by omega)
end Go.Proofs.YtfaocjcpnjmfiaaDoor
