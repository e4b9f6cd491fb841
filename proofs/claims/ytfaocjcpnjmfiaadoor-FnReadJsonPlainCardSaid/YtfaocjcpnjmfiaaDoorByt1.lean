/-
  Contracts over slices of bytes: the laws' same, the thin package's copied; the reference's Big, Small, Short, Padded.
-/
import Derived.Test.YtfaocjcpnjmfiaaDoorByt
import Derived.Lib.Slices
namespace Go.Proofs.YtfaocjcpnjmfiaaDoor
set_option maxRecDepth 20000
open Go.RowKit
set_option linter.unusedVariables false
set_option linter.unusedSimpArgs false
set_option maxRecDepth 20000

theorem Tryd.infoByte : (Tryd.prog.info? 5).map (fun i => (i.zero, i.size, i.bytes)) = some (some (.int .u8 0), 1, 1) := by kernel_rfl
/-- A new row of bytes. -/
def RetOwn (l : List UInt8) (w : World) (e : Ending) (w' : World) : Prop := ∃ v, e = .returned v ∧ w'.ownsRow w.heap.size 5 1 v l.length (Lib.byteCells l) ∧ Below w.heap.size w w'
/-- A slice that reads as bytes. -/
def RetSlB (l : List UInt8) (w : World) (e : Ending) (w' : World) : Prop := ∃ v, e = .returned v ∧ SlB w' v l ∧ Below w.heap.size w w'
theorem RetOwn.sl {l : List UInt8} {w : World} {e : Ending} {w' : World} (h : RetOwn l w e w') : RetSlB l w e w' := by
  obtain ⟨v, h1, h2, h3⟩ := h
  exact ⟨v, h1, SlB.of_own h2, h3⟩
theorem conv_slb {w : World} {v : Value} {l : List UInt8} (h : SlB w v l) : (convert 45 9 v).run Tryd.prog w = .ok (.string ⟨l.toArray⟩) w :=
  run_convert_slb w _ _ _ Tryd.underlying45 Tryd.underlying5 Tryd.underlying9 h
theorem be_take_snoc (n v k : Nat) (h : k < n) : (Lib.beBytes n v).take (k + 1) = (Lib.beBytes n v).take k ++ [UInt8.ofNat (v / 256 ^ (n - 1 - k) % 256)] := by
  rw [List.take_add_one, be_get, if_pos h]
  rfl
/-- A byte of a digit of sixteen bits. -/
theorem dig_byte (v n : Nat) : v / 65536 ^ (n / 2) % 65536 / 2 ^ (8 * (n % 2)) % 256 = v / 256 ^ n % 256 := by
  have e : 256 ^ n = 65536 ^ (n / 2) * 2 ^ (8 * (n % 2)) := by
    rw [pow256, show (65536 : Nat) = 2 ^ 16 from rfl, ← Nat.pow_mul, ← Nat.pow_add]
    congr 1
    omega
  rw [e, ← Nat.div_div_eq_div_mul]
  generalize v / 65536 ^ (n / 2) = y
  rcases (by omega : n % 2 = 0 ∨ n % 2 = 1) with h | h <;> rw [h] <;> omega
/-- The digit's byte, as the walk reads it. -/
def byteAt (v n : Nat) : UInt8 := UInt8.ofNat (v / 256 ^ n % 256)
theorem byteAt_toNat (v n : Nat) : (byteAt v n).toNat = v / 256 ^ n % 256 := by unfold byteAt; rw [UInt8.toNat_ofNat']; omega
theorem i64_shr8 (d k : Nat) : Op.shift .shr .i64 (d : Int) .i64 (8 * ((k : Int) % 2)) = pure (.int .i64 ((d / 2 ^ (8 * (k % 2)) : Nat) : Int)) := by
  rw [show 8 * ((k : Int) % 2) = ((8 * (k % 2) : Nat) : Int) by omega, shift_shr_any _ _ _ _ (by omega), Int.toNat_natCast]
  congr 2
  rw [show min (8 * (k % 2)) IntKind.i64.bits = 8 * (k % 2) from Nat.min_eq_left (by show _ ≤ 64; omega)]
  simp
theorem wrap_byteAt (v n : Nat) : IntKind.u8.wrap ((v / 65536 ^ (n / 2) % 65536 / 2 ^ (8 * (n % 2)) : Nat) : Int) = ((byteAt v n).toNat : Int) := by
  rw [byteAt_toNat, ← dig_byte]
  simp [IntKind.wrap, IntKind.bits, IntKind.signed]
theorem vlow_mod0 {l : List Nat} (h : Digits l) (n k : Nat) : vlow l (n + k) % 65536 ^ n = vlow l n := by
  induction k with
  | zero => exact Nat.mod_eq_of_lt (vlow_lt h n)
  | succ k ih =>
    rw [← Nat.add_assoc, vlow, Nat.pow_add, Nat.mul_assoc, Nat.add_mul_mod_self_left, ih]
theorem dig_val0 {l : List Nat} (h : Digits l) (i : Nat) : dig l i = val l / 65536 ^ i % 65536 := by
  rcases Nat.lt_or_ge i l.length with hi | hi
  · obtain ⟨k, hk⟩ : ∃ k, l.length = i + 1 + k := ⟨l.length - (i + 1), by omega⟩
    have h1 : val l % 65536 ^ (i + 1) = vlow l (i + 1) := by unfold val; rw [hk]; exact vlow_mod0 h (i + 1) k
    have h2 := vlow_lt h i
    have h3 := dig_lt h i
    rw [vlow] at h1
    have h4 : val l / 65536 ^ i % 65536 = val l % 65536 ^ (i + 1) / 65536 ^ i := by
      rw [Nat.pow_succ, Nat.mod_mul_right_div_self]
    rw [h4, h1, Nat.add_mul_div_left _ _ (Nat.pow_pos (by decide)), Nat.div_eq_of_lt h2, Nat.zero_add]
  · rw [dig_out hi]
    have h2 := vlow_lt h i
    rw [vlow_ge hi] at h2
    rw [Nat.div_eq_of_lt h2]
theorem wrap_dig (x : N4) (n : Nat) : IntKind.u8.wrap ((dig x.digs (n / 2) / 2 ^ (8 * (n % 2)) : Nat) : Int) = ((byteAt x.toNat n).toNat : Int) := by
  rw [dig_val0 (digs_digits x), val_digs, wrap_byteAt]
attribute [local go_sem ↓] i64_shr8
theorem own_base {w : World} {b b' e s n : Nat} {v : Value} {xs : List Value} (h : w.ownsRow b e s v n xs) (hb : b' ≤ b) : w.ownsRow b' e s v n xs := by
  refine ⟨h.1, ?_⟩
  rcases h.2 with h2 | ⟨g, cap, cur, h1, h2, h3⟩
  · exact .inl h2
  · exact .inr ⟨g, cap, cur, h1, Nat.le_trans hb h2, h3⟩
set_option maxHeartbeats 1000000 in
theorem big_any (x : N4) (w : World) : Calls Tryd.prog 30 #[x.v] w (RetOwn (Lib.beBytes 32 x.toNat) w) := by
  obtain ⟨i0, hi, hz0, hz1, hz2⟩ := info_parts Tryd.infoByte
  have hdl := digs_len x
  go_enter Tryd.func30, Tryd.ntmps30
  go_wp2_with fail
  refine (whole_any x _).mono ?_
  rintro e w1 ⟨v1, rfl, hd, hb⟩
  have HB := Lib.hid (bel_trans (bel_alloc (bel_refl w) _) hb)
  clear hb
  go_wp2
  go_loopw [4, 5] (fun v t wr => ∃ k : Nat, k ≤ 32 ∧ t = .int .i64 ((k : Int) - 1) ∧ wr.ownsRow w1.heap.size 5 1 v (32 - k) (Lib.byteCells ((Lib.beBytes 32 x.toNat).take (32 - k))) ∧ Below w1.heap.size w1 wr) (fun _ t _ => (intOf t + 1).toNat)
  case atStart =>
    have h := World.ownsRow_made (base := w1.heap.size) (e := 5) (size := 1) w1 #[] 0 (Nat.le_refl _) (Nat.zero_le _) rfl
    exact ⟨32, by omega, rfl, by simpa [Lib.byteCells] using h, bel_alloc (bel_refl _) _⟩
  case round =>
    obtain ⟨k, hk, rfl, hown, hbel⟩ := hrel
    obtain ⟨wo, rfl⟩ : ∃ wo : World, wo = wr := ⟨_, rfl⟩
    rcases Nat.eq_zero_or_pos k with h0 | h0
    · subst h0
      go_wp2
      go_ret
      exact ⟨_, rfl, by simpa [List.take_of_length_le, be_len] using own_base hown HB.out.size, bel_trans HB.out hbel⟩
    · obtain ⟨j, rfl⟩ : ∃ j, k = j + 1 := ⟨k - 1, by omega⟩
      have hj : ((j + 1 : Nat) : Int) - 1 = (j : Int) := by omega
      rw [hj]
      have hw8 := wrap_dig x j
      have H1 := Lib.hid hown
      have HW := Lib.hid hw8
      clear hown hw8
      have hsz := hbel.size
      go_wp2_with (first
        | (go_at_call 28; refine (at_any _ x.digs _ _ (hd.bel hbel) (by omega) (by omega) (by omega)).mono ?_; rintro e w' ⟨rfl, rfl⟩)
        | (at_builtin; refine wpList_append_own _ rfl _ _ 45 rfl w1.heap.size 5 i0 (.int .u8 0) 1 1 Tryd.underlying45 hi hz0 hz1 hz2 rfl (by decide) _ _ _ rfl (H1.out.alloc _) ⟨wo.heap.size, 0, none⟩ 1 1 [.int .u8 ((byteAt x.toNat j).toNat : Int)] rfl rfl ?c1 ?c2 ?c3 ?c4 ?c5 ?_))
      case c1 =>
        intro i u hu
        match i with
        | 0 =>
          have e : ((dig x.digs (j / 2) : Nat) : Int) / 2 ^ (8 * (j % 2)) % 256 = ((byteAt x.toNat j).toNat : Int) := by simpa [IntKind.wrap, IntKind.bits, IntKind.signed] using HW.out
          simp at hu; subst hu; simp [Addr.add, go_sem, e]
        | i + 1 => simp at hu
      case c2 => intro u hu; simp at hu; subst hu; rfl
      case c3 => unfold maxLen; omega
      case c4 => omega
      case c5 => simp; omega
      intro v' w2 hown2 hgrow _
      have HO := H1.out
      have hown3 : w2.ownsRow w1.heap.size 5 1 v' (32 - j) (Lib.byteCells ((Lib.beBytes 32 x.toNat).take (32 - j))) := by
        rw [show 32 - j = 31 - j + 1 by omega, be_take_snoc _ _ _ (by omega), Lib.byteCells_append, show 32 - 1 - (31 - j) = j by omega]
        exact hown2
      have hbel3 : Below w1.heap.size w1 w2 := (bel_alloc hbel _).grown hgrow (by simp; omega) (fun g hg => (HO.lt g hg).1)
      clear hown2 hgrow HO
      go_wp2
      go_roundw
      case rel => exact ⟨j, by omega, rfl, hown3, hbel3⟩
      case measure => simp [intOf] <;> omega
theorem be_head (m v : Nat) : (Lib.beBytes (m + 1) v)[0]? = some (byteAt v m) := by
  rw [be_get, if_pos (by omega)]; rfl
theorem byteAt_bt (x : N4) (i : Nat) : byteAt x.toNat i = x.bt i := rfl
/-- A slice of known length. -/
theorem SlB.parts {w : World} {v : Value} {n N : Nat} (h : SlB w v (Lib.beBytes n N)) : ∃ A cap, v = .slice A n cap ∧ n ≤ cap ∧ SlB w (.slice A n cap) (Lib.beBytes n N) := by
  have h2 := h
  obtain ⟨A, cap, rfl, hc, _⟩ := h
  rw [be_len] at hc h2 ⊢
  exact ⟨A, cap, rfl, hc, h2⟩
theorem SlB.first {w : World} {A : Option Addr} {n cap : Nat} {l : List UInt8} {b : UInt8} (h : SlB w (.slice A n cap) l) (h0 : l[0]? = some b) : ∃ g o, A = some ⟨g, o, none⟩ ∧ w.cell? ⟨g, o, none⟩ = some (.int .u8 (b.toNat : Int)) := by
  obtain ⟨A', cap', e, hc, h⟩ := h
  injection e with e1 e2 e3
  subst e1
  obtain ⟨g, o, e1, h1⟩ := h 0 b h0
  exact ⟨g, o, e1, h1⟩
theorem bytes_made (n : Nat) : (madeCells #[Value.int .u8 0] n).toList = Lib.byteCells (List.replicate n 0) := by
  apply List.ext_getElem?
  intro i
  by_cases h : i < n <;> simp [madeCells, Lib.byteCells, h, Nat.mod_one]
end Go.Proofs.YtfaocjcpnjmfiaaDoor
