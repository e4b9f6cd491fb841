/-
  Contracts over slices of bytes: the laws' same, the thin package's copied; the reference's Big, Small, Short, Padded.
-/
import Derived.Test.YtfaocjcpnjmfiaaGreatDoorByt
import Derived.Lib.Slices
namespace Go.Proofs.YtfaocjcpnjmfiaaGreatDoor
open Go.RowKit
set_option linter.unusedVariables false
set_option linter.unusedSimpArgs false
set_option maxRecDepth 20000

theorem Tryz.infoByte : (Tryz.prog.info? 5).map (fun i => (i.zero, i.size, i.bytes)) = some (some (.int .u8 0), 1, 1) := by kernel_rfl
/-- A new row of bytes. -/
def RetOwn (l : List UInt8) (w : World) (e : Ending) (w' : World) : Prop := ∃ v, e = .returned v ∧ w'.ownsRow w.heap.size 5 1 v l.length (Lib.byteCells l) ∧ Below w.heap.size w w'
/-- A slice that reads as bytes. -/
def RetSlB (l : List UInt8) (w : World) (e : Ending) (w' : World) : Prop := ∃ v, e = .returned v ∧ SlB w' v l ∧ Below w.heap.size w w'
theorem RetOwn.sl {l : List UInt8} {w : World} {e : Ending} {w' : World} (h : RetOwn l w e w') : RetSlB l w e w' := by
  obtain ⟨v, h1, h2, h3⟩ := h
  exact ⟨v, h1, SlB.of_own h2, h3⟩
theorem conv_slb {w : World} {v : Value} {l : List UInt8} (h : SlB w v l) : (convert 43 9 v).run Tryz.prog w = .ok (.string ⟨l.toArray⟩) w :=
  run_convert_slb w _ _ _ Tryz.underlying43 Tryz.underlying5 Tryz.underlying9 h
theorem be_take_snoc (n v k : Nat) (h : k < n) : (Lib.beBytes n v).take (k + 1) = (Lib.beBytes n v).take k ++ [UInt8.ofNat (v / 256 ^ (n - 1 - k) % 256)] := by
  rw [List.take_add_one, be_get, if_pos h]
  rfl
/-- A byte of a digit of sixteen bits. -/
theorem dig_byte (v n : Nat) : v / 65536 ^ (n / 2) % 65536 / 2 ^ (8 * (n % 2)) % 256 = v / 256 ^ n % 256 := by
  have e : 256 ^ n = 65536 ^ (n / 2) * 2 ^ (8 * (n % 2)) := by
    rw [pow256, show (65536 : Nat) = 2 ^ 16 from rfl, ← Nat.pow_mul, ← Nat.pow_add]
    congr 1
    omega
  rw [e, ← Nat.div_div_eq_div_mul]
  generalize v / 65536 ^ (n / 2) = y
  rcases (by omega : n % 2 = 0 ∨ n % 2 = 1) with h | h <;> rw [h] <;> omega
/-- The digit's byte, as the walk reads it. -/
def byteAt (v n : Nat) : UInt8 := UInt8.ofNat (v / 256 ^ n % 256)
theorem byteAt_toNat (v n : Nat) : (byteAt v n).toNat = v / 256 ^ n % 256 := by unfold byteAt; rw [UInt8.toNat_ofNat']; omega
theorem i64_shr8 (d k : Nat) : Op.shift .shr .i64 (d : Int) .i64 (8 * ((k : Int) % 2)) = pure (.int .i64 ((d / 2 ^ (8 * (k % 2)) : Nat) : Int)) := by
  rw [show 8 * ((k : Int) % 2) = ((8 * (k % 2) : Nat) : Int) by omega, shift_shr_any _ _ _ _ (by omega), Int.toNat_natCast]
  congr 2
  rw [show min (8 * (k % 2)) IntKind.i64.bits = 8 * (k % 2) from Nat.min_eq_left (by show _ ≤ 64; omega)]
  simp
theorem wrap_byteAt (v n : Nat) : IntKind.u8.wrap ((v / 65536 ^ (n / 2) % 65536 / 2 ^ (8 * (n % 2)) : Nat) : Int) = ((byteAt v n).toNat : Int) := by
  rw [byteAt_toNat, ← dig_byte]
  simp [IntKind.wrap, IntKind.bits, IntKind.signed]
theorem vlow_mod0 {l : List Nat} (h : Digits l) (n k : Nat) : vlow l (n + k) % 65536 ^ n = vlow l n := by
  induction k with
  | zero => exact Nat.mod_eq_of_lt (vlow_lt h n)
  | succ k ih =>
    rw [← Nat.add_assoc, vlow, Nat.pow_add, Nat.mul_assoc, Nat.add_mul_mod_self_left, ih]
theorem dig_val0 {l : List Nat} (h : Digits l) (i : Nat) : dig l i = val l / 65536 ^ i % 65536 := by
  rcases Nat.lt_or_ge i l.length with hi | hi
  · obtain ⟨k, hk⟩ : ∃ k, l.length = i + 1 + k := ⟨l.length - (i + 1), by omega⟩
    have h1 : val l % 65536 ^ (i + 1) = vlow l (i + 1) := by unfold val; rw [hk]; exact vlow_mod0 h (i + 1) k
    have h2 := vlow_lt h i
    have h3 := dig_lt h i
    rw [vlow] at h1
    have h4 : val l / 65536 ^ i % 65536 = val l % 65536 ^ (i + 1) / 65536 ^ i := by
      rw [Nat.pow_succ, Nat.mod_mul_right_div_self]
    rw [h4, h1, Nat.add_mul_div_left _ _ (Nat.pow_pos (by decide)), Nat.div_eq_of_lt h2, Nat.zero_add]
  · rw [dig_out hi]
    have h2 := vlow_lt h i
    rw [vlow_ge hi] at h2
    rw [Nat.div_eq_of_lt h2]
theorem wrap_dig (x : N4) (n : Nat) : IntKind.u8.wrap ((dig x.digs (n / 2) / 2 ^ (8 * (n % 2)) : Nat) : Int) = ((byteAt x.toNat n).toNat : Int) := by
  rw [dig_val0 (digs_digits x), val_digs, wrap_byteAt]
attribute [local go_sem ↓] i64_shr8
theorem own_base {w : World} {b b' e s n : Nat} {v : Value} {xs : List Value} (h : w.ownsRow b e s v n xs) (hb : b' ≤ b) : w.ownsRow b' e s v n xs := by
  refine ⟨h.1, ?_⟩
  rcases h.2 with h2 | ⟨g, cap, cur, h1, h2, h3⟩
  · exact .inl h2
  · exact .inr ⟨g, cap, cur, h1, Nat.le_trans hb h2, h3⟩
theorem be_head (m v : Nat) : (Lib.beBytes (m + 1) v)[0]? = some (byteAt v m) := by
  rw [be_get, if_pos (by omega)]; rfl
theorem byteAt_bt (x : N4) (i : Nat) : byteAt x.toNat i = x.bt i := rfl
/-- A slice of known length. -/
theorem SlB.parts {w : World} {v : Value} {n N : Nat} (h : SlB w v (Lib.beBytes n N)) : ∃ A cap, v = .slice A n cap ∧ n ≤ cap ∧ SlB w (.slice A n cap) (Lib.beBytes n N) := by
  have h2 := h
  obtain ⟨A, cap, rfl, hc, _⟩ := h
  rw [be_len] at hc h2 ⊢
  exact ⟨A, cap, rfl, hc, h2⟩
theorem SlB.first {w : World} {A : Option Addr} {n cap : Nat} {l : List UInt8} {b : UInt8} (h : SlB w (.slice A n cap) l) (h0 : l[0]? = some b) : ∃ g o, A = some ⟨g, o, none⟩ ∧ w.cell? ⟨g, o, none⟩ = some (.int .u8 (b.toNat : Int)) := by
  obtain ⟨A', cap', e, hc, h⟩ := h
  injection e with e1 e2 e3
  subst e1
  obtain ⟨g, o, e1, h1⟩ := h 0 b h0
  exact ⟨g, o, e1, h1⟩
theorem bytes_made (n : Nat) : (madeCells #[Value.int .u8 0] n).toList = Lib.byteCells (List.replicate n 0) := by
  apply List.ext_getElem?
  intro i
  by_cases h : i < n <;> simp [madeCells, Lib.byteCells, h, Nat.mod_one]
end Go.Proofs.YtfaocjcpnjmfiaaGreatDoor
