/-
  Contracts of uint256's writers of bytes: PaddedBytes, WriteToSlice.
-/
import Derived.Test.YtpjljjajnfoccaaDoorByt1
import Derived.Outline
namespace Go.Proofs.YtpjljjajnfoccaaDoor
open Go.RowKit
set_option linter.unusedVariables false
set_option linter.unusedSimpArgs false
set_option maxRecDepth 20000
/-- The word at index j lies at its place. -/
theorem At4.word {w : World} {b o : Nat} {x : N4} (h : At4 w b o x) (j : Nat) (hj : j < 4) : w.cell? ⟨b, o + j, none⟩ = some (V (x.wd j)) := by
  obtain ⟨h0, h1, h2, h3⟩ := h
  rcases (by omega : j = 0 ∨ j = 1 ∨ j = 2 ∨ j = 3) with rfl | rfl | rfl | rfl
  · exact h0
  · exact h1
  · exact h2
  · exact h3
theorem N4.btw (x : N4) (i : Nat) (h : i < 32) : IntKind.u8.wrap (((x.wd (i / 8)).toNat / 2 ^ (8 * (i % 8)) : Nat) : Int) = ((x.bt i).toNat : Int) := by
  rw [← bt_wd x i h]
  simp [IntKind.wrap, IntKind.bits, IntKind.signed]
theorem u64_shr8 (x : W64) (k : Nat) : Op.shift .shr .u64 (U x) .u64 (8 * ((k : Int) % 8)) = pure (.int .u64 ((x.toNat / 2 ^ (8 * (k % 8)) : Nat) : Int)) := by
  rw [show 8 * ((k : Int) % 8) = ((8 * (k % 8) : Nat) : Int) by omega, shift_shr_any _ _ _ _ (by omega), Int.toNat_natCast]
  congr 2
  rw [show min (8 * (k % 8)) IntKind.u64.bits = 8 * (k % 8) from Nat.min_eq_left (by show _ ≤ 64; omega)]
  simp [U]
theorem bytes_set (l : List UInt8) (i : Nat) (d : UInt8) : Lib.byteCells (l.set i d) = (Lib.byteCells l).set i (.int .u8 (d.toNat : Int)) := by simp [Lib.byteCells, List.map_set]
/-- The lowest k bytes stand at the end. -/
def padTo (n k v : Nat) : List UInt8 := List.replicate (n - k) 0 ++ Lib.beBytes k v
theorem padTo_len {n k : Nat} (h : k ≤ n) (v : Nat) : (padTo n k v).length = n := by unfold padTo; rw [List.length_append, List.length_replicate, be_len]; omega
theorem padTo_step {n k : Nat} (h : k < n) (v : Nat) : padTo n (k + 1) v = (padTo n k v).set (n - 1 - k) (UInt8.ofNat (v / 256 ^ k % 256)) := by
  unfold padTo
  rw [be_cons, show n - k = (n - (k + 1)) + 1 by omega, List.replicate_succ', List.append_assoc, List.set_append_right _ _ (by simp; omega), List.length_replicate, show n - 1 - k - (n - (k + 1)) = 0 by omega]
  rfl
theorem padTo_old {n k v : Nat} (h : k < n) : (Lib.byteCells (padTo n k v))[n - 1 - k]? = some (.int .u8 0) := by
  unfold padTo
  rw [Lib.byteCells_append, List.getElem?_append_left (by simp [Lib.byteCells]; omega)]
  unfold Lib.byteCells
  rw [List.getElem?_map, List.getElem?_replicate, if_pos (by omega)]
  rfl
theorem padTo_end {n k : Nat} (x : N4) (h1 : k ≤ n) (h2 : n ≤ k ∨ 32 ≤ k) : padTo n k x.toNat = Lib.beBytes n x.toNat := by
  unfold padTo
  rcases h2 with h | h
  · obtain rfl : n = k := by omega
    simp
  · have := be_high (n - k) k x.toNat (Nat.lt_of_lt_of_le x.lt256 (Nat.pow_le_pow_right (by decide) h))
    rw [show n - k + k = n by omega] at this
    exact this.symm
/-- The lowest k bytes stand at the end of the first m. -/
def wrIn (l : List UInt8) (m k v : Nat) : List UInt8 := l.take (m - k) ++ (Lib.beBytes k v ++ l.drop m)
theorem wrIn_len {l : List UInt8} {m k : Nat} (h : k ≤ m) (hm : m ≤ l.length) (v : Nat) : (wrIn l m k v).length = l.length := by
  unfold wrIn; rw [List.length_append, List.length_append, List.length_take, be_len, List.length_drop]; omega
theorem wrIn_step {l : List UInt8} {m k : Nat} (h : k < m) (hm : m ≤ l.length) (v : Nat) : wrIn l m (k + 1) v = (wrIn l m k v).set (m - 1 - k) (UInt8.ofNat (v / 256 ^ k % 256)) := by
  unfold wrIn
  have e : l.take (m - k) = l.take (m - (k + 1)) ++ [l[m - (k + 1)]'(by omega)] := by
    rw [show m - k = m - (k + 1) + 1 by omega]
    exact List.take_succ_eq_append_getElem (by omega)
  rw [e, be_cons, List.append_assoc, List.set_append_right _ _ (by simp; omega), List.length_take, show m - 1 - k - min (m - (k + 1)) l.length = 0 by omega]
  rfl
theorem bytes_at {l : List UInt8} {j : Nat} (h : j < l.length) : ∃ d : Int, (Lib.byteCells l)[j]? = some (.int .u8 d) := by
  unfold Lib.byteCells
  rw [List.getElem?_map, List.getElem?_eq_getElem h]
  exact ⟨_, rfl⟩
/-- What WriteToSlice leaves. -/
def wrote (l : List UInt8) (x : N4) : List UInt8 := wrIn l (min 32 l.length) (min 32 l.length) x.toNat
theorem wrIn_zero (l : List UInt8) (m v : Nat) : wrIn l m 0 v = l := by
  unfold wrIn
  simp [Lib.beBytes, Lib.leBytes]
theorem grownBy_trans' {w w1 w2 : World} {r : Option Nat} (h : w.grownBy w1 r) (k : w1.grownBy w2 r) : w.grownBy w2 r :=
  ⟨k.os.trans h.os, k.tape.trans h.tape, k.output.trans h.output, Nat.le_trans h.size k.size, fun i hi hne => (k.block i (Nat.lt_of_lt_of_le hi h.size) hne).trans (h.block i hi hne)⟩
theorem wrote_len (l : List UInt8) (x : N4) : (wrote l x).length = l.length := wrIn_len (Nat.le_refl _) (Nat.min_le_right _ _) _
theorem own_bel {w w' : World} {b e s n : Nat} {v : Value} {xs : List Value} (h : w.ownsRow b e s v n xs) (k : Below w.heap.size w w') : w'.ownsRow b e s v n xs := by
  refine h.kept (grown_of_bel k) ?_
  cases hv : v.ownBlock with
  | none => exact .inl rfl
  | some g => exact .inr (by simp)
end Go.Proofs.YtpjljjajnfoccaaDoor
