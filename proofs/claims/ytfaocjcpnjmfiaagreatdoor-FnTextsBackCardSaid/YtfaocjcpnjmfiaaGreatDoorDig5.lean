/-
  Digits by what they are worth (Dg); the reference's Minus and Power.
-/
import Derived.Test.YtfaocjcpnjmfiaaGreatDoorDig4
namespace Go.Proofs.YtfaocjcpnjmfiaaGreatDoor
open Go.RowKit
set_option linter.unusedVariables false
/-- The value v is a slice of at most L digits that is worth n. -/
def Dg (w : World) (v : Value) (n L : Nat) : Prop := ∃ l, Sl w v l ∧ Digits l ∧ val l = n ∧ l.length ≤ L
theorem Dg.bel {w w' : World} {v : Value} {n L : Nat} (h : Dg w v n L) (k : Below w.heap.size w w') : Dg w' v n L := by
  obtain ⟨l, h1, h2⟩ := h; exact ⟨l, h1.bel k, h2⟩
theorem Dg.drewN {w : World} {v : Value} {n L : Nat} (h : Dg w v n L) (m : Nat) : Dg (w.drewN m) v n L := h
theorem Dg.le {w : World} {v : Value} {n L M : Nat} (h : Dg w v n L) (k : L ≤ M) : Dg w v n M := by
  obtain ⟨l, h1, h2, h3, h4⟩ := h; exact ⟨l, h1, h2, h3, by omega⟩
theorem Dg.eq {w : World} {v : Value} {n m L : Nat} (h : Dg w v n L) (k : n = m) : Dg w v m L := k ▸ h
/-- A new slice of digits that is worth n. -/
def RetDg (n L : Nat) (w : World) (e : Ending) (w' : World) : Prop := ∃ v, e = .returned v ∧ Dg w' v n L ∧ Below w.heap.size w w'
/-- .. in memory of its own. -/
def RetDgF (n L : Nat) (w : World) (e : Ending) (w' : World) : Prop := ∃ v, e = .returned v ∧ Dg w' v n L ∧ Below w.heap.size w w' ∧ From w.heap.size v
theorem RetDg.of {n L : Nat} {w : World} {e : Ending} {w' : World} (h : RetVal n L w e w') : RetDg n L w e w' := by
  obtain ⟨v, l, h1, h2, h3, h4, h5, h6⟩ := h; exact ⟨v, h1, ⟨l, h2.1, h3, h4, h5⟩, h6⟩
theorem Dg.far {w : World} {v : Value} {n L b o : Nat} {u : Value} (h : Dg w v n L) (hf : ∀ k, v.ownBlock = some k → k ≠ b) : Dg (w.setCell ⟨b, o, none⟩ u) v n L := by
  obtain ⟨l, ⟨A, cap, e, hc, h1⟩, h2⟩ := h
  refine ⟨l, ⟨A, cap, e, hc, fun i d hd => ?_⟩, h2⟩
  obtain ⟨b', o', e1, h3⟩ := h1 i d hd
  refine ⟨b', o', e1, (World.cell?_setCell_other _ _ _ _ (fun e2 => ?_)).trans h3⟩
  injection e2 with e2
  exact hf b' (by rw [e, e1]; rfl) e2.symm
theorem Dg.nil (w : World) : Dg w (.slice none 0 0) 0 0 := ⟨[], Sl.nil w, fun d hd => absurd hd (by simp), rfl, Nat.le_refl _⟩
theorem Dg.lt {w : World} {v : Value} {n L : Nat} (h : Dg w v n L) : n < 65536 ^ L := by
  obtain ⟨l, h1, h2, h3, h4⟩ := h
  rw [← h3, ← vlow_ge h4]; exact vlow_lt h2 L
/-- Comparison. -/
def cmpN (a b : Nat) : Int := if a < b then -1 else if a = b then 0 else 1
/-! ### a digit is set -/
theorem dig_set {l : List Nat} {i d j : Nat} (h : i < l.length) : dig (l.set i d) j = if j = i then d else dig l j := by
  unfold dig
  rw [List.getD_eq_getElem?_getD, List.getD_eq_getElem?_getD, List.getElem?_set]
  by_cases e : i = j
  · subst e; simp [h]
  · rw [if_neg e, if_neg (fun k => e k.symm)]
theorem vlow_set {l : List Nat} {i d : Nat} (h : i < l.length) (n : Nat) : vlow (l.set i d) n + (if i < n then 65536 ^ i * dig l i else 0) = vlow l n + (if i < n then 65536 ^ i * d else 0) := by
  induction n with
  | zero => rfl
  | succ n ih =>
    rw [vlow, vlow, dig_set h]
    rcases Nat.lt_trichotomy i n with c | c | c
    · rw [if_pos c, if_pos c] at ih
      rw [if_neg (by omega), if_pos (by omega), if_pos (by omega)]
      omega
    · subst c
      rw [if_neg (by omega), if_neg (by omega)] at ih
      rw [if_pos rfl, if_pos (by omega), if_pos (by omega)]
      omega
    · rw [if_neg (by omega), if_neg (by omega)] at ih
      rw [if_neg (by omega), if_neg (by omega), if_neg (by omega)]
      omega
theorem val_set {l : List Nat} {i d : Nat} (h : i < l.length) : val (l.set i d) + 65536 ^ i * dig l i = val l + 65536 ^ i * d := by
  have := vlow_set (d := d) h l.length
  rw [if_pos h, if_pos h] at this
  unfold val
  rw [List.length_set]
  exact this
theorem ints_set (l : List Nat) (i d : Nat) : ints (l.set i d) = (ints l).set i (.int .i64 (d : Int)) := by simp [ints, List.map_set]
theorem Digits.set {l : List Nat} (h : Digits l) (i : Nat) {d : Nat} (hd : d < 65536) : Digits (l.set i d) := by
  intro x hx
  rcases List.mem_or_eq_of_mem_set hx with h1 | rfl
  · exact h x h1
  · exact hd
theorem dig_replicate (n i : Nat) : dig (List.replicate n 0) i = 0 := by
  unfold dig
  rw [List.getD_eq_getElem?_getD, List.getElem?_replicate]
  split <;> rfl
theorem vlow_replicate (n i : Nat) : vlow (List.replicate n 0) i = 0 := by
  induction i with
  | zero => rfl
  | succ i ih => rw [vlow, ih, dig_replicate]; simp
theorem val_replicate (n : Nat) : val (List.replicate n 0) = 0 := vlow_replicate _ _
theorem Digits.replicate (n : Nat) : Digits (List.replicate n 0) := by
  intro d hd
  rw [List.mem_replicate] at hd
  omega
theorem ints_made (n : Nat) : (madeCells #[Value.int .i64 0] n).toList = ints (List.replicate n 0) := by
  rw [toList_madeCells_one]
  simp [ints]
theorem ints_getElem {l : List Nat} {i : Nat} (h : i < l.length) : (ints l)[i]? = some (.int .i64 (dig l i : Int)) := by
  unfold dig
  rw [List.getD_eq_getElem?_getD]
  simp [ints, List.getElem?_eq_getElem h]
theorem ints_len (l : List Nat) : (ints l).length = l.length := by simp [ints]
theorem pow_split (n : Nat) : 65536 ^ (n / 16) * 2 ^ (n % 16) = 2 ^ n := by
  rw [show (65536 : Nat) = 2 ^ 16 from rfl, ← Nat.pow_mul, ← Nat.pow_add]
  congr 1
  omega
theorem i64_shl1 (k : Nat) (h : k < 62) : Op.shift .shl .i64 1 .i64 (k : Int) = pure (.int .i64 ((2 ^ k : Nat) : Int)) := by
  rw [shift_shl_any _ _ _ _ (by omega)]
  congr 2
  have hp : 2 ^ k ≤ 2 ^ 61 := Nat.pow_le_pow_right (by decide) (by omega)
  have e : (1 : Int) * 2 ^ k = ((2 ^ k : Nat) : Int) := by simp
  rw [Int.toNat_natCast, show min k (IntKind.i64.bits) = k from Nat.min_eq_left (by show k ≤ 64; omega), e]
  generalize 2 ^ k = P at hp
  exact IntWalk.i64_in _ (by omega)
theorem shl1_16 (n : Nat) : Op.shift .shl .i64 1 .i64 ((n : Int) % 16) = pure (.int .i64 ((2 ^ (n % 16) : Nat) : Int)) := i64_shl1 (n % 16) (by omega)
end Go.Proofs.YtfaocjcpnjmfiaaGreatDoor
