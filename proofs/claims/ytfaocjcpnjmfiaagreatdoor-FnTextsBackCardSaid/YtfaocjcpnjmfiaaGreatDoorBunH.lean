/-
  Contracts of uint256's writers of bytes: PaddedBytes, WriteToSlice.
  Contracts of encoding/binary's writers and readers of whole numbers.
  Contracts of uint256's Bytes32, Bytes20, Bytes, ByteLen, and of the thin package's calls of them.
  Contracts of Hex: the package's, the thin package's, the reference's.
-/
import Derived.Test.YtfaocjcpnjmfiaaGreatDoorByt1
import Derived.Outline
import Derived.Test.YtfaocjcpnjmfiaaGreatDoorDesk3
import Derived.Test.YtfaocjcpnjmfiaaGreatDoorHeldM
import Derived.Lib.EndianBits
import Derived.Laws.NewBlocks
import Derived.RegionTactic
import Derived.Test.YtfaocjcpnjmfiaaGreatDoorRegion2
import Derived.Test.YtfaocjcpnjmfiaaGreatDoorFrame
import Derived.Maps.AppendAt
import Derived.Deep.DeepCutAuto
import Derived.Deep.CutBlock

namespace Go.Proofs.YtfaocjcpnjmfiaaGreatDoor
open Go.RowKit
set_option linter.unusedVariables false
set_option linter.unusedSimpArgs false
set_option maxRecDepth 20000
/-- The word at index j lies at its place. -/
theorem At4.word {w : World} {b o : Nat} {x : N4} (h : At4 w b o x) (j : Nat) (hj : j < 4) : w.cell? ⟨b, o + j, none⟩ = some (V (x.wd j)) := by
  obtain ⟨h0, h1, h2, h3⟩ := h
  rcases (by omega : j = 0 ∨ j = 1 ∨ j = 2 ∨ j = 3) with rfl | rfl | rfl | rfl
  · exact h0
  · exact h1
  · exact h2
  · exact h3
theorem N4.btw (x : N4) (i : Nat) (h : i < 32) : IntKind.u8.wrap (((x.wd (i / 8)).toNat / 2 ^ (8 * (i % 8)) : Nat) : Int) = ((x.bt i).toNat : Int) := by
  rw [← bt_wd x i h]
  simp [IntKind.wrap, IntKind.bits, IntKind.signed]
theorem u64_shr8 (x : W64) (k : Nat) : Op.shift .shr .u64 (U x) .u64 (8 * ((k : Int) % 8)) = pure (.int .u64 ((x.toNat / 2 ^ (8 * (k % 8)) : Nat) : Int)) := by
  rw [show 8 * ((k : Int) % 8) = ((8 * (k % 8) : Nat) : Int) by omega, shift_shr_any _ _ _ _ (by omega), Int.toNat_natCast]
  congr 2
  rw [show min (8 * (k % 8)) IntKind.u64.bits = 8 * (k % 8) from Nat.min_eq_left (by show _ ≤ 64; omega)]
  simp [U]
theorem bytes_set (l : List UInt8) (i : Nat) (d : UInt8) : Lib.byteCells (l.set i d) = (Lib.byteCells l).set i (.int .u8 (d.toNat : Int)) := by simp [Lib.byteCells, List.map_set]
/-- The lowest k bytes stand at the end. -/
def padTo (n k v : Nat) : List UInt8 := List.replicate (n - k) 0 ++ Lib.beBytes k v
theorem padTo_len {n k : Nat} (h : k ≤ n) (v : Nat) : (padTo n k v).length = n := by unfold padTo; rw [List.length_append, List.length_replicate, be_len]; omega
theorem padTo_step {n k : Nat} (h : k < n) (v : Nat) : padTo n (k + 1) v = (padTo n k v).set (n - 1 - k) (UInt8.ofNat (v / 256 ^ k % 256)) := by
  unfold padTo
  rw [be_cons, show n - k = (n - (k + 1)) + 1 by omega, List.replicate_succ', List.append_assoc, List.set_append_right _ _ (by simp; omega), List.length_replicate, show n - 1 - k - (n - (k + 1)) = 0 by omega]
  rfl
theorem padTo_old {n k v : Nat} (h : k < n) : (Lib.byteCells (padTo n k v))[n - 1 - k]? = some (.int .u8 0) := by
  unfold padTo
  rw [Lib.byteCells_append, List.getElem?_append_left (by simp [Lib.byteCells]; omega)]
  unfold Lib.byteCells
  rw [List.getElem?_map, List.getElem?_replicate, if_pos (by omega)]
  rfl
theorem padTo_end {n k : Nat} (x : N4) (h1 : k ≤ n) (h2 : n ≤ k ∨ 32 ≤ k) : padTo n k x.toNat = Lib.beBytes n x.toNat := by
  unfold padTo
  rcases h2 with h | h
  · obtain rfl : n = k := by omega
    simp
  · have := be_high (n - k) k x.toNat (Nat.lt_of_lt_of_le x.lt256 (Nat.pow_le_pow_right (by decide) h))
    rw [show n - k + k = n by omega] at this
    exact this.symm
/-- The lowest k bytes stand at the end of the first m. -/
def wrIn (l : List UInt8) (m k v : Nat) : List UInt8 := l.take (m - k) ++ (Lib.beBytes k v ++ l.drop m)
theorem wrIn_len {l : List UInt8} {m k : Nat} (h : k ≤ m) (hm : m ≤ l.length) (v : Nat) : (wrIn l m k v).length = l.length := by
  unfold wrIn; rw [List.length_append, List.length_append, List.length_take, be_len, List.length_drop]; omega
theorem wrIn_step {l : List UInt8} {m k : Nat} (h : k < m) (hm : m ≤ l.length) (v : Nat) : wrIn l m (k + 1) v = (wrIn l m k v).set (m - 1 - k) (UInt8.ofNat (v / 256 ^ k % 256)) := by
  unfold wrIn
  have e : l.take (m - k) = l.take (m - (k + 1)) ++ [l[m - (k + 1)]'(by omega)] := by
    rw [show m - k = m - (k + 1) + 1 by omega]
    exact List.take_succ_eq_append_getElem (by omega)
  rw [e, be_cons, List.append_assoc, List.set_append_right _ _ (by simp; omega), List.length_take, show m - 1 - k - min (m - (k + 1)) l.length = 0 by omega]
  rfl
theorem bytes_at {l : List UInt8} {j : Nat} (h : j < l.length) : ∃ d : Int, (Lib.byteCells l)[j]? = some (.int .u8 d) := by
  unfold Lib.byteCells
  rw [List.getElem?_map, List.getElem?_eq_getElem h]
  exact ⟨_, rfl⟩
/-- What WriteToSlice leaves. -/
def wrote (l : List UInt8) (x : N4) : List UInt8 := wrIn l (min 32 l.length) (min 32 l.length) x.toNat
theorem wrIn_zero (l : List UInt8) (m v : Nat) : wrIn l m 0 v = l := by
  unfold wrIn
  simp [Lib.beBytes, Lib.leBytes]
theorem grownBy_trans' {w w1 w2 : World} {r : Option Nat} (h : w.grownBy w1 r) (k : w1.grownBy w2 r) : w.grownBy w2 r :=
  ⟨k.os.trans h.os, k.tape.trans h.tape, k.output.trans h.output, Nat.le_trans h.size k.size, fun i hi hne => (k.block i (Nat.lt_of_lt_of_le hi h.size) hne).trans (h.block i hi hne)⟩
theorem wrote_len (l : List UInt8) (x : N4) : (wrote l x).length = l.length := wrIn_len (Nat.le_refl _) (Nat.min_le_right _ _) _
theorem own_bel {w w' : World} {b e s n : Nat} {v : Value} {xs : List Value} (h : w.ownsRow b e s v n xs) (k : Below w.heap.size w w') : w'.ownsRow b e s v n xs := by
  refine h.kept (grown_of_bel k) ?_
  cases hv : v.ownBlock with
  | none => exact .inl rfl
  | some g => exact .inr (by simp)
end Go.Proofs.YtfaocjcpnjmfiaaGreatDoor

namespace Go.Proofs.YtfaocjcpnjmfiaaGreatDoor
open Go.RowKit
set_option linter.unusedVariables false
set_option linter.unusedSimpArgs false
set_option maxRecDepth 100000
end Go.Proofs.YtfaocjcpnjmfiaaGreatDoor

namespace Go.Proofs.YtfaocjcpnjmfiaaGreatDoor
open Go.RowKit
set_option linter.unusedVariables false
set_option linter.unusedSimpArgs false
set_option maxRecDepth 100000
theorem bytes_len (l : List UInt8) : (Lib.byteCells l).length = l.length := Lib.byteCells_length l
theorem bytes_one (l : List UInt8) : (Lib.byteCells l).toArray.all (·.oneCell') = true := all_oneCell_toArray fun v hv => by
  simp only [Lib.byteCells, List.mem_map] at hv
  obtain ⟨d, _, rfl⟩ := hv
  rfl
theorem rangeAt_append {w : World} {g o : Nat} {cs ds : List Value} (h : w.rangeAt g o cs) (k : w.rangeAt g (o + cs.length) ds) : w.rangeAt g o (cs ++ ds) := fun j v hj => by
  rw [List.getElem?_append] at hj
  by_cases hlt : j < cs.length
  · rw [if_pos hlt] at hj
    exact h j v hj
  · rw [if_neg hlt] at hj
    have := k _ v hj
    rwa [show o + cs.length + (j - cs.length) = o + j by omega] at this
theorem SlB.of_range {w : World} {g o n c : Nat} {l : List UInt8} (h : w.rangeAt g o (Lib.byteCells l)) (hn : n = l.length) (hc : n ≤ c) : SlB w (.slice (some ⟨g, o, none⟩) n c) l := by
  subst hn
  exact ⟨_, c, rfl, hc, fun i b hb => ⟨g, o, rfl, h i _ (bytes_get l i b hb)⟩⟩
theorem SlB.eq {w : World} {v : Value} {l m : List UInt8} (h : SlB w v l) (e : l = m) : SlB w v m := e ▸ h
theorem there_part {w : World} {g n o k : Nat} (h : w.there g 0 n) (hk : o + k ≤ n) : w.there g o k := fun j hj => by
  have := h (o + j) (by omega)
  rwa [Nat.zero_add] at this
theorem there_bel' {w w' : World} {b o n : Nat} (h : w.there b o n) (k : Below w.heap.size w w') : w'.there b o n := fun j hj => by
  have := there_bel h (by omega) k j hj
  exact this
/-- A row of bytes that is being filled: the first bytes l stand in block g. -/
structure Fill (w : World) (b o : Nat) (x : N4) (g r n : Nat) (l : List UInt8) (W : World) : Prop where
  at4 : At4 W b o x
  here : W.there g 0 n
  res : W.there r 0 n
  row : W.rangeAt g 0 (Lib.byteCells l)
  bel : Below w.heap.size w W
theorem Fill.put {w W : World} {b o g r n : Nat} {x : N4} {l : List UInt8} (h : Fill w b o x g r n l W) (hb : b < w.heap.size) (hg : w.heap.size ≤ g) (m : List UInt8) (hm : l.length + m.length ≤ n) (ob : Obj) :
    Fill w b o x g r n (l ++ m) ((W.alloc ob).drew.setCells g l.length (Lib.byteCells m)) := by
  show Fill w b o x g r n (l ++ m) ((W.drew.alloc ob).setCells g l.length (Lib.byteCells m))
  have hne : b ≠ g := by omega
  refine ⟨?_, ?_, World.there_setCells (World.there_alloc ((World.there_drew W r 0 n).2 h.res) ob) _ _ _, ?_, ?_⟩
  · exact ((h.at4.drewN 1).alloc ob).setFar4 hne
  · exact World.there_setCells (World.there_alloc ((World.there_drew W g 0 n).2 h.here) ob) _ _ _
  · rw [Lib.byteCells_append]
    refine rangeAt_append (World.rangeAt_setCells_apart (World.rangeAt_alloc ((World.rangeAt_drew W g 0 _).2 h.row) ob) _ _ _ (.inr (.inl (by rw [bytes_len]; omega)))) ?_
    rw [bytes_len, Nat.zero_add]
    exact World.rangeAt_setCells_same _ _ _ _ (there_part (World.there_alloc ((World.there_drew W g 0 n).2 h.here) ob) (by rw [bytes_len]; exact hm))
  · exact setCells_bel' (bel_alloc (bel_drew h.bel) ob) hg
theorem Fill.same {w W : World} {b o g r n : Nat} {x : N4} {l m : List UInt8} (h : Fill w b o x g r n l W) (e : l = m) : Fill w b o x g r n m W := e ▸ h
theorem Fill.start (w : World) (b o : Nat) (x : N4) (hx : At4 w b o x) (n : Nat) (A : Array Value) (hA : A.size = n) (t : TypeId) : Fill w b o x (w.heap.size + 1) w.heap.size n [] ((w.alloc (.cells A t)).alloc (.cells A t)) := by
  refine ⟨(hx.alloc _).alloc _, ?_, World.there_alloc (there_new w t A n (by omega)) _, fun j v hv => by simp [Lib.byteCells] at hv, bel_alloc (bel_alloc (bel_refl w) _) _⟩
  have := there_new (w.alloc (.cells A t)) t A n (by omega)
  simpa using this
theorem u32_of (c : W64) : IntKind.u32.wrap (U c) = ((c.toNat % 4294967296 : Nat) : Int) := by
  unfold U
  simp [IntKind.wrap, IntKind.bits, IntKind.signed]
/-- The 32 bytes, word by word. -/
theorem be32_words (x : N4) : ((Lib.beBytes 8 x.d.toNat ++ Lib.beBytes 8 x.c.toNat) ++ Lib.beBytes 8 x.b.toNat) ++ Lib.beBytes 8 x.a.toNat = Lib.beBytes 32 x.toNat := by
  have h0 := x.a.isLt; have h1 := x.b.isLt; have h2 := x.c.isLt; have h3 := x.d.isLt
  rw [show (32 : Nat) = 24 + 8 from rfl, be_append, show (24 : Nat) = 16 + 8 from rfl, be_append, show (16 : Nat) = 8 + 8 from rfl, be_append]
  congr 1
  · congr 1
    · congr 1
      · exact be_mod _ _ _ (by unfold N4.toNat; omega)
      · exact be_mod _ _ _ (by unfold N4.toNat; omega)
    · exact be_mod _ _ _ (by unfold N4.toNat; omega)
  · exact be_mod _ _ _ (by unfold N4.toNat; omega)
theorem be20_words (x : N4) : (Lib.beBytes 4 (x.c.toNat % 4294967296) ++ Lib.beBytes 8 x.b.toNat) ++ Lib.beBytes 8 x.a.toNat = Lib.beBytes 20 x.toNat := by
  have h0 := x.a.isLt; have h1 := x.b.isLt; have h2 := x.c.isLt; have h3 := x.d.isLt
  rw [show (20 : Nat) = 12 + 8 from rfl, be_append, show (12 : Nat) = 4 + 8 from rfl, be_append]
  congr 1
  · congr 1
    · exact be_mod _ _ _ (by unfold N4.toNat; omega)
    · exact be_mod _ _ _ (by unfold N4.toNat; omega)
  · exact be_mod _ _ _ (by unfold N4.toNat; omega)
theorem range_drop {w : World} {g o : Nat} {cs : List Value} (h : w.rangeAt g o cs) (k : Nat) (hk : k ≤ cs.length) : w.rangeAt g (o + k) (cs.drop k) := fun j v hj => by
  rw [List.getElem?_drop] at hj
  have := h _ v hj
  rwa [← Nat.add_assoc] at this
end Go.Proofs.YtfaocjcpnjmfiaaGreatDoor

namespace Go.Proofs.YtfaocjcpnjmfiaaGreatDoor
open Go.RowKit
set_option linter.unusedVariables false
set_option linter.unusedSimpArgs false
set_option maxRecDepth 100000
/-- A digit of sixteen, as text. -/
def hexd (n : Nat) : UInt8 := if n < 10 then UInt8.ofNat (48 + n) else UInt8.ofNat (87 + n)
/-- The lowest k digits of sixteen of v, the highest first. -/
def hexs (k v : Nat) : List UInt8 := (List.range k).map fun i => hexd (v / 16 ^ (k - 1 - i) % 16)
theorem hexs_len (k v : Nat) : (hexs k v).length = k := by simp [hexs]
theorem hexs_get (k v i : Nat) : (hexs k v)[i]? = if i < k then some (hexd (v / 16 ^ (k - 1 - i) % 16)) else none := by
  unfold hexs
  rw [List.getElem?_map]
  by_cases h : i < k
  · rw [if_pos h, List.getElem?_range h]; rfl
  · rw [if_neg h, List.getElem?_eq_none (by simp; omega)]; rfl
theorem hexs_drop (k v : Nat) : (hexs (k + 1) v).drop 1 = hexs k v := by
  apply List.ext_getElem?
  intro i
  rw [List.getElem?_drop, hexs_get, hexs_get]
  by_cases h : i < k
  · rw [if_pos (by omega), if_pos h]
    congr 5
    omega
  · rw [if_neg (by omega), if_neg h]
theorem hexs_head (k v : Nat) : (hexs (k + 1) v)[0]? = some (hexd (v / 16 ^ k % 16)) := by rw [hexs_get, if_pos (by omega)]; rfl
theorem hexs_take (v j : Nat) (hj : j < 32) : (hexs 64 v).take (2 * (j + 1)) = (hexs 64 v).take (2 * j) ++ [hexd (v / 16 ^ (63 - 2 * j) % 16), hexd (v / 16 ^ (62 - 2 * j) % 16)] := by
  rw [show 2 * (j + 1) = 2 * j + 1 + 1 by omega, List.take_add_one, List.take_add_one, hexs_get, hexs_get, if_pos (by omega), if_pos (by omega), List.append_assoc]
  congr 1
  show [_] ++ [_] = _
  rw [show 64 - 1 - (2 * j) = 63 - 2 * j by omega, show 64 - 1 - (2 * j + 1) = 62 - 2 * j by omega]
  rfl
theorem hexd_zero (n : Nat) (h : n < 16) : ((hexd n).toNat = 48) ↔ n = 0 := by
  have : ∀ m, m < 16 → (((hexd m).toNat = 48) ↔ m = 0) := by decide
  exact this n h
/-- The digits of a byte. -/
def nibHi (b : UInt8) : Nat := b.toNat / 16
def nibLo (b : UInt8) : Nat := b.toNat % 16
theorem nibHi_lt (b : UInt8) : nibHi b < 16 := by unfold nibHi; have := b.toNat_lt; omega
theorem nibLo_lt (b : UInt8) : nibLo b < 16 := Nat.mod_lt _ (by decide)
theorem u8_shr4 (b : UInt8) : (b.toNat : Int) / 16 = (nibHi b : Int) := by unfold nibHi; omega
theorem u8_and15 (b : UInt8) : bits BinOp.and IntKind.u8 (b.toNat : Int) 15 = (nibLo b : Int) := by
  have : ∀ n : Fin 256, bits BinOp.and IntKind.u8 (n.val : Int) 15 = ((n.val % 16 : Nat) : Int) := by decide +kernel
  exact this ⟨b.toNat, b.toNat_lt⟩
/-- The lowest digit of a word. -/
def nibW (y : W64) : Nat := y.toNat % 16
theorem nibW_lt (y : W64) : nibW y < 16 := Nat.mod_lt _ (by decide)
theorem u8_nibW (y : W64) : bits BinOp.and IntKind.u8 (IntKind.u8.wrap (U y)) 15 = (nibW y : Int) := by
  have h := u8_and15 (UInt8.ofNat y.toNat)
  have e : IntKind.u8.wrap (U y) = ((UInt8.ofNat y.toNat).toNat : Int) := by
    rw [UInt8.toNat_ofNat']
    simp [IntKind.wrap, IntKind.bits, IntKind.signed, U]
  rw [e, h]
  unfold nibLo nibW
  rw [UInt8.toNat_ofNat']
  omega
theorem nibW_and (y : W64) : nibW (y &&& 15#64) = nibW y := by
  unfold nibW
  rw [BitVec.toNat_and, show (15#64 : W64).toNat = 2 ^ 4 - 1 from rfl, Nat.and_two_pow_sub_one_eq_mod]
  omega
theorem nibW_shr (y : W64) (k : Nat) : nibW (y >>> k) = y.toNat / 2 ^ k % 16 := by
  unfold nibW
  rw [BitVec.toNat_ushiftRight, Nat.shiftRight_eq_div_pow]
theorem u64_and15 (x : W64) : bits BinOp.and IntKind.u64 (U x) (15 : Int) = U (x &&& 15#64) := u64_and x 15#64
theorem u64_div4 (x : W64) : U x / (16 : Int) = U (x >>> (4 : Nat)) := by
  unfold U; rw [BitVec.toNat_ushiftRight, Nat.shiftRight_eq_div_pow]; omega
theorem u64_div8 (x : W64) : U x / (256 : Int) = U (x >>> (8 : Nat)) := by
  unfold U; rw [BitVec.toNat_ushiftRight, Nat.shiftRight_eq_div_pow]; omega
theorem u64_div12 (x : W64) : U x / (4096 : Int) = U (x >>> (12 : Nat)) := by
  unfold U; rw [BitVec.toNat_ushiftRight, Nat.shiftRight_eq_div_pow]; omega
theorem u64_div16 (x : W64) : U x / (65536 : Int) = U (x >>> (16 : Nat)) := by
  unfold U; rw [BitVec.toNat_ushiftRight, Nat.shiftRight_eq_div_pow]; omega
theorem u64_div20 (x : W64) : U x / (1048576 : Int) = U (x >>> (20 : Nat)) := by
  unfold U; rw [BitVec.toNat_ushiftRight, Nat.shiftRight_eq_div_pow]; omega
theorem u64_div24 (x : W64) : U x / (16777216 : Int) = U (x >>> (24 : Nat)) := by
  unfold U; rw [BitVec.toNat_ushiftRight, Nat.shiftRight_eq_div_pow]; omega
theorem u64_div28 (x : W64) : U x / (268435456 : Int) = U (x >>> (28 : Nat)) := by
  unfold U; rw [BitVec.toNat_ushiftRight, Nat.shiftRight_eq_div_pow]; omega
theorem u64_div32 (x : W64) : U x / (4294967296 : Int) = U (x >>> (32 : Nat)) := by
  unfold U; rw [BitVec.toNat_ushiftRight, Nat.shiftRight_eq_div_pow]; omega
theorem u64_div36 (x : W64) : U x / (68719476736 : Int) = U (x >>> (36 : Nat)) := by
  unfold U; rw [BitVec.toNat_ushiftRight, Nat.shiftRight_eq_div_pow]; omega
theorem u64_div40 (x : W64) : U x / (1099511627776 : Int) = U (x >>> (40 : Nat)) := by
  unfold U; rw [BitVec.toNat_ushiftRight, Nat.shiftRight_eq_div_pow]; omega
theorem u64_div44 (x : W64) : U x / (17592186044416 : Int) = U (x >>> (44 : Nat)) := by
  unfold U; rw [BitVec.toNat_ushiftRight, Nat.shiftRight_eq_div_pow]; omega
theorem u64_div48 (x : W64) : U x / (281474976710656 : Int) = U (x >>> (48 : Nat)) := by
  unfold U; rw [BitVec.toNat_ushiftRight, Nat.shiftRight_eq_div_pow]; omega
theorem u64_div52 (x : W64) : U x / (4503599627370496 : Int) = U (x >>> (52 : Nat)) := by
  unfold U; rw [BitVec.toNat_ushiftRight, Nat.shiftRight_eq_div_pow]; omega
theorem u64_div56 (x : W64) : U x / (72057594037927936 : Int) = U (x >>> (56 : Nat)) := by
  unfold U; rw [BitVec.toNat_ushiftRight, Nat.shiftRight_eq_div_pow]; omega
theorem u64_div60 (x : W64) : U x / (1152921504606846976 : Int) = U (x >>> (60 : Nat)) := by
  unfold U; rw [BitVec.toNat_ushiftRight, Nat.shiftRight_eq_div_pow]; omega
/-- A digit out of the table. -/
theorem hexIdx (n : Nat) (h : n < 16) (w : World) : (Instr.index 9 (.string ⟨#[48, 49, 50, 51, 52, 53, 54, 55, 56, 57, 97, 98, 99, 100, 101, 102]⟩) (.int .u8 (n : Int))).run Tryz.prog w = .ok (.int .u8 ((hexd n).toNat : Int)) w := by
  rcases (by omega : n = 0 ∨ n = 1 ∨ n = 2 ∨ n = 3 ∨ n = 4 ∨ n = 5 ∨ n = 6 ∨ n = 7 ∨ n = 8 ∨ n = 9 ∨ n = 10 ∨ n = 11 ∨ n = 12 ∨ n = 13 ∨ n = 14 ∨ n = 15) with rfl | rfl | rfl | rfl | rfl | rfl | rfl | rfl | rfl | rfl | rfl | rfl | rfl | rfl | rfl | rfl <;> kernel_rfl
theorem hexIdxW (y : W64) (w : World) : (Instr.index 9 (.string ⟨#[48, 49, 50, 51, 52, 53, 54, 55, 56, 57, 97, 98, 99, 100, 101, 102]⟩) (.int .u8 (nibW y : Int))).run Tryz.prog w = .ok (.int .u8 ((hexd (nibW y)).toNat : Int)) w := hexIdx _ (nibW_lt y) w
theorem hexIdxHi (b : UInt8) (w : World) : (Instr.index 9 (.string ⟨#[48, 49, 50, 51, 52, 53, 54, 55, 56, 57, 97, 98, 99, 100, 101, 102]⟩) (.int .u8 (nibHi b : Int))).run Tryz.prog w = .ok (.int .u8 ((hexd (nibHi b)).toNat : Int)) w := hexIdx _ (nibHi_lt b) w
theorem hexIdxLo (b : UInt8) (w : World) : (Instr.index 9 (.string ⟨#[48, 49, 50, 51, 52, 53, 54, 55, 56, 57, 97, 98, 99, 100, 101, 102]⟩) (.int .u8 (nibLo b : Int))).run Tryz.prog w = .ok (.int .u8 ((hexd (nibLo b)).toNat : Int)) w := hexIdx _ (nibLo_lt b) w
theorem hexIdxU (y : W64) (w : World) : (Instr.index 9 (.string ⟨#[48, 49, 50, 51, 52, 53, 54, 55, 56, 57, 97, 98, 99, 100, 101, 102]⟩) (.int .u8 (U y % 16))).run Tryz.prog w = .ok (.int .u8 ((hexd (nibW y)).toNat : Int)) w := by
  have e : U y % 16 = (nibW y : Int) := by unfold U nibW; omega
  rw [e]; exact hexIdxW y w
attribute [local go_sem ↓] hexIdxU hexIdxW hexIdxHi hexIdxLo
attribute [local go_sem] u8_nibW u8_shr4 u8_and15 nibW_and u64_and15 u64_div4 u64_div8 u64_div12 u64_div16 u64_div20 u64_div24 u64_div28 u64_div32 u64_div36 u64_div40 u64_div44 u64_div48 u64_div52 u64_div56 u64_div60
/-- How many digits of sixteen a number has, one at least. -/
def N4.nh (x : N4) : Nat := if x.bits = 0 then 1 else (x.bits + 3) / 4
theorem nh_le (x : N4) : 1 ≤ x.nh ∧ x.nh ≤ 64 := by have := (bits_spec x).2.2; unfold N4.nh; split <;> omega
theorem pow16n (n : Nat) : 16 ^ n = 2 ^ (4 * n) := by rw [Nat.pow_mul]
theorem nh_lt (x : N4) : x.toNat < 16 ^ x.nh := by
  rw [pow16n]
  refine Nat.lt_of_lt_of_le (bits_spec x).1 (Nat.pow_le_pow_right (by decide) ?_)
  unfold N4.nh; split <;> omega
theorem nh_high (x : N4) {k : Nat} (h : x.nh ≤ k) : x.toNat / 16 ^ k % 16 = 0 := by
  rw [Nat.div_eq_of_lt (Nat.lt_of_lt_of_le (nh_lt x) (Nat.pow_le_pow_right (by decide) h))]
theorem nh_top (x : N4) (h : 1 < x.nh) : x.toNat / 16 ^ (x.nh - 1) % 16 ≠ 0 := by
  have hb : x.bits ≠ 0 := by intro e; unfold N4.nh at h; rw [if_pos e] at h; omega
  have hx : x.toNat ≠ 0 := by
    intro e
    have h0 : x = ⟨0#64, 0#64, 0#64, 0#64⟩ := by apply toNat_inj; rw [e]; rfl
    subst h0
    exact hb (by decide)
  obtain ⟨h1, h2⟩ := (bits_spec x).2.1 hx
  have e : x.nh = (x.bits + 3) / 4 := if_neg hb
  have h3 : 16 ^ (x.nh - 1) ≤ x.toNat := by
    rw [pow16n]
    exact Nat.le_trans (Nat.pow_le_pow_right (by decide) (by omega)) h2
  have h4 := nh_lt x
  have h5 : 0 < x.toNat / 16 ^ (x.nh - 1) := Nat.div_pos h3 (Nat.pow_pos (by decide))
  have h6 : x.toNat / 16 ^ (x.nh - 1) < 16 := by
    apply Nat.div_lt_of_lt_mul
    rw [← Nat.pow_succ]
    rwa [show (x.nh - 1).succ = x.nh by omega]
  rw [Nat.mod_eq_of_lt h6]
  omega
/-- A digit of a number, out of its words. -/
theorem nib_wd (x : N4) (i t : Nat) (hi : i < 4) (ht : t < 16) : (x.wd i).toNat / 2 ^ (4 * t) % 16 = x.toNat / 16 ^ (16 * i + t) % 16 := by
  rw [wd_toNat x i hi, pow16n, show 4 * (16 * i + t) = 64 * i + 4 * t by omega, Nat.pow_add, ← Nat.div_div_eq_div_mul]
  generalize x.toNat / 2 ^ (64 * i) = y
  have hk : 2 ^ 64 = 2 ^ (4 * t) * 2 ^ (64 - 4 * t) := by rw [← Nat.pow_add]; congr 1; omega
  rw [hk, Nat.mod_mul_right_div_self]
  refine Nat.mod_mod_of_dvd _ ?_
  rw [show 64 - 4 * t = 4 + (60 - 4 * t) by omega, Nat.pow_add]
  exact Nat.dvd_mul_right _ _
/-- The text. -/
def hexText (x : N4) : List UInt8 := 48 :: 120 :: hexs x.nh x.toNat
theorem wp_append_at {P : Program} (w : World) {o : Oper} {a : Act} {K : Act → World → Prop} {Q : Exit → Act → World → Prop} (s x : Operand) (t : TypeId)
    (ho : o.op = .call { callee := .builtin .append, args := #[s, x], argTypes := #[t, t] })
    (base : Nat) (e : TypeId) (i : TypeInfo) (ht : P.underlying t = some (.slice e)) (hi : P.info? e = some i) (hz : i.zero = some (.int .u8 0)) (hsize : i.size = 1) (hby : i.bytes = 1)
    (v : Value) (n : Nat) (xs : List Value) (hs : a.eval s = v) (hown : w.ownsRow base e 1 v n xs) (ad : Addr) (m c : Nat) (news : List UInt8) (hx : a.eval x = .slice (some ad) m c) (hl : news.length = m)
    (hnews : ∀ j u, (Lib.byteCells news)[j]? = some u → w.cell? (ad.add j) = some u) (hbytes : n + m ≤ 140737488355328) (hbase : base ≤ w.heap.size)
    (h : ∀ v' w', w'.ownsRow base e 1 v' (n + m) (xs ++ Lib.byteCells news) → w.grownBy w' v.ownBlock → (v'.ownBlock = v.ownBlock ∨ v'.ownBlock = some w.heap.size) → K (a.put o.dst v') w') : o.wp P a w K Q := by
  obtain ⟨v', w', hr, h2, h3, _, h5⟩ := run_append_own_at (P := P) w base t o.type e i (.int .u8 0) 1 1 ht hi hz hsize hby rfl (by decide) v n xs hown ad m c (Lib.byteCells news) (by rw [Lib.byteCells_length, hl, Nat.mul_one]) hnews (fun u hu => by
    simp only [Lib.byteCells, List.mem_map] at hu
    obtain ⟨d, _, rfl⟩ := hu
    rfl) (by unfold maxLen; omega) (by omega) hbase
  unfold Oper.wp execOp
  simp only [ho, resolve, invoke, builtin, Sem.run_bind, Sem.run_pure, Result.andThen_ok, List.map_toArray, List.map_cons, List.map_nil, hs, hx, hr]
  exact h v' w' h2 h3 h5
theorem cell_grown {w w' : World} {r : Option Nat} {g o : Nat} (h : w.grownBy w' r) (hg : g < w.heap.size) (hr : some g ≠ r) : w'.cell? ⟨g, o, none⟩ = w.cell? ⟨g, o, none⟩ := by
  unfold World.cell?
  rw [h.block g hg hr]
theorem byteAt_nibs (v j : Nat) (hj : j < 32) : nibHi (byteAt v (31 - j)) = v / 16 ^ (63 - 2 * j) % 16 ∧ nibLo (byteAt v (31 - j)) = v / 16 ^ (62 - 2 * j) % 16 := by
  have e : 256 ^ (31 - j) = 16 ^ (62 - 2 * j) := by
    rw [show (256 : Nat) = 16 ^ 2 from rfl, ← Nat.pow_mul]
    congr 1
    omega
  have e2 : 16 ^ (63 - 2 * j) = 16 ^ (62 - 2 * j) * 16 := by rw [← Nat.pow_succ]; congr 1; omega
  unfold nibHi nibLo
  rw [byteAt_toNat, e, e2, ← Nat.div_div_eq_div_mul]
  generalize v / 16 ^ (62 - 2 * j) = y
  omega

/-- A store of one cell. -/
theorem run_storeVar_one {P : Program} (w : World) (b o : Nat) (ty : TypeId) (k : IntKind) (n : Int) (ht : w.there b o 1) (hi : (P.info? ty).map (·.size) = some 1) :
    (storeVar ty ⟨b, o, none⟩ (.int k n)).run P w = .ok () (w.setCells b o [.int k n]) := by
  have := run_storeCells_cells (P := P) b o [.int k n] 0 w (fun j hj => by simpa using (ht j (by simpa using hj)).1) (fun j hj => by simpa using (ht j (by simpa using hj)).2) (fun v hv => by simp at hv; subst hv; rfl)
  cases hq : P.info? ty with
  | none => simp [hq] at hi
  | some i =>
    have hs : i.size = 1 := by simp [hq] at hi; omega
    simp only [Nat.add_zero] at this
    simp [storeVar, sizeOf, typeInfo, hq, Value.cells, hs, this]
/-- The row of 66 bytes while it is filled. -/
structure HexS (w0 : World) (b o : Nat) (x : N4) (g : Nat) (L : List UInt8) (W : World) : Prop where
  at4 : At4 W b o x
  here : W.there g 0 66
  row : W.rangeAt g 0 (Lib.byteCells L)
  bel : Below w0.heap.size w0 W
theorem HexS.put {w0 W : World} {b o g : Nat} {x : N4} {L : List UInt8} (h : HexS w0 b o x g L W) (i : Nat) (d : UInt8) (hl : L.length = 66) (hi : i < 66) (hbg : b ≠ g) (hw : w0.heap.size ≤ g) : HexS w0 b o x g (L.set i d) (W.setCells g i [.int .u8 (d.toNat : Int)]) := by
  refine ⟨h.at4.setFar4 hbg, World.there_setCells h.here _ _ _, fun j v hj => ?_, setCells_bel' h.bel hw⟩
  have hth := h.here i hi
  rw [Nat.zero_add] at hth
  have e : W.setCells g i [.int .u8 (d.toNat : Int)] = W.setCell ⟨g, i, none⟩ (.int .u8 (d.toNat : Int)) := rfl
  rw [e, Nat.zero_add]
  by_cases hij : i = j
  · subst hij
    obtain ⟨c, hc⟩ := Option.isSome_iff_exists.1 hth.1
    rw [World.cell?_setCell_same _ _ _ hc]
    simp only [Lib.byteCells, List.getElem?_map] at hj
    rw [List.getElem?_set_self (by omega)] at hj
    simpa using hj
  · rw [World.cell?_setCell_other _ _ _ _ (by intro e; injection e with e1 e2; exact hij e2)]
    have h1 := h.row j v (by
      simp only [Lib.byteCells, List.getElem?_map] at hj ⊢
      rwa [List.getElem?_set_ne hij] at hj)
    rwa [Nat.zero_add] at h1
theorem wpList_hex {P : Program} {ops : Array Oper} {rest : List Oper} {op : Oper} {a : Act} {W : World} {Q : Exit → Act → World → Prop} (hgd : op.guard = none) (ty : TypeId) (p v : Operand) (ho : op.op = .store ty p v) (g i : Nat) (d : UInt8)
    (hp : a.eval p = .pointer (some ⟨g, i, none⟩)) (hv : a.eval v = .int .u8 (d.toNat : Int)) (hi : (P.info? ty).map (·.size) = some 1) {w0 : World} {b o : Nat} {x : N4} {L : List UInt8} (H : HexS w0 b o x g L W) (hl : L.length = 66) (hlt : i < 66) (hbg : b ≠ g) (hw : w0.heap.size ≤ g)
    (h : ∀ W', HexS w0 b o x g (L.set i d) W' → wpList P ops Q rest (a.put op.dst undef) W') : wpList P ops Q (op :: rest) a W := by
  refine wpList_plain hgd fun K hK => ?_
  unfold Oper.wp execOp
  simp only [ho, hp, hv, Instr.storeAt, Instr.sureAddr, Sem.run_bind, Sem.run_pure, Result.andThen_ok, run_storeVar_one W g i ty _ _ (fun j hj => by have := H.here i hlt; rw [Nat.zero_add] at this; rw [show i + j = i by omega]; exact this) hi]
  exact hK _ _ (h _ (H.put i d hl hlt hbg hw))
/-- The word i's sixteen digits in their places. -/
def put16 (L : List UInt8) (P : Nat) (y : W64) : Nat → List UInt8
  | 0 => L
  | t + 1 => (put16 L P y t).set (P + 2 + t) (hexd (nibW (y >>> (60 - 4 * t))))
theorem put16_len (L : List UInt8) (i : Nat) (y : W64) (t : Nat) : (put16 L i y t).length = L.length := by
  induction t with
  | zero => rfl
  | succ t ih => unfold put16; rw [List.length_set, ih]
theorem put16_get (L : List UInt8) (P i : Nat) (y : W64) (hL : L.length = 66) (hP : P + 16 * i = 48) (t : Nat) (ht : t ≤ 16) (j : Nat) : (put16 L P y t)[j]? = if P + 2 ≤ j ∧ j < P + 2 + t then some (hexd (y.toNat / 2 ^ (60 - 4 * (j - (P + 2))) % 16)) else L[j]? := by
  induction t with
  | zero => rw [if_neg (by omega)]; rfl
  | succ t ih =>
    unfold put16
    rw [List.getElem?_set]
    by_cases hj : P + 2 + t = j
    · rw [if_pos hj, if_pos (by rw [put16_len, hL]; omega), if_pos (by omega), ← hj, Nat.add_sub_cancel_left, nibW_shr]
    · rw [if_neg hj, ih (by omega)]
      by_cases h2 : P + 2 ≤ j ∧ j < P + 2 + t
      · rw [if_pos h2, if_pos (by omega)]
      · rw [if_neg h2, if_neg (by omega)]
theorem nibW_zero (y : W64) : nibW (y >>> 0) = nibW y := by rw [nibW_shr]; unfold nibW; omega
theorem at4_wd {W : World} {b o : Nat} {x : N4} (h : At4 W b o x) {j : Nat} (hj : j < 4) : W.cell? ⟨b, o + j, none⟩ = some (V (x.wd j)) := by
  rcases (by omega : j = 0 ∨ j = 1 ∨ j = 2 ∨ j = 3) with rfl | rfl | rfl | rfl
  · exact h.c0
  · exact h.c1
  · exact h.c2
  · exact h.c3
theorem HexS.slb {w0 W : World} {b o g : Nat} {x : N4} {L : List UInt8} (h : HexS w0 b o x g L W) (hl : L.length = 66) : SlB W (.slice (some ⟨g, 0, none⟩) 66 66) L :=
  ⟨some ⟨g, 0, none⟩, 66, by rw [hl], by omega, fun i d hd => ⟨g, 0, rfl, h.row i _ (bytes_get L i d hd)⟩⟩
/-- What the row holds when the words from i on are done, n of them. -/
def Done (L : List UInt8) (x : N4) (i n : Nat) : Prop := L.length = 66 ∧ ∀ e, 16 * i ≤ e → e < 16 * n → L[65 - e]? = some (hexd (x.toNat / 16 ^ e % 16))
theorem Done.next {L : List UInt8} {x : N4} {i n : Nat} (h : Done L x (i + 1) n) (hn : n ≤ 4) (hi : i < n) : Done (put16 L (48 - 16 * i) (x.wd i) 16) x i n := by
  refine ⟨by rw [put16_len, h.1], fun e h1 h2 => ?_⟩
  rw [put16_get L (48 - 16 * i) i (x.wd i) h.1 (by omega) 16 (Nat.le_refl _)]
  by_cases hc : 16 * (i + 1) ≤ e
  · rw [if_neg (by omega)]
    exact h.2 e hc h2
  · rw [if_pos (by omega), show 65 - e - (48 - 16 * i + 2) = 15 - (e - 16 * i) by omega, show 60 - 4 * (15 - (e - 16 * i)) = 4 * (e - 16 * i) by omega, nib_wd x i _ (by omega) (by omega), show 16 * i + (e - 16 * i) = e by omega]
theorem hex_done {L : List UInt8} {x : N4} {n : Nat} (h : Done L x 0 n) (hn : x.nh ≤ 16 * n) : ((L.set (64 - x.nh) 48).set (65 - x.nh) 120).drop (64 - x.nh) = hexText x := by
  obtain ⟨h1, h64⟩ := nh_le x
  obtain ⟨hl, hd⟩ := h
  apply List.ext_getElem?
  intro i
  rw [List.getElem?_drop, List.getElem?_set, List.getElem?_set]
  unfold hexText
  rcases (by omega : i = 0 ∨ i = 1 ∨ 2 ≤ i) with rfl | rfl | h2
  · rw [if_neg (by omega), if_pos (by omega), if_pos (by omega)]; rfl
  · rw [if_pos (by omega), if_pos (by rw [List.length_set]; omega)]; rfl
  · obtain ⟨j, rfl⟩ : ∃ j, i = j + 2 := ⟨i - 2, by omega⟩
    rw [if_neg (by omega), if_neg (by omega), List.getElem?_cons_succ, List.getElem?_cons_succ, hexs_get]
    by_cases hj : j < x.nh
    · rw [if_pos hj]
      have := hd (x.nh - 1 - j) (by omega) (by omega)
      rwa [show 65 - (x.nh - 1 - j) = 64 - x.nh + (j + 2) by omega] at this
    · rw [if_neg hj, List.getElem?_eq_none (by omega)]
theorem HexS.text {w0 W : World} {b o g : Nat} {x : N4} {L : List UInt8} (h : HexS w0 b o x g L W) (hl : L.length = 66) {K : Nat} (hK : K ≤ 63) (hd : L.drop K = hexText x) : SlB W (.slice (some ⟨g, K, none⟩) (66 - K) (66 - K)) (hexText x) := by
  have h2 := (h.slb hl).cut K (by omega)
  rw [hd, if_neg (by omega)] at h2
  by_cases h0 : K = 0
  · subst h0; simpa [Addr.add] using h2
  · simpa [Addr.add, h0] using h2
theorem put16_all (L : List UInt8) (P : Nat) (y : W64) : put16 L P y 16 = ((((((((((((((((L.set (P + 2) (hexd (nibW (y >>> 60)))).set (P + 3) (hexd (nibW (y >>> 56)))).set (P + 4) (hexd (nibW (y >>> 52)))).set (P + 5) (hexd (nibW (y >>> 48)))).set (P + 6) (hexd (nibW (y >>> 44)))).set (P + 7) (hexd (nibW (y >>> 40)))).set (P + 8) (hexd (nibW (y >>> 36)))).set (P + 9) (hexd (nibW (y >>> 32)))).set (P + 10) (hexd (nibW (y >>> 28)))).set (P + 11) (hexd (nibW (y >>> 24)))).set (P + 12) (hexd (nibW (y >>> 20)))).set (P + 13) (hexd (nibW (y >>> 16)))).set (P + 14) (hexd (nibW (y >>> 12)))).set (P + 15) (hexd (nibW (y >>> 8)))).set (P + 16) (hexd (nibW (y >>> 4)))).set (P + 17) (hexd (nibW y))) := by
  simp only [put16, Nat.reduceMul, Nat.reduceSub, nibW_zero, Nat.add_zero, Nat.add_assoc, Nat.reduceAdd]
/-- The frame of Hex: so many slots; the pointer, the row, the count of digits. -/
structure HexT (b o_ g nh : Nat) (t : Array Value) : Prop where
  sz : t.size = 247
  f0 : t[0]? = some (.pointer (some ⟨b, o_, none⟩))
  f3 : t[3]? = some (.slice (some ⟨g, 0, none⟩) 66 66)
  f4 : t[4]? = some (.int .i64 (nh : Int))
theorem HexT.set {b o_ g nh : Nat} {t : Array Value} (h : HexT b o_ g nh t) (d : Nat) (v : Value) (hd : d ≠ 0 ∧ d ≠ 3 ∧ d ≠ 4) : HexT b o_ g nh (t.setIfInBounds d v) :=
  ⟨by rw [Array.size_setIfInBounds]; exact h.sz, by rw [slot_other _ _ _ _ hd.1]; exact h.f0, by rw [slot_other _ _ _ _ hd.2.1]; exact h.f3, by rw [slot_other _ _ _ _ hd.2.2]; exact h.f4⟩
def Hex247 (t : Array Value) : Prop := t.size = 247
theorem hex247_set (t : Array Value) (d : Nat) (v : Value) : Hex247 (t.setIfInBounds d v) = Hex247 t := by unfold Hex247; rw [Array.size_setIfInBounds]
theorem hex247_same (t : Array Value) (d : Nat) (v : Value) (h : Hex247 t) (hd : d < 247) : (t.setIfInBounds d v)[d]? = some v := slot_same t d v (by unfold Hex247 at h; omega)
attribute [local go_sem] hex247_set hex247_same slot_other
set_option maxHeartbeats 8000000 in
theorem intHex_any (b o : Nat) (x : N4) (w : World) (hx : At4 w b o x) : Calls Tryz.prog 18 #[.pointer (some ⟨b, o, none⟩)] w (RetBel (.string ⟨(hexText x).toArray⟩) w) := by
  obtain ⟨i0, hi, hz0, hz1, hz2⟩ := info_parts Tryz.infoByte
  obtain ⟨hn1, hn64⟩ := nh_le x
  have hb256 := (bits_spec x).2.2
  have hblt := hx.lt
  have hinf : (Tryz.prog.info? 5).map (·.size) = some 1 := by kernel_rfl
  obtain ⟨nn, hnn⟩ : ∃ nn, nn = (x.bits + 3) / 4 := ⟨_, rfl⟩
  have hdiv : ((x.bits : Int) + 3).tdiv 4 = (nn : Int) := by rw [Int.tdiv_eq_ediv_of_nonneg (by omega), hnn]; omega
  have hwr : wrap64 (nn : Int) = (nn : Int) := IntWalk.wrap64_in _ (by omega)
  have hnn64 : nn ≤ 64 := by omega
  have HNN := Lib.hid hnn
  clear hnn
  go_enter Tryz.func18, Tryz.ntmps18
  go_wp2_with (at_make; refine wpList_make_full _ rfl _ _ 43 rfl w.heap.size 5 i0 (.int .u8 0) 1 Tryz.underlying43 hi hz0 hz1 _ _ _ _ 66 rfl rfl (by omega) (by omega) ?_ ?_ ?_ ?_)
  · rw [hz2]; omega
  · unfold maxLen; omega
  · exact Nat.le_refl _
  intro w2 hown2 hgrow2
  rw [bytes_made] at hown2
  have hb2 : Below w.heap.size w w2 := (bel_refl w).grown hgrow2 (Nat.le_refl _) (fun g hg => by cases hg)
  go_upto_if 14 with (go_at_call 35; refine (bitLen_any b o x _ (hx.bel hb2)).mono ?_; rintro e w3 ⟨rfl, hw3⟩; subst hw3)
  have hth : w3.there w.heap.size 0 66 := fun j hj => by
    have h1 := hown2.cellAt j (by omega)
    have h2 := hown2.frozenAt j
    rw [Nat.zero_add]
    refine ⟨?_, h2⟩
    rw [h1]
    simp [Lib.byteCells, hj]
  have H : HexS w b o x w.heap.size (List.replicate 66 0) w3 := ⟨hx.bel hb2, hth, fun j v hv => by
    have := hown2.cells (g := w.heap.size) rfl j v (by simpa using hv)
    rwa [Addr.add_mid] at this, hb2⟩
  clear hown2 hgrow2 hth hb2 hx
  go_cut [4] (fun s wx => s = .int .i64 (x.nh : Int) ∧ wx = w3)
  case first =>
    by_cases hb0 : x.bits = 0
    · have e1 : (x.nh : Int) = 1 := by unfold N4.nh; rw [if_pos hb0]; rfl
      have e2 : ((nn : Int) == 0) = true := by have := HNN.out; simp; omega
      go_wp2
      go_meet
      exact ⟨by rw [e1], rfl⟩
    · have e1 : Hid (x.nh = nn) := by show _ = _; rw [HNN.out]; exact if_neg hb0
      have e2 : ((nn : Int) == 0) = false := by have := HNN.out; simp; omega
      go_wp2
      go_meet
      exact ⟨by rw [e1.out], rfl⟩
  case rest =>
    obtain ⟨rfl, rfl⟩ := hcut
    have hbg : b ≠ w.heap.size := by omega
    obtain ⟨n, hn⟩ : ∃ n, n = (x.nh - 1) / 16 := ⟨_, rfl⟩
    have hz : ((x.nh : Int) - 1).tdiv 16 = (n : Int) := by rw [Int.tdiv_eq_ediv_of_nonneg (by omega), hn]; omega
    have hn3 : n ≤ 3 := by omega
    have HNH : Hid (x.nh ≤ 16 * (n + 1)) := by show _ ≤ _; omega
    clear hn
    go_upto_region 5 with fail
    refine frame_code (fun t => HexT b o w.heap.size x.nh t) ?_ ?_
    · exact ⟨rfl, rfl, rfl, rfl⟩
    rintro t T
    have hs : Hex247 t := T.sz; have f0 := T.f0; have f3 := T.f3; have f4 := T.f4
    go_wp2
    refine wp_loop (fun a wr => ∃ (k : Nat) (L : List UInt8), a.defers = [] ∧ HexT b o w.heap.size x.nh a.tmps ∧ k ≤ n + 1 ∧ a.tmps[6]? = some (.int .i64 ((k : Int) - 1)) ∧ Hid (Done L x k (n + 1)) ∧ HexS w b o x w.heap.size L wr) (fun a _ => (intOf (a.tmps[6]?.getD undef) + 1).toNat) ?_ ?_
    · refine ⟨n + 1, List.replicate 66 0, rfl, ?_, Nat.le_refl _, ?_, ⟨by simp, fun e h1 h2 => by omega⟩, H⟩
      · ((try dsimp only); repeat (first | with_reducible exact T | with_reducible refine HexT.set ?_ _ _ (by decide)))
      · (try dsimp only); simp (decide := true) only [hex247_set, hex247_same, slot_other, hs]
        congr 2
        omega
    · clear H
      rintro ⟨t, d⟩ wr ⟨k, L, hd, T, hk, f6, hD, H⟩
      dsimp only at hd T f6
      subst hd
      have hs : Hex247 t := T.sz; have f0 := T.f0; have f3 := T.f3; have f4 := T.f4
      have hL66 := hD.out.1
      rcases Nat.eq_zero_or_pos k with h0 | h0
      · subst h0
        obtain ⟨K, hK⟩ : ∃ K, K + x.nh = 64 := ⟨64 - x.nh, by omega⟩
        have hk1 : (64 : Int) - (x.nh : Int) = (K : Int) := by omega
        have hk2 : (65 : Int) - (x.nh : Int) = (K : Int) + 1 := by omega
        have hdone := hex_done hD.out (by have := HNH.out; omega)
        rw [show 64 - x.nh = K by omega, show 65 - x.nh = K + 1 by omega] at hdone
        have HDN := Lib.hid hdone
        have hK63 : K ≤ 63 := by omega
        have hK2 : (K : Int) ≤ 66 := by omega
        have f6' : t[6]? = some (.int .i64 (-1)) := f6
        clear hdone f6
        go_wp2
        refine wp_cond_false (slot_eval (by (try dsimp only); simp (decide := true) only [hex247_set, hex247_same, slot_other, hs])) ?_
        go_wp2_with (first
          | ((with_reducible show wpList _ _ _ (⟨none, Op.store _ (.tmp _) (.const (.int .u8 48)), _, _, _, _⟩ :: _) _ _); refine wpList_hex rfl _ _ _ rfl w.heap.size K 48 (slot_eval (by (try dsimp only); simp (decide := true) only [hex247_set, hex247_same, slot_other, hs])) rfl hinf H hL66 (by omega) hbg (Nat.le_refl _) ?_; clear H; intro W1 H)
          | ((with_reducible show wpList _ _ _ (⟨none, Op.store _ (.tmp _) (.const (.int .u8 120)), _, _, _, _⟩ :: _) _ _); refine wpList_hex rfl _ _ _ rfl w.heap.size (K + 1) 120 (slot_eval (by (try dsimp only); simp (decide := true) only [hex247_set, hex247_same, slot_other, hs])) rfl hinf H (by simpa only [List.length_set] using hL66) (by omega) hbg (Nat.le_refl _) ?_; clear H; intro W1 H; have hconv := conv_slb (H.text (by simpa only [List.length_set] using hL66) hK63 HDN.out); have HBL := Lib.hid H.bel; clear H))
        go_ret
        dsimp only
        refine retBel (slot_getD (by (try dsimp only); simp (decide := true) only [hex247_set, hex247_same, slot_other, hs])) HBL.out
      · obtain ⟨j, rfl⟩ : ∃ j, k = j + 1 := ⟨k - 1, by omega⟩
        have hj : ((j + 1 : Nat) : Int) - 1 = (j : Int) := by omega
        rw [hj] at f6
        have hj4 : j < 4 := by omega
        obtain ⟨P, hP⟩ : ∃ P, P + 16 * j = 48 := ⟨48 - 16 * j, by omega⟩
        have hoff : ((3 : Int) - (j : Int)) * 16 = (P : Int) := by omega
        have hP48 : P ≤ 48 := by omega
        have hj4i : (j : Int) < 4 := by omega
        have hc := at4_wd H.at4 hj4
        have NX := Lib.hid (hD.out.next (by omega) (by omega))
        have HK := Lib.hid hk
        have HM := Lib.hid (show intOf (t[6]?.getD undef) = (j : Int) by rw [f6]; rfl)
        clear hk h0 hj
        go_wp2
        refine wp_cond_true (slot_eval (by (try dsimp only); simp (decide := true) only [hex247_set, hex247_same, slot_other, hs])) ?_
        go_upto_region 10 with fail
        refine frame_code (fun t => HexT b o w.heap.size x.nh t ∧ t[6]? = some (.int .i64 (j : Int)) ∧ t[7]? = some (.int .i64 (P : Int))) ?_ ?_
        · refine ⟨?_, ?_, ?_⟩
          · ((try dsimp only); repeat (first | with_reducible exact T | with_reducible refine HexT.set ?_ _ _ (by decide)))
          · (try dsimp only); simp (decide := true) only [hex247_set, hex247_same, slot_other, hs, f6]
          · (try dsimp only); simp (decide := true) only [hex247_set, hex247_same, slot_other, hs]
        clear hs f0 f3 f4 f6 T
        try clear t
        rintro t ⟨T, f6, f7⟩
        have hs : Hex247 t := T.sz; have f0 := T.f0; have f3 := T.f3; have f4 := T.f4
        go_upto_region 11 with ((with_reducible show wpList _ _ _ (⟨none, Op.store _ _ _, _, _, _, _⟩ :: _) _ _); refine wpList_hex rfl _ _ _ rfl w.heap.size (P + 2) (hexd (nibW (x.wd j >>> 60))) (slot_eval (by (try dsimp only); simp (decide := true) only [hex247_set, hex247_same, slot_other, hs])) (slot_eval (by (try dsimp only); simp (decide := true) only [hex247_set, hex247_same, slot_other, hs])) hinf H (by simpa only [List.length_set] using hL66) (by omega) hbg (Nat.le_refl _) ?_; clear H hc; intro W1 H; have hc := at4_wd H.at4 hj4)
        refine frame_code (fun t => HexT b o w.heap.size x.nh t ∧ t[6]? = some (.int .i64 (j : Int)) ∧ t[7]? = some (.int .i64 (P : Int))) ?_ ?_
        · refine ⟨?_, ?_, ?_⟩
          · ((try dsimp only); repeat (first | with_reducible exact T | with_reducible refine HexT.set ?_ _ _ (by decide)))
          · (try dsimp only); simp (decide := true) only [hex247_set, hex247_same, slot_other, hs, f6]
          · (try dsimp only); simp (decide := true) only [hex247_set, hex247_same, slot_other, hs, f7]
        clear hs f0 f3 f4 f6 f7 T
        try clear t
        rintro t ⟨T, f6, f7⟩
        have hs : Hex247 t := T.sz; have f0 := T.f0; have f3 := T.f3; have f4 := T.f4
        go_upto_region 12 with ((with_reducible show wpList _ _ _ (⟨none, Op.store _ _ _, _, _, _, _⟩ :: _) _ _); refine wpList_hex rfl _ _ _ rfl w.heap.size (P + 3) (hexd (nibW (x.wd j >>> 56))) (slot_eval (by (try dsimp only); simp (decide := true) only [hex247_set, hex247_same, slot_other, hs])) (slot_eval (by (try dsimp only); simp (decide := true) only [hex247_set, hex247_same, slot_other, hs])) hinf H (by simpa only [List.length_set] using hL66) (by omega) hbg (Nat.le_refl _) ?_; clear H hc; intro W1 H; have hc := at4_wd H.at4 hj4)
        refine frame_code (fun t => HexT b o w.heap.size x.nh t ∧ t[6]? = some (.int .i64 (j : Int)) ∧ t[7]? = some (.int .i64 (P : Int))) ?_ ?_
        · refine ⟨?_, ?_, ?_⟩
          · ((try dsimp only); repeat (first | with_reducible exact T | with_reducible refine HexT.set ?_ _ _ (by decide)))
          · (try dsimp only); simp (decide := true) only [hex247_set, hex247_same, slot_other, hs, f6]
          · (try dsimp only); simp (decide := true) only [hex247_set, hex247_same, slot_other, hs, f7]
        clear hs f0 f3 f4 f6 f7 T
        try clear t
        rintro t ⟨T, f6, f7⟩
        have hs : Hex247 t := T.sz; have f0 := T.f0; have f3 := T.f3; have f4 := T.f4
        go_upto_region 13 with ((with_reducible show wpList _ _ _ (⟨none, Op.store _ _ _, _, _, _, _⟩ :: _) _ _); refine wpList_hex rfl _ _ _ rfl w.heap.size (P + 4) (hexd (nibW (x.wd j >>> 52))) (slot_eval (by (try dsimp only); simp (decide := true) only [hex247_set, hex247_same, slot_other, hs])) (slot_eval (by (try dsimp only); simp (decide := true) only [hex247_set, hex247_same, slot_other, hs])) hinf H (by simpa only [List.length_set] using hL66) (by omega) hbg (Nat.le_refl _) ?_; clear H hc; intro W1 H; have hc := at4_wd H.at4 hj4)
        refine frame_code (fun t => HexT b o w.heap.size x.nh t ∧ t[6]? = some (.int .i64 (j : Int)) ∧ t[7]? = some (.int .i64 (P : Int))) ?_ ?_
        · refine ⟨?_, ?_, ?_⟩
          · ((try dsimp only); repeat (first | with_reducible exact T | with_reducible refine HexT.set ?_ _ _ (by decide)))
          · (try dsimp only); simp (decide := true) only [hex247_set, hex247_same, slot_other, hs, f6]
          · (try dsimp only); simp (decide := true) only [hex247_set, hex247_same, slot_other, hs, f7]
        clear hs f0 f3 f4 f6 f7 T
        try clear t
        rintro t ⟨T, f6, f7⟩
        have hs : Hex247 t := T.sz; have f0 := T.f0; have f3 := T.f3; have f4 := T.f4
        go_upto_region 14 with ((with_reducible show wpList _ _ _ (⟨none, Op.store _ _ _, _, _, _, _⟩ :: _) _ _); refine wpList_hex rfl _ _ _ rfl w.heap.size (P + 5) (hexd (nibW (x.wd j >>> 48))) (slot_eval (by (try dsimp only); simp (decide := true) only [hex247_set, hex247_same, slot_other, hs])) (slot_eval (by (try dsimp only); simp (decide := true) only [hex247_set, hex247_same, slot_other, hs])) hinf H (by simpa only [List.length_set] using hL66) (by omega) hbg (Nat.le_refl _) ?_; clear H hc; intro W1 H; have hc := at4_wd H.at4 hj4)
        refine frame_code (fun t => HexT b o w.heap.size x.nh t ∧ t[6]? = some (.int .i64 (j : Int)) ∧ t[7]? = some (.int .i64 (P : Int))) ?_ ?_
        · refine ⟨?_, ?_, ?_⟩
          · ((try dsimp only); repeat (first | with_reducible exact T | with_reducible refine HexT.set ?_ _ _ (by decide)))
          · (try dsimp only); simp (decide := true) only [hex247_set, hex247_same, slot_other, hs, f6]
          · (try dsimp only); simp (decide := true) only [hex247_set, hex247_same, slot_other, hs, f7]
        clear hs f0 f3 f4 f6 f7 T
        try clear t
        rintro t ⟨T, f6, f7⟩
        have hs : Hex247 t := T.sz; have f0 := T.f0; have f3 := T.f3; have f4 := T.f4
        go_upto_region 15 with ((with_reducible show wpList _ _ _ (⟨none, Op.store _ _ _, _, _, _, _⟩ :: _) _ _); refine wpList_hex rfl _ _ _ rfl w.heap.size (P + 6) (hexd (nibW (x.wd j >>> 44))) (slot_eval (by (try dsimp only); simp (decide := true) only [hex247_set, hex247_same, slot_other, hs])) (slot_eval (by (try dsimp only); simp (decide := true) only [hex247_set, hex247_same, slot_other, hs])) hinf H (by simpa only [List.length_set] using hL66) (by omega) hbg (Nat.le_refl _) ?_; clear H hc; intro W1 H; have hc := at4_wd H.at4 hj4)
        refine frame_code (fun t => HexT b o w.heap.size x.nh t ∧ t[6]? = some (.int .i64 (j : Int)) ∧ t[7]? = some (.int .i64 (P : Int))) ?_ ?_
        · refine ⟨?_, ?_, ?_⟩
          · ((try dsimp only); repeat (first | with_reducible exact T | with_reducible refine HexT.set ?_ _ _ (by decide)))
          · (try dsimp only); simp (decide := true) only [hex247_set, hex247_same, slot_other, hs, f6]
          · (try dsimp only); simp (decide := true) only [hex247_set, hex247_same, slot_other, hs, f7]
        clear hs f0 f3 f4 f6 f7 T
        try clear t
        rintro t ⟨T, f6, f7⟩
        have hs : Hex247 t := T.sz; have f0 := T.f0; have f3 := T.f3; have f4 := T.f4
        go_upto_region 16 with ((with_reducible show wpList _ _ _ (⟨none, Op.store _ _ _, _, _, _, _⟩ :: _) _ _); refine wpList_hex rfl _ _ _ rfl w.heap.size (P + 7) (hexd (nibW (x.wd j >>> 40))) (slot_eval (by (try dsimp only); simp (decide := true) only [hex247_set, hex247_same, slot_other, hs])) (slot_eval (by (try dsimp only); simp (decide := true) only [hex247_set, hex247_same, slot_other, hs])) hinf H (by simpa only [List.length_set] using hL66) (by omega) hbg (Nat.le_refl _) ?_; clear H hc; intro W1 H; have hc := at4_wd H.at4 hj4)
        refine frame_code (fun t => HexT b o w.heap.size x.nh t ∧ t[6]? = some (.int .i64 (j : Int)) ∧ t[7]? = some (.int .i64 (P : Int))) ?_ ?_
        · refine ⟨?_, ?_, ?_⟩
          · ((try dsimp only); repeat (first | with_reducible exact T | with_reducible refine HexT.set ?_ _ _ (by decide)))
          · (try dsimp only); simp (decide := true) only [hex247_set, hex247_same, slot_other, hs, f6]
          · (try dsimp only); simp (decide := true) only [hex247_set, hex247_same, slot_other, hs, f7]
        clear hs f0 f3 f4 f6 f7 T
        try clear t
        rintro t ⟨T, f6, f7⟩
        have hs : Hex247 t := T.sz; have f0 := T.f0; have f3 := T.f3; have f4 := T.f4
        go_upto_region 17 with ((with_reducible show wpList _ _ _ (⟨none, Op.store _ _ _, _, _, _, _⟩ :: _) _ _); refine wpList_hex rfl _ _ _ rfl w.heap.size (P + 8) (hexd (nibW (x.wd j >>> 36))) (slot_eval (by (try dsimp only); simp (decide := true) only [hex247_set, hex247_same, slot_other, hs])) (slot_eval (by (try dsimp only); simp (decide := true) only [hex247_set, hex247_same, slot_other, hs])) hinf H (by simpa only [List.length_set] using hL66) (by omega) hbg (Nat.le_refl _) ?_; clear H hc; intro W1 H; have hc := at4_wd H.at4 hj4)
        refine frame_code (fun t => HexT b o w.heap.size x.nh t ∧ t[6]? = some (.int .i64 (j : Int)) ∧ t[7]? = some (.int .i64 (P : Int))) ?_ ?_
        · refine ⟨?_, ?_, ?_⟩
          · ((try dsimp only); repeat (first | with_reducible exact T | with_reducible refine HexT.set ?_ _ _ (by decide)))
          · (try dsimp only); simp (decide := true) only [hex247_set, hex247_same, slot_other, hs, f6]
          · (try dsimp only); simp (decide := true) only [hex247_set, hex247_same, slot_other, hs, f7]
        clear hs f0 f3 f4 f6 f7 T
        try clear t
        rintro t ⟨T, f6, f7⟩
        have hs : Hex247 t := T.sz; have f0 := T.f0; have f3 := T.f3; have f4 := T.f4
        go_upto_region 18 with ((with_reducible show wpList _ _ _ (⟨none, Op.store _ _ _, _, _, _, _⟩ :: _) _ _); refine wpList_hex rfl _ _ _ rfl w.heap.size (P + 9) (hexd (nibW (x.wd j >>> 32))) (slot_eval (by (try dsimp only); simp (decide := true) only [hex247_set, hex247_same, slot_other, hs])) (slot_eval (by (try dsimp only); simp (decide := true) only [hex247_set, hex247_same, slot_other, hs])) hinf H (by simpa only [List.length_set] using hL66) (by omega) hbg (Nat.le_refl _) ?_; clear H hc; intro W1 H; have hc := at4_wd H.at4 hj4)
        refine frame_code (fun t => HexT b o w.heap.size x.nh t ∧ t[6]? = some (.int .i64 (j : Int)) ∧ t[7]? = some (.int .i64 (P : Int))) ?_ ?_
        · refine ⟨?_, ?_, ?_⟩
          · ((try dsimp only); repeat (first | with_reducible exact T | with_reducible refine HexT.set ?_ _ _ (by decide)))
          · (try dsimp only); simp (decide := true) only [hex247_set, hex247_same, slot_other, hs, f6]
          · (try dsimp only); simp (decide := true) only [hex247_set, hex247_same, slot_other, hs, f7]
        clear hs f0 f3 f4 f6 f7 T
        try clear t
        rintro t ⟨T, f6, f7⟩
        have hs : Hex247 t := T.sz; have f0 := T.f0; have f3 := T.f3; have f4 := T.f4
        go_upto_region 19 with ((with_reducible show wpList _ _ _ (⟨none, Op.store _ _ _, _, _, _, _⟩ :: _) _ _); refine wpList_hex rfl _ _ _ rfl w.heap.size (P + 10) (hexd (nibW (x.wd j >>> 28))) (slot_eval (by (try dsimp only); simp (decide := true) only [hex247_set, hex247_same, slot_other, hs])) (slot_eval (by (try dsimp only); simp (decide := true) only [hex247_set, hex247_same, slot_other, hs])) hinf H (by simpa only [List.length_set] using hL66) (by omega) hbg (Nat.le_refl _) ?_; clear H hc; intro W1 H; have hc := at4_wd H.at4 hj4)
        refine frame_code (fun t => HexT b o w.heap.size x.nh t ∧ t[6]? = some (.int .i64 (j : Int)) ∧ t[7]? = some (.int .i64 (P : Int))) ?_ ?_
        · refine ⟨?_, ?_, ?_⟩
          · ((try dsimp only); repeat (first | with_reducible exact T | with_reducible refine HexT.set ?_ _ _ (by decide)))
          · (try dsimp only); simp (decide := true) only [hex247_set, hex247_same, slot_other, hs, f6]
          · (try dsimp only); simp (decide := true) only [hex247_set, hex247_same, slot_other, hs, f7]
        clear hs f0 f3 f4 f6 f7 T
        try clear t
        rintro t ⟨T, f6, f7⟩
        have hs : Hex247 t := T.sz; have f0 := T.f0; have f3 := T.f3; have f4 := T.f4
        go_upto_region 20 with ((with_reducible show wpList _ _ _ (⟨none, Op.store _ _ _, _, _, _, _⟩ :: _) _ _); refine wpList_hex rfl _ _ _ rfl w.heap.size (P + 11) (hexd (nibW (x.wd j >>> 24))) (slot_eval (by (try dsimp only); simp (decide := true) only [hex247_set, hex247_same, slot_other, hs])) (slot_eval (by (try dsimp only); simp (decide := true) only [hex247_set, hex247_same, slot_other, hs])) hinf H (by simpa only [List.length_set] using hL66) (by omega) hbg (Nat.le_refl _) ?_; clear H hc; intro W1 H; have hc := at4_wd H.at4 hj4)
        refine frame_code (fun t => HexT b o w.heap.size x.nh t ∧ t[6]? = some (.int .i64 (j : Int)) ∧ t[7]? = some (.int .i64 (P : Int))) ?_ ?_
        · refine ⟨?_, ?_, ?_⟩
          · ((try dsimp only); repeat (first | with_reducible exact T | with_reducible refine HexT.set ?_ _ _ (by decide)))
          · (try dsimp only); simp (decide := true) only [hex247_set, hex247_same, slot_other, hs, f6]
          · (try dsimp only); simp (decide := true) only [hex247_set, hex247_same, slot_other, hs, f7]
        clear hs f0 f3 f4 f6 f7 T
        try clear t
        rintro t ⟨T, f6, f7⟩
        have hs : Hex247 t := T.sz; have f0 := T.f0; have f3 := T.f3; have f4 := T.f4
        go_upto_region 21 with ((with_reducible show wpList _ _ _ (⟨none, Op.store _ _ _, _, _, _, _⟩ :: _) _ _); refine wpList_hex rfl _ _ _ rfl w.heap.size (P + 12) (hexd (nibW (x.wd j >>> 20))) (slot_eval (by (try dsimp only); simp (decide := true) only [hex247_set, hex247_same, slot_other, hs])) (slot_eval (by (try dsimp only); simp (decide := true) only [hex247_set, hex247_same, slot_other, hs])) hinf H (by simpa only [List.length_set] using hL66) (by omega) hbg (Nat.le_refl _) ?_; clear H hc; intro W1 H; have hc := at4_wd H.at4 hj4)
        refine frame_code (fun t => HexT b o w.heap.size x.nh t ∧ t[6]? = some (.int .i64 (j : Int)) ∧ t[7]? = some (.int .i64 (P : Int))) ?_ ?_
        · refine ⟨?_, ?_, ?_⟩
          · ((try dsimp only); repeat (first | with_reducible exact T | with_reducible refine HexT.set ?_ _ _ (by decide)))
          · (try dsimp only); simp (decide := true) only [hex247_set, hex247_same, slot_other, hs, f6]
          · (try dsimp only); simp (decide := true) only [hex247_set, hex247_same, slot_other, hs, f7]
        clear hs f0 f3 f4 f6 f7 T
        try clear t
        rintro t ⟨T, f6, f7⟩
        have hs : Hex247 t := T.sz; have f0 := T.f0; have f3 := T.f3; have f4 := T.f4
        go_upto_region 22 with ((with_reducible show wpList _ _ _ (⟨none, Op.store _ _ _, _, _, _, _⟩ :: _) _ _); refine wpList_hex rfl _ _ _ rfl w.heap.size (P + 13) (hexd (nibW (x.wd j >>> 16))) (slot_eval (by (try dsimp only); simp (decide := true) only [hex247_set, hex247_same, slot_other, hs])) (slot_eval (by (try dsimp only); simp (decide := true) only [hex247_set, hex247_same, slot_other, hs])) hinf H (by simpa only [List.length_set] using hL66) (by omega) hbg (Nat.le_refl _) ?_; clear H hc; intro W1 H; have hc := at4_wd H.at4 hj4)
        refine frame_code (fun t => HexT b o w.heap.size x.nh t ∧ t[6]? = some (.int .i64 (j : Int)) ∧ t[7]? = some (.int .i64 (P : Int))) ?_ ?_
        · refine ⟨?_, ?_, ?_⟩
          · ((try dsimp only); repeat (first | with_reducible exact T | with_reducible refine HexT.set ?_ _ _ (by decide)))
          · (try dsimp only); simp (decide := true) only [hex247_set, hex247_same, slot_other, hs, f6]
          · (try dsimp only); simp (decide := true) only [hex247_set, hex247_same, slot_other, hs, f7]
        clear hs f0 f3 f4 f6 f7 T
        try clear t
        rintro t ⟨T, f6, f7⟩
        have hs : Hex247 t := T.sz; have f0 := T.f0; have f3 := T.f3; have f4 := T.f4
        go_upto_region 23 with ((with_reducible show wpList _ _ _ (⟨none, Op.store _ _ _, _, _, _, _⟩ :: _) _ _); refine wpList_hex rfl _ _ _ rfl w.heap.size (P + 14) (hexd (nibW (x.wd j >>> 12))) (slot_eval (by (try dsimp only); simp (decide := true) only [hex247_set, hex247_same, slot_other, hs])) (slot_eval (by (try dsimp only); simp (decide := true) only [hex247_set, hex247_same, slot_other, hs])) hinf H (by simpa only [List.length_set] using hL66) (by omega) hbg (Nat.le_refl _) ?_; clear H hc; intro W1 H; have hc := at4_wd H.at4 hj4)
        refine frame_code (fun t => HexT b o w.heap.size x.nh t ∧ t[6]? = some (.int .i64 (j : Int)) ∧ t[7]? = some (.int .i64 (P : Int))) ?_ ?_
        · refine ⟨?_, ?_, ?_⟩
          · ((try dsimp only); repeat (first | with_reducible exact T | with_reducible refine HexT.set ?_ _ _ (by decide)))
          · (try dsimp only); simp (decide := true) only [hex247_set, hex247_same, slot_other, hs, f6]
          · (try dsimp only); simp (decide := true) only [hex247_set, hex247_same, slot_other, hs, f7]
        clear hs f0 f3 f4 f6 f7 T
        try clear t
        rintro t ⟨T, f6, f7⟩
        have hs : Hex247 t := T.sz; have f0 := T.f0; have f3 := T.f3; have f4 := T.f4
        go_upto_region 24 with ((with_reducible show wpList _ _ _ (⟨none, Op.store _ _ _, _, _, _, _⟩ :: _) _ _); refine wpList_hex rfl _ _ _ rfl w.heap.size (P + 15) (hexd (nibW (x.wd j >>> 8))) (slot_eval (by (try dsimp only); simp (decide := true) only [hex247_set, hex247_same, slot_other, hs])) (slot_eval (by (try dsimp only); simp (decide := true) only [hex247_set, hex247_same, slot_other, hs])) hinf H (by simpa only [List.length_set] using hL66) (by omega) hbg (Nat.le_refl _) ?_; clear H hc; intro W1 H; have hc := at4_wd H.at4 hj4)
        refine frame_code (fun t => HexT b o w.heap.size x.nh t ∧ t[6]? = some (.int .i64 (j : Int)) ∧ t[7]? = some (.int .i64 (P : Int))) ?_ ?_
        · refine ⟨?_, ?_, ?_⟩
          · ((try dsimp only); repeat (first | with_reducible exact T | with_reducible refine HexT.set ?_ _ _ (by decide)))
          · (try dsimp only); simp (decide := true) only [hex247_set, hex247_same, slot_other, hs, f6]
          · (try dsimp only); simp (decide := true) only [hex247_set, hex247_same, slot_other, hs, f7]
        clear hs f0 f3 f4 f6 f7 T
        try clear t
        rintro t ⟨T, f6, f7⟩
        have hs : Hex247 t := T.sz; have f0 := T.f0; have f3 := T.f3; have f4 := T.f4
        go_upto_region 25 with ((with_reducible show wpList _ _ _ (⟨none, Op.store _ _ _, _, _, _, _⟩ :: _) _ _); refine wpList_hex rfl _ _ _ rfl w.heap.size (P + 16) (hexd (nibW (x.wd j >>> 4))) (slot_eval (by (try dsimp only); simp (decide := true) only [hex247_set, hex247_same, slot_other, hs])) (slot_eval (by (try dsimp only); simp (decide := true) only [hex247_set, hex247_same, slot_other, hs])) hinf H (by simpa only [List.length_set] using hL66) (by omega) hbg (Nat.le_refl _) ?_; clear H hc; intro W1 H; have hc := at4_wd H.at4 hj4)
        refine frame_code (fun t => HexT b o w.heap.size x.nh t ∧ t[6]? = some (.int .i64 (j : Int)) ∧ t[7]? = some (.int .i64 (P : Int))) ?_ ?_
        · refine ⟨?_, ?_, ?_⟩
          · ((try dsimp only); repeat (first | with_reducible exact T | with_reducible refine HexT.set ?_ _ _ (by decide)))
          · (try dsimp only); simp (decide := true) only [hex247_set, hex247_same, slot_other, hs, f6]
          · (try dsimp only); simp (decide := true) only [hex247_set, hex247_same, slot_other, hs, f7]
        clear hs f0 f3 f4 f6 f7 T
        try clear t
        rintro t ⟨T, f6, f7⟩
        have hs : Hex247 t := T.sz; have f0 := T.f0; have f3 := T.f3; have f4 := T.f4
        go_wp2_with ((with_reducible show wpList _ _ _ (⟨none, Op.store _ _ _, _, _, _, _⟩ :: _) _ _); refine wpList_hex rfl _ _ _ rfl w.heap.size (P + 17) (hexd (nibW (x.wd j))) (slot_eval (by (try dsimp only); simp (decide := true) only [hex247_set, hex247_same, slot_other, hs])) (slot_eval (by (try dsimp only); simp (decide := true) only [hex247_set, hex247_same, slot_other, hs])) hinf H (by simpa only [List.length_set] using hL66) (by omega) hbg (Nat.le_refl _) ?_; clear H hc; intro W1 H)
        refine ⟨⟨j, _, trivial, ?_, ?_, ?_, ?_, H⟩, ?_⟩
        · ((try dsimp only); repeat (first | with_reducible exact T | with_reducible refine HexT.set ?_ _ _ (by decide)))
        · have := HK.out; omega
        · (try dsimp only); simp (decide := true) only [hex247_set, hex247_same, slot_other, hs]
        · have h := NX.out
          rw [show 48 - 16 * j = P by omega, put16_all] at h
          exact Lib.hid h
        · rw [HM.out]
          (try dsimp only); simp (decide := true) only [hex247_set, hex247_same, slot_other, hs, Option.getD, intOf]
          omega
set_option maxHeartbeats 400000 in
theorem implHex_any (x : N4) (w : World) : Calls Tryz.prog 7 #[x.v] w (RetBel (.string ⟨(hexText x).toArray⟩) w) := by
  go_enter Tryz.func7, Tryz.ntmps7
  go_wp2_with fail
  refine (intOf_any x _).mono ?_
  rintro e w0 ⟨B, rfl, m⟩
  have hb0 := bel_trans (bel_alloc (bel_refl w) _) m.bel
  go_wp2_with fail
  refine (intHex_any B 0 x _ m.at4).mono ?_
  rintro e w1 ⟨rfl, hb1⟩
  have HB := Lib.hid (bel_trans hb0 hb1)
  clear hb0 hb1
  go_wp2
  go_ret
  exact retBel rfl HB.out
end Go.Proofs.YtfaocjcpnjmfiaaGreatDoor
