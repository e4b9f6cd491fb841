/-
  Contracts of uint256's writers of bytes: PaddedBytes, WriteToSlice.
  Contracts of encoding/binary's writers and readers of whole numbers.
  Contracts of uint256's Bytes32, Bytes20, Bytes, ByteLen, and of the thin package's calls of them.
  Contracts of Hex: the package's, the thin package's, the reference's.
-/
import Derived.Test.YtfaocjcpnjmfiaaDoorByt1
import Derived.Outline
import Derived.Test.YtfaocjcpnjmfiaaDoorDesk3
import Derived.Test.YtfaocjcpnjmfiaaDoorHeldM
import Derived.Lib.EndianBits
import Derived.Laws.NewBlocks
import Derived.RegionTactic
import Derived.Test.YtfaocjcpnjmfiaaDoorRegion2
import Derived.Test.YtfaocjcpnjmfiaaDoorFrame
import Derived.Maps.AppendAt
import Derived.Deep.DeepCutAuto
import Derived.Deep.CutBlock

namespace Go.Proofs.YtfaocjcpnjmfiaaDoor
open Go.RowKit
set_option linter.unusedVariables false
set_option linter.unusedSimpArgs false
set_option maxRecDepth 20000
/-- The word at index j lies at its place. -/
theorem At4.word {w : World} {b o : Nat} {x : N4} (h : At4 w b o x) (j : Nat) (hj : j < 4) : w.cell? ⟨b, o + j, none⟩ = some (V (x.wd j)) := by
  obtain ⟨h0, h1, h2, h3⟩ := h
  rcases (by omega : j = 0 ∨ j = 1 ∨ j = 2 ∨ j = 3) with rfl | rfl | rfl | rfl
  · exact h0
  · exact h1
  · exact h2
  · exact h3
theorem N4.btw (x : N4) (i : Nat) (h : i < 32) : IntKind.u8.wrap (((x.wd (i / 8)).toNat / 2 ^ (8 * (i % 8)) : Nat) : Int) = ((x.bt i).toNat : Int) := by
  rw [← bt_wd x i h]
  simp [IntKind.wrap, IntKind.bits, IntKind.signed]
theorem u64_shr8 (x : W64) (k : Nat) : Op.shift .shr .u64 (U x) .u64 (8 * ((k : Int) % 8)) = pure (.int .u64 ((x.toNat / 2 ^ (8 * (k % 8)) : Nat) : Int)) := by
  rw [show 8 * ((k : Int) % 8) = ((8 * (k % 8) : Nat) : Int) by omega, shift_shr_any _ _ _ _ (by omega), Int.toNat_natCast]
  congr 2
  rw [show min (8 * (k % 8)) IntKind.u64.bits = 8 * (k % 8) from Nat.min_eq_left (by show _ ≤ 64; omega)]
  simp [U]
theorem bytes_set (l : List UInt8) (i : Nat) (d : UInt8) : Lib.byteCells (l.set i d) = (Lib.byteCells l).set i (.int .u8 (d.toNat : Int)) := by simp [Lib.byteCells, List.map_set]
/-- The lowest k bytes stand at the end. -/
def padTo (n k v : Nat) : List UInt8 := List.replicate (n - k) 0 ++ Lib.beBytes k v
theorem padTo_len {n k : Nat} (h : k ≤ n) (v : Nat) : (padTo n k v).length = n := by unfold padTo; rw [List.length_append, List.length_replicate, be_len]; omega
theorem padTo_step {n k : Nat} (h : k < n) (v : Nat) : padTo n (k + 1) v = (padTo n k v).set (n - 1 - k) (UInt8.ofNat (v / 256 ^ k % 256)) := by
  unfold padTo
  rw [be_cons, show n - k = (n - (k + 1)) + 1 by omega, List.replicate_succ', List.append_assoc, List.set_append_right _ _ (by simp; omega), List.length_replicate, show n - 1 - k - (n - (k + 1)) = 0 by omega]
  rfl
theorem padTo_old {n k v : Nat} (h : k < n) : (Lib.byteCells (padTo n k v))[n - 1 - k]? = some (.int .u8 0) := by
  unfold padTo
  rw [Lib.byteCells_append, List.getElem?_append_left (by simp [Lib.byteCells]; omega)]
  unfold Lib.byteCells
  rw [List.getElem?_map, List.getElem?_replicate, if_pos (by omega)]
  rfl
theorem padTo_end {n k : Nat} (x : N4) (h1 : k ≤ n) (h2 : n ≤ k ∨ 32 ≤ k) : padTo n k x.toNat = Lib.beBytes n x.toNat := by
  unfold padTo
  rcases h2 with h | h
  · obtain rfl : n = k := by omega
    simp
  · have := be_high (n - k) k x.toNat (Nat.lt_of_lt_of_le x.lt256 (Nat.pow_le_pow_right (by decide) h))
    rw [show n - k + k = n by omega] at this
    exact this.symm
/-- The lowest k bytes stand at the end of the first m. -/
def wrIn (l : List UInt8) (m k v : Nat) : List UInt8 := l.take (m - k) ++ (Lib.beBytes k v ++ l.drop m)
theorem wrIn_len {l : List UInt8} {m k : Nat} (h : k ≤ m) (hm : m ≤ l.length) (v : Nat) : (wrIn l m k v).length = l.length := by
  unfold wrIn; rw [List.length_append, List.length_append, List.length_take, be_len, List.length_drop]; omega
theorem wrIn_step {l : List UInt8} {m k : Nat} (h : k < m) (hm : m ≤ l.length) (v : Nat) : wrIn l m (k + 1) v = (wrIn l m k v).set (m - 1 - k) (UInt8.ofNat (v / 256 ^ k % 256)) := by
  unfold wrIn
  have e : l.take (m - k) = l.take (m - (k + 1)) ++ [l[m - (k + 1)]'(by omega)] := by
    rw [show m - k = m - (k + 1) + 1 by omega]
    exact List.take_succ_eq_append_getElem (by omega)
  rw [e, be_cons, List.append_assoc, List.set_append_right _ _ (by simp; omega), List.length_take, show m - 1 - k - min (m - (k + 1)) l.length = 0 by omega]
  rfl
theorem bytes_at {l : List UInt8} {j : Nat} (h : j < l.length) : ∃ d : Int, (Lib.byteCells l)[j]? = some (.int .u8 d) := by
  unfold Lib.byteCells
  rw [List.getElem?_map, List.getElem?_eq_getElem h]
  exact ⟨_, rfl⟩
/-- What WriteToSlice leaves. -/
def wrote (l : List UInt8) (x : N4) : List UInt8 := wrIn l (min 32 l.length) (min 32 l.length) x.toNat
theorem wrIn_zero (l : List UInt8) (m v : Nat) : wrIn l m 0 v = l := by
  unfold wrIn
  simp [Lib.beBytes, Lib.leBytes]
theorem grownBy_trans' {w w1 w2 : World} {r : Option Nat} (h : w.grownBy w1 r) (k : w1.grownBy w2 r) : w.grownBy w2 r :=
  ⟨k.os.trans h.os, k.tape.trans h.tape, k.output.trans h.output, Nat.le_trans h.size k.size, fun i hi hne => (k.block i (Nat.lt_of_lt_of_le hi h.size) hne).trans (h.block i hi hne)⟩
theorem wrote_len (l : List UInt8) (x : N4) : (wrote l x).length = l.length := wrIn_len (Nat.le_refl _) (Nat.min_le_right _ _) _
theorem own_bel {w w' : World} {b e s n : Nat} {v : Value} {xs : List Value} (h : w.ownsRow b e s v n xs) (k : Below w.heap.size w w') : w'.ownsRow b e s v n xs := by
  refine h.kept (grown_of_bel k) ?_
  cases hv : v.ownBlock with
  | none => exact .inl rfl
  | some g => exact .inr (by simp)
end Go.Proofs.YtfaocjcpnjmfiaaDoor

namespace Go.Proofs.YtfaocjcpnjmfiaaDoor
open Go.RowKit
set_option linter.unusedVariables false
set_option linter.unusedSimpArgs false
set_option maxRecDepth 100000
end Go.Proofs.YtfaocjcpnjmfiaaDoor

namespace Go.Proofs.YtfaocjcpnjmfiaaDoor
open Go.RowKit
set_option linter.unusedVariables false
set_option linter.unusedSimpArgs false
set_option maxRecDepth 100000
theorem bytes_len (l : List UInt8) : (Lib.byteCells l).length = l.length := Lib.byteCells_length l
theorem bytes_one (l : List UInt8) : (Lib.byteCells l).toArray.all (·.oneCell') = true := all_oneCell_toArray fun v hv => by
  simp only [Lib.byteCells, List.mem_map] at hv
  obtain ⟨d, _, rfl⟩ := hv
  rfl
theorem rangeAt_append {w : World} {g o : Nat} {cs ds : List Value} (h : w.rangeAt g o cs) (k : w.rangeAt g (o + cs.length) ds) : w.rangeAt g o (cs ++ ds) := fun j v hj => by
  rw [List.getElem?_append] at hj
  by_cases hlt : j < cs.length
  · rw [if_pos hlt] at hj
    exact h j v hj
  · rw [if_neg hlt] at hj
    have := k _ v hj
    rwa [show o + cs.length + (j - cs.length) = o + j by omega] at this
theorem SlB.of_range {w : World} {g o n c : Nat} {l : List UInt8} (h : w.rangeAt g o (Lib.byteCells l)) (hn : n = l.length) (hc : n ≤ c) : SlB w (.slice (some ⟨g, o, none⟩) n c) l := by
  subst hn
  exact ⟨_, c, rfl, hc, fun i b hb => ⟨g, o, rfl, h i _ (bytes_get l i b hb)⟩⟩
theorem SlB.eq {w : World} {v : Value} {l m : List UInt8} (h : SlB w v l) (e : l = m) : SlB w v m := e ▸ h
theorem there_part {w : World} {g n o k : Nat} (h : w.there g 0 n) (hk : o + k ≤ n) : w.there g o k := fun j hj => by
  have := h (o + j) (by omega)
  rwa [Nat.zero_add] at this
theorem there_bel' {w w' : World} {b o n : Nat} (h : w.there b o n) (k : Below w.heap.size w w') : w'.there b o n := fun j hj => by
  have := there_bel h (by omega) k j hj
  exact this
/-- A row of bytes that is being filled: the first bytes l stand in block g. -/
structure Fill (w : World) (b o : Nat) (x : N4) (g r n : Nat) (l : List UInt8) (W : World) : Prop where
  at4 : At4 W b o x
  here : W.there g 0 n
  res : W.there r 0 n
  row : W.rangeAt g 0 (Lib.byteCells l)
  bel : Below w.heap.size w W
theorem Fill.put {w W : World} {b o g r n : Nat} {x : N4} {l : List UInt8} (h : Fill w b o x g r n l W) (hb : b < w.heap.size) (hg : w.heap.size ≤ g) (m : List UInt8) (hm : l.length + m.length ≤ n) (ob : Obj) :
    Fill w b o x g r n (l ++ m) ((W.alloc ob).drew.setCells g l.length (Lib.byteCells m)) := by
  show Fill w b o x g r n (l ++ m) ((W.drew.alloc ob).setCells g l.length (Lib.byteCells m))
  have hne : b ≠ g := by omega
  refine ⟨?_, ?_, World.there_setCells (World.there_alloc ((World.there_drew W r 0 n).2 h.res) ob) _ _ _, ?_, ?_⟩
  · exact ((h.at4.drewN 1).alloc ob).setFar4 hne
  · exact World.there_setCells (World.there_alloc ((World.there_drew W g 0 n).2 h.here) ob) _ _ _
  · rw [Lib.byteCells_append]
    refine rangeAt_append (World.rangeAt_setCells_apart (World.rangeAt_alloc ((World.rangeAt_drew W g 0 _).2 h.row) ob) _ _ _ (.inr (.inl (by rw [bytes_len]; omega)))) ?_
    rw [bytes_len, Nat.zero_add]
    exact World.rangeAt_setCells_same _ _ _ _ (there_part (World.there_alloc ((World.there_drew W g 0 n).2 h.here) ob) (by rw [bytes_len]; exact hm))
  · exact setCells_bel' (bel_alloc (bel_drew h.bel) ob) hg
theorem Fill.same {w W : World} {b o g r n : Nat} {x : N4} {l m : List UInt8} (h : Fill w b o x g r n l W) (e : l = m) : Fill w b o x g r n m W := e ▸ h
theorem Fill.start (w : World) (b o : Nat) (x : N4) (hx : At4 w b o x) (n : Nat) (A : Array Value) (hA : A.size = n) (t : TypeId) : Fill w b o x (w.heap.size + 1) w.heap.size n [] ((w.alloc (.cells A t)).alloc (.cells A t)) := by
  refine ⟨(hx.alloc _).alloc _, ?_, World.there_alloc (there_new w t A n (by omega)) _, fun j v hv => by simp [Lib.byteCells] at hv, bel_alloc (bel_alloc (bel_refl w) _) _⟩
  have := there_new (w.alloc (.cells A t)) t A n (by omega)
  simpa using this
theorem u32_of (c : W64) : IntKind.u32.wrap (U c) = ((c.toNat % 4294967296 : Nat) : Int) := by
  unfold U
  simp [IntKind.wrap, IntKind.bits, IntKind.signed]
/-- The 32 bytes, word by word. -/
theorem be32_words (x : N4) : ((Lib.beBytes 8 x.d.toNat ++ Lib.beBytes 8 x.c.toNat) ++ Lib.beBytes 8 x.b.toNat) ++ Lib.beBytes 8 x.a.toNat = Lib.beBytes 32 x.toNat := by
  have h0 := x.a.isLt; have h1 := x.b.isLt; have h2 := x.c.isLt; have h3 := x.d.isLt
  rw [show (32 : Nat) = 24 + 8 from rfl, be_append, show (24 : Nat) = 16 + 8 from rfl, be_append, show (16 : Nat) = 8 + 8 from rfl, be_append]
  congr 1
  · congr 1
    · congr 1
      · exact be_mod _ _ _ (by unfold N4.toNat; omega)
      · exact be_mod _ _ _ (by unfold N4.toNat; omega)
    · exact be_mod _ _ _ (by unfold N4.toNat; omega)
  · exact be_mod _ _ _ (by unfold N4.toNat; omega)
theorem be20_words (x : N4) : (Lib.beBytes 4 (x.c.toNat % 4294967296) ++ Lib.beBytes 8 x.b.toNat) ++ Lib.beBytes 8 x.a.toNat = Lib.beBytes 20 x.toNat := by
  have h0 := x.a.isLt; have h1 := x.b.isLt; have h2 := x.c.isLt; have h3 := x.d.isLt
  rw [show (20 : Nat) = 12 + 8 from rfl, be_append, show (12 : Nat) = 4 + 8 from rfl, be_append]
  congr 1
  · congr 1
    · exact be_mod _ _ _ (by unfold N4.toNat; omega)
    · exact be_mod _ _ _ (by unfold N4.toNat; omega)
  · exact be_mod _ _ _ (by unfold N4.toNat; omega)
theorem range_drop {w : World} {g o : Nat} {cs : List Value} (h : w.rangeAt g o cs) (k : Nat) (hk : k ≤ cs.length) : w.rangeAt g (o + k) (cs.drop k) := fun j v hj => by
  rw [List.getElem?_drop] at hj
  have := h _ v hj
  rwa [← Nat.add_assoc] at this
end Go.Proofs.YtfaocjcpnjmfiaaDoor

namespace Go.Proofs.YtfaocjcpnjmfiaaDoor
set_option maxRecDepth 20000
open Go.RowKit
set_option linter.unusedVariables false
set_option linter.unusedSimpArgs false
set_option maxRecDepth 100000
/-- A digit of sixteen, as text. -/
def hexd (n : Nat) : UInt8 := if n < 10 then UInt8.ofNat (48 + n) else UInt8.ofNat (87 + n)
/-- The lowest k digits of sixteen of v, the highest first. -/
def hexs (k v : Nat) : List UInt8 := (List.range k).map fun i => hexd (v / 16 ^ (k - 1 - i) % 16)
theorem hexs_len (k v : Nat) : (hexs k v).length = k := by simp [hexs]
theorem hexs_get (k v i : Nat) : (hexs k v)[i]? = if i < k then some (hexd (v / 16 ^ (k - 1 - i) % 16)) else none := by
  unfold hexs
  rw [List.getElem?_map]
  by_cases h : i < k
  · rw [if_pos h, List.getElem?_range h]; rfl
  · rw [if_neg h, List.getElem?_eq_none (by simp; omega)]; rfl
theorem hexs_drop (k v : Nat) : (hexs (k + 1) v).drop 1 = hexs k v := by
  apply List.ext_getElem?
  intro i
  rw [List.getElem?_drop, hexs_get, hexs_get]
  by_cases h : i < k
  · rw [if_pos (by omega), if_pos h]
    congr 5
    omega
  · rw [if_neg (by omega), if_neg h]
theorem hexs_head (k v : Nat) : (hexs (k + 1) v)[0]? = some (hexd (v / 16 ^ k % 16)) := by rw [hexs_get, if_pos (by omega)]; rfl
theorem hexs_take (v j : Nat) (hj : j < 32) : (hexs 64 v).take (2 * (j + 1)) = (hexs 64 v).take (2 * j) ++ [hexd (v / 16 ^ (63 - 2 * j) % 16), hexd (v / 16 ^ (62 - 2 * j) % 16)] := by
  rw [show 2 * (j + 1) = 2 * j + 1 + 1 by omega, List.take_add_one, List.take_add_one, hexs_get, hexs_get, if_pos (by omega), if_pos (by omega), List.append_assoc]
  congr 1
  show [_] ++ [_] = _
  rw [show 64 - 1 - (2 * j) = 63 - 2 * j by omega, show 64 - 1 - (2 * j + 1) = 62 - 2 * j by omega]
  rfl
theorem hexd_zero (n : Nat) (h : n < 16) : ((hexd n).toNat = 48) ↔ n = 0 := by
  have : ∀ m, m < 16 → (((hexd m).toNat = 48) ↔ m = 0) := by decide
  exact this n h
/-- The digits of a byte. -/
def nibHi (b : UInt8) : Nat := b.toNat / 16
def nibLo (b : UInt8) : Nat := b.toNat % 16
theorem nibHi_lt (b : UInt8) : nibHi b < 16 := by unfold nibHi; have := b.toNat_lt; omega
theorem nibLo_lt (b : UInt8) : nibLo b < 16 := Nat.mod_lt _ (by decide)
theorem u8_shr4 (b : UInt8) : (b.toNat : Int) / 16 = (nibHi b : Int) := by unfold nibHi; omega
theorem u8_and15 (b : UInt8) : bits BinOp.and IntKind.u8 (b.toNat : Int) 15 = (nibLo b : Int) := by
  have : ∀ n : Fin 256, bits BinOp.and IntKind.u8 (n.val : Int) 15 = ((n.val % 16 : Nat) : Int) := by decide +kernel
  exact this ⟨b.toNat, b.toNat_lt⟩
/-- The lowest digit of a word. -/
def nibW (y : W64) : Nat := y.toNat % 16
theorem nibW_lt (y : W64) : nibW y < 16 := Nat.mod_lt _ (by decide)
theorem u8_nibW (y : W64) : bits BinOp.and IntKind.u8 (IntKind.u8.wrap (U y)) 15 = (nibW y : Int) := by
  have h := u8_and15 (UInt8.ofNat y.toNat)
  have e : IntKind.u8.wrap (U y) = ((UInt8.ofNat y.toNat).toNat : Int) := by
    rw [UInt8.toNat_ofNat']
    simp [IntKind.wrap, IntKind.bits, IntKind.signed, U]
  rw [e, h]
  unfold nibLo nibW
  rw [UInt8.toNat_ofNat']
  omega
theorem nibW_and (y : W64) : nibW (y &&& 15#64) = nibW y := by
  unfold nibW
  rw [BitVec.toNat_and, show (15#64 : W64).toNat = 2 ^ 4 - 1 from rfl, Nat.and_two_pow_sub_one_eq_mod]
  omega
theorem nibW_shr (y : W64) (k : Nat) : nibW (y >>> k) = y.toNat / 2 ^ k % 16 := by
  unfold nibW
  rw [BitVec.toNat_ushiftRight, Nat.shiftRight_eq_div_pow]
theorem u64_and15 (x : W64) : bits BinOp.and IntKind.u64 (U x) (15 : Int) = U (x &&& 15#64) := u64_and x 15#64
theorem u64_div4 (x : W64) : U x / (16 : Int) = U (x >>> (4 : Nat)) := by
  unfold U; rw [BitVec.toNat_ushiftRight, Nat.shiftRight_eq_div_pow]; omega
theorem u64_div8 (x : W64) : U x / (256 : Int) = U (x >>> (8 : Nat)) := by
  unfold U; rw [BitVec.toNat_ushiftRight, Nat.shiftRight_eq_div_pow]; omega
theorem u64_div12 (x : W64) : U x / (4096 : Int) = U (x >>> (12 : Nat)) := by
  unfold U; rw [BitVec.toNat_ushiftRight, Nat.shiftRight_eq_div_pow]; omega
theorem u64_div16 (x : W64) : U x / (65536 : Int) = U (x >>> (16 : Nat)) := by
  unfold U; rw [BitVec.toNat_ushiftRight, Nat.shiftRight_eq_div_pow]; omega
theorem u64_div20 (x : W64) : U x / (1048576 : Int) = U (x >>> (20 : Nat)) := by
  unfold U; rw [BitVec.toNat_ushiftRight, Nat.shiftRight_eq_div_pow]; omega
theorem u64_div24 (x : W64) : U x / (16777216 : Int) = U (x >>> (24 : Nat)) := by
  unfold U; rw [BitVec.toNat_ushiftRight, Nat.shiftRight_eq_div_pow]; omega
theorem u64_div28 (x : W64) : U x / (268435456 : Int) = U (x >>> (28 : Nat)) := by
  unfold U; rw [BitVec.toNat_ushiftRight, Nat.shiftRight_eq_div_pow]; omega
theorem u64_div32 (x : W64) : U x / (4294967296 : Int) = U (x >>> (32 : Nat)) := by
  unfold U; rw [BitVec.toNat_ushiftRight, Nat.shiftRight_eq_div_pow]; omega
theorem u64_div36 (x : W64) : U x / (68719476736 : Int) = U (x >>> (36 : Nat)) := by
  unfold U; rw [BitVec.toNat_ushiftRight, Nat.shiftRight_eq_div_pow]; omega
theorem u64_div40 (x : W64) : U x / (1099511627776 : Int) = U (x >>> (40 : Nat)) := by
  unfold U; rw [BitVec.toNat_ushiftRight, Nat.shiftRight_eq_div_pow]; omega
theorem u64_div44 (x : W64) : U x / (17592186044416 : Int) = U (x >>> (44 : Nat)) := by
  unfold U; rw [BitVec.toNat_ushiftRight, Nat.shiftRight_eq_div_pow]; omega
theorem u64_div48 (x : W64) : U x / (281474976710656 : Int) = U (x >>> (48 : Nat)) := by
  unfold U; rw [BitVec.toNat_ushiftRight, Nat.shiftRight_eq_div_pow]; omega
theorem u64_div52 (x : W64) : U x / (4503599627370496 : Int) = U (x >>> (52 : Nat)) := by
  unfold U; rw [BitVec.toNat_ushiftRight, Nat.shiftRight_eq_div_pow]; omega
theorem u64_div56 (x : W64) : U x / (72057594037927936 : Int) = U (x >>> (56 : Nat)) := by
  unfold U; rw [BitVec.toNat_ushiftRight, Nat.shiftRight_eq_div_pow]; omega
theorem u64_div60 (x : W64) : U x / (1152921504606846976 : Int) = U (x >>> (60 : Nat)) := by
  unfold U; rw [BitVec.toNat_ushiftRight, Nat.shiftRight_eq_div_pow]; omega
/-- A digit out of the table. -/
theorem hexIdx (n : Nat) (h : n < 16) (w : World) : (Instr.index 9 (.string ⟨#[48, 49, 50, 51, 52, 53, 54, 55, 56, 57, 97, 98, 99, 100, 101, 102]⟩) (.int .u8 (n : Int))).run Tryd.prog w = .ok (.int .u8 ((hexd n).toNat : Int)) w := by
  rcases (by omega : n = 0 ∨ n = 1 ∨ n = 2 ∨ n = 3 ∨ n = 4 ∨ n = 5 ∨ n = 6 ∨ n = 7 ∨ n = 8 ∨ n = 9 ∨ n = 10 ∨ n = 11 ∨ n = 12 ∨ n = 13 ∨ n = 14 ∨ n = 15) with rfl | rfl | rfl | rfl | rfl | rfl | rfl | rfl | rfl | rfl | rfl | rfl | rfl | rfl | rfl | rfl <;> kernel_rfl
theorem hexIdxW (y : W64) (w : World) : (Instr.index 9 (.string ⟨#[48, 49, 50, 51, 52, 53, 54, 55, 56, 57, 97, 98, 99, 100, 101, 102]⟩) (.int .u8 (nibW y : Int))).run Tryd.prog w = .ok (.int .u8 ((hexd (nibW y)).toNat : Int)) w := hexIdx _ (nibW_lt y) w
theorem hexIdxHi (b : UInt8) (w : World) : (Instr.index 9 (.string ⟨#[48, 49, 50, 51, 52, 53, 54, 55, 56, 57, 97, 98, 99, 100, 101, 102]⟩) (.int .u8 (nibHi b : Int))).run Tryd.prog w = .ok (.int .u8 ((hexd (nibHi b)).toNat : Int)) w := hexIdx _ (nibHi_lt b) w
theorem hexIdxLo (b : UInt8) (w : World) : (Instr.index 9 (.string ⟨#[48, 49, 50, 51, 52, 53, 54, 55, 56, 57, 97, 98, 99, 100, 101, 102]⟩) (.int .u8 (nibLo b : Int))).run Tryd.prog w = .ok (.int .u8 ((hexd (nibLo b)).toNat : Int)) w := hexIdx _ (nibLo_lt b) w
theorem hexIdxU (y : W64) (w : World) : (Instr.index 9 (.string ⟨#[48, 49, 50, 51, 52, 53, 54, 55, 56, 57, 97, 98, 99, 100, 101, 102]⟩) (.int .u8 (U y % 16))).run Tryd.prog w = .ok (.int .u8 ((hexd (nibW y)).toNat : Int)) w := by
  have e : U y % 16 = (nibW y : Int) := by unfold U nibW; omega
  rw [e]; exact hexIdxW y w
attribute [local go_sem ↓] hexIdxU hexIdxW hexIdxHi hexIdxLo
attribute [local go_sem] u8_nibW u8_shr4 u8_and15 nibW_and u64_and15 u64_div4 u64_div8 u64_div12 u64_div16 u64_div20 u64_div24 u64_div28 u64_div32 u64_div36 u64_div40 u64_div44 u64_div48 u64_div52 u64_div56 u64_div60
/-- How many digits of sixteen a number has, one at least. -/
def N4.nh (x : N4) : Nat := if x.bits = 0 then 1 else (x.bits + 3) / 4
theorem nh_le (x : N4) : 1 ≤ x.nh ∧ x.nh ≤ 64 := by have := (bits_spec x).2.2; unfold N4.nh; split <;> omega
theorem pow16n (n : Nat) : 16 ^ n = 2 ^ (4 * n) := by rw [Nat.pow_mul]
theorem nh_lt (x : N4) : x.toNat < 16 ^ x.nh := by
  rw [pow16n]
  refine Nat.lt_of_lt_of_le (bits_spec x).1 (Nat.pow_le_pow_right (by decide) ?_)
  unfold N4.nh; split <;> omega
theorem nh_high (x : N4) {k : Nat} (h : x.nh ≤ k) : x.toNat / 16 ^ k % 16 = 0 := by
  rw [Nat.div_eq_of_lt (Nat.lt_of_lt_of_le (nh_lt x) (Nat.pow_le_pow_right (by decide) h))]
theorem nh_top (x : N4) (h : 1 < x.nh) : x.toNat / 16 ^ (x.nh - 1) % 16 ≠ 0 := by
  have hb : x.bits ≠ 0 := by intro e; unfold N4.nh at h; rw [if_pos e] at h; omega
  have hx : x.toNat ≠ 0 := by
    intro e
    have h0 : x = ⟨0#64, 0#64, 0#64, 0#64⟩ := by apply toNat_inj; rw [e]; rfl
    subst h0
    exact hb (by decide)
  obtain ⟨h1, h2⟩ := (bits_spec x).2.1 hx
  have e : x.nh = (x.bits + 3) / 4 := if_neg hb
  have h3 : 16 ^ (x.nh - 1) ≤ x.toNat := by
    rw [pow16n]
    exact Nat.le_trans (Nat.pow_le_pow_right (by decide) (by omega)) h2
  have h4 := nh_lt x
  have h5 : 0 < x.toNat / 16 ^ (x.nh - 1) := Nat.div_pos h3 (Nat.pow_pos (by decide))
  have h6 : x.toNat / 16 ^ (x.nh - 1) < 16 := by
    apply Nat.div_lt_of_lt_mul
    rw [← Nat.pow_succ]
    rwa [show (x.nh - 1).succ = x.nh by omega]
  rw [Nat.mod_eq_of_lt h6]
  omega
/-- A digit of a number, out of its words. -/
theorem nib_wd (x : N4) (i t : Nat) (hi : i < 4) (ht : t < 16) : (x.wd i).toNat / 2 ^ (4 * t) % 16 = x.toNat / 16 ^ (16 * i + t) % 16 := by
  rw [wd_toNat x i hi, pow16n, show 4 * (16 * i + t) = 64 * i + 4 * t by omega, Nat.pow_add, ← Nat.div_div_eq_div_mul]
  generalize x.toNat / 2 ^ (64 * i) = y
  have hk : 2 ^ 64 = 2 ^ (4 * t) * 2 ^ (64 - 4 * t) := by rw [← Nat.pow_add]; congr 1; omega
  rw [hk, Nat.mod_mul_right_div_self]
  refine Nat.mod_mod_of_dvd _ ?_
  rw [show 64 - 4 * t = 4 + (60 - 4 * t) by omega, Nat.pow_add]
  exact Nat.dvd_mul_right _ _
/-- The text. -/
def hexText (x : N4) : List UInt8 := 48 :: 120 :: hexs x.nh x.toNat
theorem wp_append_at {P : Program} (w : World) {o : Oper} {a : Act} {K : Act → World → Prop} {Q : Exit → Act → World → Prop} (s x : Operand) (t : TypeId)
    (ho : o.op = .call { callee := .builtin .append, args := #[s, x], argTypes := #[t, t] })
    (base : Nat) (e : TypeId) (i : TypeInfo) (ht : P.underlying t = some (.slice e)) (hi : P.info? e = some i) (hz : i.zero = some (.int .u8 0)) (hsize : i.size = 1) (hby : i.bytes = 1)
    (v : Value) (n : Nat) (xs : List Value) (hs : a.eval s = v) (hown : w.ownsRow base e 1 v n xs) (ad : Addr) (m c : Nat) (news : List UInt8) (hx : a.eval x = .slice (some ad) m c) (hl : news.length = m)
    (hnews : ∀ j u, (Lib.byteCells news)[j]? = some u → w.cell? (ad.add j) = some u) (hbytes : n + m ≤ 140737488355328) (hbase : base ≤ w.heap.size)
    (h : ∀ v' w', w'.ownsRow base e 1 v' (n + m) (xs ++ Lib.byteCells news) → w.grownBy w' v.ownBlock → (v'.ownBlock = v.ownBlock ∨ v'.ownBlock = some w.heap.size) → K (a.put o.dst v') w') : o.wp P a w K Q := by
  obtain ⟨v', w', hr, h2, h3, _, h5⟩ := run_append_own_at (P := P) w base t o.type e i (.int .u8 0) 1 1 ht hi hz hsize hby rfl (by decide) v n xs hown ad m c (Lib.byteCells news) (by rw [Lib.byteCells_length, hl, Nat.mul_one]) hnews (fun u hu => by
    simp only [Lib.byteCells, List.mem_map] at hu
    obtain ⟨d, _, rfl⟩ := hu
    rfl) (by unfold maxLen; omega) (by omega) hbase
  unfold Oper.wp execOp
  simp only [ho, resolve, invoke, builtin, Sem.run_bind, Sem.run_pure, Result.andThen_ok, List.map_toArray, List.map_cons, List.map_nil, hs, hx, hr]
  exact h v' w' h2 h3 h5
theorem cell_grown {w w' : World} {r : Option Nat} {g o : Nat} (h : w.grownBy w' r) (hg : g < w.heap.size) (hr : some g ≠ r) : w'.cell? ⟨g, o, none⟩ = w.cell? ⟨g, o, none⟩ := by
  unfold World.cell?
  rw [h.block g hg hr]
theorem byteAt_nibs (v j : Nat) (hj : j < 32) : nibHi (byteAt v (31 - j)) = v / 16 ^ (63 - 2 * j) % 16 ∧ nibLo (byteAt v (31 - j)) = v / 16 ^ (62 - 2 * j) % 16 := by
  have e : 256 ^ (31 - j) = 16 ^ (62 - 2 * j) := by
    rw [show (256 : Nat) = 16 ^ 2 from rfl, ← Nat.pow_mul]
    congr 1
    omega
  have e2 : 16 ^ (63 - 2 * j) = 16 ^ (62 - 2 * j) * 16 := by rw [← Nat.pow_succ]; congr 1; omega
  unfold nibHi nibLo
  rw [byteAt_toNat, e, e2, ← Nat.div_div_eq_div_mul]
  generalize v / 16 ^ (62 - 2 * j) = y
  omega
set_option maxHeartbeats 2000000 in
theorem specHex_any (x : N4) (w : World) : Calls Tryd.prog 13 #[x.v] w (RetBel (.string ⟨(hexText x).toArray⟩) w) := by
  obtain ⟨i0, hi, hz0, hz1, hz2⟩ := info_parts Tryd.infoByte
  obtain ⟨hn1, hn64⟩ := nh_le x
  go_enter Tryd.func13, Tryd.ntmps13
  go_wp2_with fail
  refine (big_any x _).mono ?_
  rintro e w1 ⟨v1, rfl, hown, hb⟩
  have hb0 := hb
  have HB := Lib.hid (bel_trans (bel_trans (bel_alloc (bel_refl w) _) (bel_alloc (bel_refl _) _)) hb)
  have hown' := hown
  obtain ⟨A, cap, rfl, hcap, hsl⟩ := (SlB.of_own hown).parts
  obtain ⟨g, o, rfl, _⟩ := hsl.first (be_head 31 x.toNat)
  have hgb : w.heap.size + 2 ≤ g := by have := (hown'.lt g rfl).1; simpa using this
  clear hown'
  have HC : Hid (∀ i, i < 32 → w1.cell? ⟨g, o + i, none⟩ = some (.int .u8 ((byteAt x.toNat (31 - i)).toNat : Int))) := by
    intro i hi
    obtain ⟨A', cap', e1, _, h⟩ := hsl
    injection e1 with e1
    obtain ⟨g', o', e2, h2⟩ := h i (byteAt x.toNat (31 - i)) (by rw [be_get, if_pos hi]; rfl)
    rw [← e1] at e2
    injection e2 with e2
    injection e2 with e2 e3
    subst e2 e3
    exact h2
  have hown0 : w1.ownsRow w.heap.size 5 1 (.slice (some ⟨w.heap.size + 1, 0, none⟩) 0 0) 0 (Lib.byteCells ((hexs 64 x.toNat).take (2 * 0))) := by
    have h := World.ownsRow_made (base := w.heap.size) (e := 5) (size := 1) (w.alloc (Obj.cells #[V x.a, V x.b, V x.c, V x.d] 24)) #[] 0 (by simp) (Nat.zero_le _) rfl
    have h2 := own_bel h hb0
    simpa [Lib.byteCells] using h2
  have HG : Hid ((Value.slice (some ⟨w.heap.size + 1, 0, none⟩) 0 0).ownBlock ≠ some g ∧ g < w1.heap.size) := ⟨by have := hgb; simp [Value.ownBlock]; omega, World.block_lt_of_cell? _ _ (HC.out 0 (by omega))⟩
  have HW := Lib.hid hown0
  clear hb hb0 hown hsl hown0
  go_wp2
  go_loopw [3, 5, 10] (fun v q t wr => ∃ (k : Nat) (u q' : Value), u = v ∧ q' = q ∧ k ≤ 32 ∧ t = .int .i64 (k : Int) ∧ wr.ownsRow w.heap.size 5 1 u (2 * k) (Lib.byteCells ((hexs 64 x.toNat).take (2 * k))) ∧ Below w.heap.size w wr ∧ Hid (u.ownBlock ≠ some g ∧ g < wr.heap.size) ∧ Hid (∀ i, i < 32 → wr.cell? ⟨g, o + i, none⟩ = some (.int .u8 ((byteAt x.toNat (31 - i)).toNat : Int)))) (fun _ _ t _ => (32 - intOf t).toNat)
  case atStart => exact ⟨0, _, _, rfl, rfl, by omega, rfl, HW.out, HB.out, HG, HC⟩
  case round =>
    obtain ⟨k, u, q', rfl, rfl, hk, rfl, hown, hbel, HGr, HCr⟩ := hrel
    obtain ⟨wo, rfl⟩ : ∃ wo : World, wo = wr := ⟨_, rfl⟩
    by_cases hk2 : k < 32
    · have hcell := HCr.out k hk2
      have hk3 : (k : Int) < 32 := by omega
      have hkc : (k : Int) < ((32 : Nat) : Int) := by omega
      obtain ⟨bb, hbb⟩ : ∃ bb, bb = byteAt x.toNat (31 - k) := ⟨_, rfl⟩
      rw [← hbb] at hcell
      have HBB := Lib.hid hbb
      have H1 := Lib.hid hown
      have HBL := Lib.hid hbel
      have hszr := hbel.size
      clear hown hbel hbb
      go_wp2
      refine wp_region_noPanic ?_
      refine wp_region_held_drew (S := (fun _ => True)) (by kernel_rfl) (by all_goals exact trivial) (fun hHeld => ?_)
      refine hm_take (i := 0) (v := ?_) rfl rfl (by kernel_rfl) (by kernel_rfl) (by kernel_rfl) (fun _ _ _ h => h) rfl ?_ (by assumption) ?_
      rotate_left
      · (intro w hSw; (try dsimp only at hSw); go_simp; try with_reducible rfl)
      try simp only [Act.put, List.setIfInBounds_toArray, List.set_cons_zero, List.set_cons_succ]
      refine hm_take (i := 1) (v := ?_) rfl rfl (by kernel_rfl) (by kernel_rfl) (by kernel_rfl) (fun _ _ _ h => h) rfl ?_ (by assumption) ?_
      rotate_left
      · (intro w hSw; (try dsimp only at hSw); go_simp; try with_reducible rfl)
      try simp only [Act.put, List.setIfInBounds_toArray, List.set_cons_zero, List.set_cons_succ]
      refine hm_take (i := 2) (v := ?_) rfl rfl (by kernel_rfl) (by kernel_rfl) (by kernel_rfl) (fun _ _ _ h => h) rfl ?_ (by assumption) ?_
      rotate_left
      · (intro w hSw; (try dsimp only at hSw); go_simp; try with_reducible rfl)
      try simp only [Act.put, List.setIfInBounds_toArray, List.set_cons_zero, List.set_cons_succ]
      refine hm_take (i := 3) (v := ?_) rfl rfl (by kernel_rfl) (by kernel_rfl) (by kernel_rfl) (fun _ _ _ h => h) rfl ?_ (by assumption) ?_
      rotate_left
      · (intro w hSw; (try dsimp only at hSw); go_simp; try with_reducible rfl)
      try simp only [Act.put, List.setIfInBounds_toArray, List.set_cons_zero, List.set_cons_succ]
      refine hm_take (i := 4) (v := ?_) rfl rfl (by kernel_rfl) (by kernel_rfl) (by kernel_rfl) (fun _ _ _ h => h) rfl ?_ (by assumption) ?_
      rotate_left
      · (intro w hSw; (try dsimp only at hSw); go_simp; try with_reducible rfl)
      try simp only [Act.put, List.setIfInBounds_toArray, List.set_cons_zero, List.set_cons_succ]
      refine hm_take (i := 5) (v := ?_) rfl rfl (by kernel_rfl) (by kernel_rfl) (by kernel_rfl) (fun _ _ _ h => h) rfl ?_ (by assumption) ?_
      rotate_left
      · (intro w hSw; (try dsimp only at hSw); go_simp; try with_reducible rfl)
      try simp only [Act.put, List.setIfInBounds_toArray, List.set_cons_zero, List.set_cons_succ]
      refine hm_take (i := 6) (v := ?_) rfl rfl (by kernel_rfl) (by kernel_rfl) (by kernel_rfl) (fun _ _ _ h => h) rfl ?_ (by assumption) ?_
      rotate_left
      · (intro w hSw; (try dsimp only at hSw); go_simp; try with_reducible rfl)
      try simp only [Act.put, List.setIfInBounds_toArray, List.set_cons_zero, List.set_cons_succ]
      refine hm_call (i := 7) rfl (by kernel_rfl) rfl (fun K hK => ?_)
      (go_simp)
      refine hK.out _ _ (by (try dsimp only); all_goals exact trivial) (fun hHeld => ?_)
      clear hK K
      try simp only [Act.put, List.setIfInBounds_toArray, List.set_cons_zero, List.set_cons_succ]
      refine hm_call (i := 8) rfl (by kernel_rfl) rfl (fun K hK => ?_)
      (show Oper.wp _ (⟨some 22, _, _, _, _, _⟩ : Oper) _ _ _ _; refine wp_append_at _ (.tmp 14) (.tmp 21) _ rfl w.heap.size 5 i0 Tryd.underlying45 hi hz0 hz1 hz2 _ _ _ rfl (own_bel H1.out (bel_alloc (bel_drew (bel_refl _)) _)) ⟨wo.heap.size, 0, none⟩ 2 2 [hexd (nibHi bb), hexd (nibLo bb)] rfl rfl (fun j u hj => (by match j, hj with | 0, hj => (simp [Lib.byteCells] at hj; subst hj; simp [Addr.add, go_sem]) | 1, hj => (simp [Lib.byteCells] at hj; subst hj; simp [Addr.add, go_sem]) | j + 2, hj => simp [Lib.byteCells] at hj)) (by omega) (Nat.le_trans hszr (by simp)) ?_; intro v4 w4 own4 g4 b4)
      refine hK.out _ _ (by (try dsimp only); all_goals exact trivial) (fun hHeld => ?_)
      clear hK K
      try simp only [Act.put, List.setIfInBounds_toArray, List.set_cons_zero, List.set_cons_succ]
      refine hm_take (i := 9) (v := ?_) rfl rfl (by kernel_rfl) (by kernel_rfl) (by kernel_rfl) (fun _ _ _ h => h) rfl ?_ (by assumption) ?_
      rotate_left
      · (intro w hSw; (try dsimp only at hSw); go_simp; try with_reducible rfl)
      try simp only [Act.put, List.setIfInBounds_toArray, List.set_cons_zero, List.set_cons_succ]
      refine wpAnyH_done (by kernel_rfl) ?_ _
      refine NoPanic.normal ?_
      have HO := H1.out
      obtain ⟨hb1, hb2⟩ := byteAt_nibs x.toNat k hk2
      rw [← HBB.out] at hb1 hb2
      have hown3 : w4.ownsRow w.heap.size 5 1 v4 (2 * (k + 1)) (Lib.byteCells ((hexs 64 x.toNat).take (2 * (k + 1)))) := by
        rw [hexs_take _ _ hk2, Lib.byteCells_append, ← hb1, ← hb2]
        exact own4
      have hbel3 : Below w.heap.size w w4 := (bel_alloc (bel_drew HBL.out) _).grown g4 (Nat.le_trans hszr (by simp)) (fun g hg => (HO.lt g hg).1)
      have hg2 := HGr.out.2
      have hs4 := g4.size
      simp at hs4
      have HG4 : Hid (v4.ownBlock ≠ some g ∧ g < w4.heap.size) := by
        refine ⟨?_, by omega⟩
        rcases b4 with e | e
        · rw [e]; exact HGr.out.1
        · rw [e]; simp; omega
      have HC4 : Hid (∀ i, i < 32 → w4.cell? ⟨g, o + i, none⟩ = some (.int .u8 ((byteAt x.toNat (31 - i)).toNat : Int))) := fun i hi => by
        have h1 := HCr.out i hi
        have h2 : (wo.drew.alloc (.cells #[.int .u8 ((hexd (nibHi bb)).toNat : Int), .int .u8 ((hexd (nibLo bb)).toNat : Int)] 5)).cell? ⟨g, o + i, none⟩ = some (.int .u8 ((byteAt x.toNat (31 - i)).toNat : Int)) := bel_cell (bel_alloc (bel_drew (bel_refl wo)) _) h1
        rw [← h2]
        exact cell_grown g4 (by simp; omega) (fun e => HGr.out.1 e.symm)
      clear own4 g4 b4 HO
      go_wp2
      go_roundw
      case rel => exact ⟨k + 1, _, _, rfl, rfl, by omega, by go_num, hown3, hbel3, HG4, HC4⟩
      case measure => simp [intOf] <;> omega
    · obtain rfl : k = 32 := by omega
      have hsl : Hid (SlB wo u (hexs 64 x.toNat)) := by
        show SlB _ _ _
        have e : (hexs 64 x.toNat).take (2 * 32) = hexs 64 x.toNat := List.take_of_length_le (by rw [hexs_len]; omega)
        rw [e] at hown
        exact SlB.of_own (base := w.heap.size) (e := 5) (by rw [hexs_len]; exact hown)
      have HBL := Lib.hid hbel
      clear hown hbel hk2
      go_wp2
      go_loop [3] (fun v => ∃ (m : Nat) (u : Value), u = v ∧ x.nh ≤ m ∧ m ≤ 64 ∧ SlB wo u (hexs m x.toNat)) (fun v => match v with | .slice _ n _ => n | _ => 0)
      case atStart => exact ⟨64, _, rfl, hn64, by omega, hsl.out⟩
      case round =>
        obtain ⟨m, u2, rfl, h1, h2, hsl⟩ := hrel
        obtain ⟨A2, cap2, rfl, hcap2, hsl⟩ : ∃ A cap, u2 = .slice A m cap ∧ m ≤ cap ∧ SlB wo (.slice A m cap) (hexs m x.toNat) := by
          have h2 := hsl
          obtain ⟨A, cap, rfl, hc, _⟩ := hsl
          rw [hexs_len] at hc h2 ⊢
          exact ⟨A, cap, rfl, hc, h2⟩
        obtain ⟨j, rfl⟩ : ∃ j, m = j + 1 := ⟨m - 1, by omega⟩
        have hcut := Lib.hid (hsl.cut 1 (by omega))
        obtain ⟨g2, o2, rfl, hcell⟩ := hsl.first (hexs_head j x.toNat)
        have HS := Lib.hid hsl
        clear hsl
        by_cases hlt : x.nh < j + 1
        · rw [nh_high x (by omega)] at hcell
          have hc48 : (((hexd 0).toNat : Int) == 48) = true := by decide
          have hc48' : ((hexd 0).toNat : Int) = 48 := by decide
          have hj1 : (1 : Int) < ((j + 1 : Nat) : Int) := by omega
          rw [hc48'] at hcell
          have hc2 : SlB wo (.slice (if cap2 = 1 then some ⟨g2, o2, none⟩ else some ⟨g2, o2 + 1, none⟩) j (cap2 - 1)) (hexs j x.toNat) := by
            have h := hcut.out
            rw [hexs_drop] at h
            simpa [Addr.add] using h
          have HC2 := Lib.hid hc2
          clear hc2 hcut
          have hc1 : ¬ cap2 = 1 := by have := nh_le x; omega
          go_wp2
          exact ⟨j, by omega, by omega, by simpa [hc1] using HC2.out⟩
        · have hj : x.nh = j + 1 := by omega
          have HS2 : Hid (SlB wo (.slice (some ⟨g2, o2, none⟩) (j + 1) cap2) (hexs x.nh x.toNat)) := by rw [hj]; exact HS.out
          have hconv := conv_slb HS2.out
          have hsz : (⟨(hexs x.nh x.toNat).toArray⟩ : ByteArray).size = x.nh := by simp [ByteArray.size, hexs_len]
          have htext : (⟨#[48, 120]⟩ : ByteArray) ++ ⟨(hexs x.nh x.toNat).toArray⟩ = ⟨(hexText x).toArray⟩ := by
            apply ByteArray.ext
            simp [hexText]
          have HJ := Lib.hid hj
          by_cases hj0 : j = 0
          · subst hj0
            clear hj hlt
            go_wp2
            go_ret
            exact retBel rfl HBL.out
          · have hne : (((hexd (x.toNat / 16 ^ j % 16)).toNat : Int) == 48) = false := by
              have := nh_top x (by omega)
              rw [hj, Nat.add_sub_cancel] at this
              have h2 := hexd_zero (x.toNat / 16 ^ j % 16) (Nat.mod_lt _ (by decide))
              simp
              omega
            generalize x.toNat / 16 ^ j % 16 = dd at *
            clear hj hlt
            have hj1 : (1 : Int) < ((j + 1 : Nat) : Int) := by omega
            go_wp2
            go_ret
            exact retBel rfl HBL.out

/-- A store of one cell. -/
theorem run_storeVar_one {P : Program} (w : World) (b o : Nat) (ty : TypeId) (k : IntKind) (n : Int) (ht : w.there b o 1) (hi : (P.info? ty).map (·.size) = some 1) :
    (storeVar ty ⟨b, o, none⟩ (.int k n)).run P w = .ok () (w.setCells b o [.int k n]) := by
  have := run_storeCells_cells (P := P) b o [.int k n] 0 w (fun j hj => by simpa using (ht j (by simpa using hj)).1) (fun j hj => by simpa using (ht j (by simpa using hj)).2) (fun v hv => by simp at hv; subst hv; rfl)
  cases hq : P.info? ty with
  | none => simp [hq] at hi
  | some i =>
    have hs : i.size = 1 := by simp [hq] at hi; omega
    simp only [Nat.add_zero] at this
    simp [storeVar, sizeOf, typeInfo, hq, Value.cells, hs, this]
/-- The row of 66 bytes while it is filled. -/
structure HexS (w0 : World) (b o : Nat) (x : N4) (g : Nat) (L : List UInt8) (W : World) : Prop where
  at4 : At4 W b o x
  here : W.there g 0 66
  row : W.rangeAt g 0 (Lib.byteCells L)
  bel : Below w0.heap.size w0 W
theorem HexS.put {w0 W : World} {b o g : Nat} {x : N4} {L : List UInt8} (h : HexS w0 b o x g L W) (i : Nat) (d : UInt8) (hl : L.length = 66) (hi : i < 66) (hbg : b ≠ g) (hw : w0.heap.size ≤ g) : HexS w0 b o x g (L.set i d) (W.setCells g i [.int .u8 (d.toNat : Int)]) := by
  refine ⟨h.at4.setFar4 hbg, World.there_setCells h.here _ _ _, fun j v hj => ?_, setCells_bel' h.bel hw⟩
  have hth := h.here i hi
  rw [Nat.zero_add] at hth
  have e : W.setCells g i [.int .u8 (d.toNat : Int)] = W.setCell ⟨g, i, none⟩ (.int .u8 (d.toNat : Int)) := rfl
  rw [e, Nat.zero_add]
  by_cases hij : i = j
  · subst hij
    obtain ⟨c, hc⟩ := Option.isSome_iff_exists.1 hth.1
    rw [World.cell?_setCell_same _ _ _ hc]
    simp only [Lib.byteCells, List.getElem?_map] at hj
    rw [List.getElem?_set_self (by omega)] at hj
    simpa using hj
  · rw [World.cell?_setCell_other _ _ _ _ (by intro e; injection e with e1 e2; exact hij e2)]
    have h1 := h.row j v (by
      simp only [Lib.byteCells, List.getElem?_map] at hj ⊢
      rwa [List.getElem?_set_ne hij] at hj)
    rwa [Nat.zero_add] at h1
theorem wpList_hex {P : Program} {ops : Array Oper} {rest : List Oper} {op : Oper} {a : Act} {W : World} {Q : Exit → Act → World → Prop} (hgd : op.guard = none) (ty : TypeId) (p v : Operand) (ho : op.op = .store ty p v) (g i : Nat) (d : UInt8)
    (hp : a.eval p = .pointer (some ⟨g, i, none⟩)) (hv : a.eval v = .int .u8 (d.toNat : Int)) (hi : (P.info? ty).map (·.size) = some 1) {w0 : World} {b o : Nat} {x : N4} {L : List UInt8} (H : HexS w0 b o x g L W) (hl : L.length = 66) (hlt : i < 66) (hbg : b ≠ g) (hw : w0.heap.size ≤ g)
    (h : ∀ W', HexS w0 b o x g (L.set i d) W' → wpList P ops Q rest (a.put op.dst undef) W') : wpList P ops Q (op :: rest) a W := by
  refine wpList_plain hgd fun K hK => ?_
  unfold Oper.wp execOp
  simp only [ho, hp, hv, Instr.storeAt, Instr.sureAddr, Sem.run_bind, Sem.run_pure, Result.andThen_ok, run_storeVar_one W g i ty _ _ (fun j hj => by have := H.here i hlt; rw [Nat.zero_add] at this; rw [show i + j = i by omega]; exact this) hi]
  exact hK _ _ (h _ (H.put i d hl hlt hbg hw))
/-- The word i's sixteen digits in their places. -/
def put16 (L : List UInt8) (P : Nat) (y : W64) : Nat → List UInt8
  | 0 => L
  | t + 1 => (put16 L P y t).set (P + 2 + t) (hexd (nibW (y >>> (60 - 4 * t))))
theorem put16_len (L : List UInt8) (i : Nat) (y : W64) (t : Nat) : (put16 L i y t).length = L.length := by
  induction t with
  | zero => rfl
  | succ t ih => unfold put16; rw [List.length_set, ih]
theorem put16_get (L : List UInt8) (P i : Nat) (y : W64) (hL : L.length = 66) (hP : P + 16 * i = 48) (t : Nat) (ht : t ≤ 16) (j : Nat) : (put16 L P y t)[j]? = if P + 2 ≤ j ∧ j < P + 2 + t then some (hexd (y.toNat / 2 ^ (60 - 4 * (j - (P + 2))) % 16)) else L[j]? := by
  induction t with
  | zero => rw [if_neg (by omega)]; rfl
  | succ t ih =>
    unfold put16
    rw [List.getElem?_set]
    by_cases hj : P + 2 + t = j
    · rw [if_pos hj, if_pos (by rw [put16_len, hL]; omega), if_pos (by omega), ← hj, Nat.add_sub_cancel_left, nibW_shr]
    · rw [if_neg hj, ih (by omega)]
      by_cases h2 : P + 2 ≤ j ∧ j < P + 2 + t
      · rw [if_pos h2, if_pos (by omega)]
      · rw [if_neg h2, if_neg (by omega)]
theorem nibW_zero (y : W64) : nibW (y >>> 0) = nibW y := by rw [nibW_shr]; unfold nibW; omega
theorem at4_wd {W : World} {b o : Nat} {x : N4} (h : At4 W b o x) {j : Nat} (hj : j < 4) : W.cell? ⟨b, o + j, none⟩ = some (V (x.wd j)) := by
  rcases (by omega : j = 0 ∨ j = 1 ∨ j = 2 ∨ j = 3) with rfl | rfl | rfl | rfl
  · exact h.c0
  · exact h.c1
  · exact h.c2
  · exact h.c3
theorem HexS.slb {w0 W : World} {b o g : Nat} {x : N4} {L : List UInt8} (h : HexS w0 b o x g L W) (hl : L.length = 66) : SlB W (.slice (some ⟨g, 0, none⟩) 66 66) L :=
  ⟨some ⟨g, 0, none⟩, 66, by rw [hl], by omega, fun i d hd => ⟨g, 0, rfl, h.row i _ (bytes_get L i d hd)⟩⟩
/-- What the row holds when the words from i on are done, n of them. -/
def Done (L : List UInt8) (x : N4) (i n : Nat) : Prop := L.length = 66 ∧ ∀ e, 16 * i ≤ e → e < 16 * n → L[65 - e]? = some (hexd (x.toNat / 16 ^ e % 16))
theorem Done.next {L : List UInt8} {x : N4} {i n : Nat} (h : Done L x (i + 1) n) (hn : n ≤ 4) (hi : i < n) : Done (put16 L (48 - 16 * i) (x.wd i) 16) x i n := by
  refine ⟨by rw [put16_len, h.1], fun e h1 h2 => ?_⟩
  rw [put16_get L (48 - 16 * i) i (x.wd i) h.1 (by omega) 16 (Nat.le_refl _)]
  by_cases hc : 16 * (i + 1) ≤ e
  · rw [if_neg (by omega)]
    exact h.2 e hc h2
  · rw [if_pos (by omega), show 65 - e - (48 - 16 * i + 2) = 15 - (e - 16 * i) by omega, show 60 - 4 * (15 - (e - 16 * i)) = 4 * (e - 16 * i) by omega, nib_wd x i _ (by omega) (by omega), show 16 * i + (e - 16 * i) = e by omega]
theorem hex_done {L : List UInt8} {x : N4} {n : Nat} (h : Done L x 0 n) (hn : x.nh ≤ 16 * n) : ((L.set (64 - x.nh) 48).set (65 - x.nh) 120).drop (64 - x.nh) = hexText x := by
  obtain ⟨h1, h64⟩ := nh_le x
  obtain ⟨hl, hd⟩ := h
  apply List.ext_getElem?
  intro i
  rw [List.getElem?_drop, List.getElem?_set, List.getElem?_set]
  unfold hexText
  rcases (by omega : i = 0 ∨ i = 1 ∨ 2 ≤ i) with rfl | rfl | h2
  · rw [if_neg (by omega), if_pos (by omega), if_pos (by omega)]; rfl
  · rw [if_pos (by omega), if_pos (by rw [List.length_set]; omega)]; rfl
  · obtain ⟨j, rfl⟩ : ∃ j, i = j + 2 := ⟨i - 2, by omega⟩
    rw [if_neg (by omega), if_neg (by omega), List.getElem?_cons_succ, List.getElem?_cons_succ, hexs_get]
    by_cases hj : j < x.nh
    · rw [if_pos hj]
      have := hd (x.nh - 1 - j) (by omega) (by omega)
      rwa [show 65 - (x.nh - 1 - j) = 64 - x.nh + (j + 2) by omega] at this
    · rw [if_neg hj, List.getElem?_eq_none (by omega)]
theorem HexS.text {w0 W : World} {b o g : Nat} {x : N4} {L : List UInt8} (h : HexS w0 b o x g L W) (hl : L.length = 66) {K : Nat} (hK : K ≤ 63) (hd : L.drop K = hexText x) : SlB W (.slice (some ⟨g, K, none⟩) (66 - K) (66 - K)) (hexText x) := by
  have h2 := (h.slb hl).cut K (by omega)
  rw [hd, if_neg (by omega)] at h2
  by_cases h0 : K = 0
  · subst h0; simpa [Addr.add] using h2
  · simpa [Addr.add, h0] using h2
theorem put16_all (L : List UInt8) (P : Nat) (y : W64) : put16 L P y 16 = ((((((((((((((((L.set (P + 2) (hexd (nibW (y >>> 60)))).set (P + 3) (hexd (nibW (y >>> 56)))).set (P + 4) (hexd (nibW (y >>> 52)))).set (P + 5) (hexd (nibW (y >>> 48)))).set (P + 6) (hexd (nibW (y >>> 44)))).set (P + 7) (hexd (nibW (y >>> 40)))).set (P + 8) (hexd (nibW (y >>> 36)))).set (P + 9) (hexd (nibW (y >>> 32)))).set (P + 10) (hexd (nibW (y >>> 28)))).set (P + 11) (hexd (nibW (y >>> 24)))).set (P + 12) (hexd (nibW (y >>> 20)))).set (P + 13) (hexd (nibW (y >>> 16)))).set (P + 14) (hexd (nibW (y >>> 12)))).set (P + 15) (hexd (nibW (y >>> 8)))).set (P + 16) (hexd (nibW (y >>> 4)))).set (P + 17) (hexd (nibW y))) := by
  simp only [put16, Nat.reduceMul, Nat.reduceSub, nibW_zero, Nat.add_zero, Nat.add_assoc, Nat.reduceAdd]
/-- The frame of Hex: so many slots; the pointer, the row, the count of digits. -/
structure HexT (b o_ g nh : Nat) (t : Array Value) : Prop where
  sz : t.size = 247
  f0 : t[0]? = some (.pointer (some ⟨b, o_, none⟩))
  f3 : t[3]? = some (.slice (some ⟨g, 0, none⟩) 66 66)
  f4 : t[4]? = some (.int .i64 (nh : Int))
theorem HexT.set {b o_ g nh : Nat} {t : Array Value} (h : HexT b o_ g nh t) (d : Nat) (v : Value) (hd : d ≠ 0 ∧ d ≠ 3 ∧ d ≠ 4) : HexT b o_ g nh (t.setIfInBounds d v) :=
  ⟨by rw [Array.size_setIfInBounds]; exact h.sz, by rw [slot_other _ _ _ _ hd.1]; exact h.f0, by rw [slot_other _ _ _ _ hd.2.1]; exact h.f3, by rw [slot_other _ _ _ _ hd.2.2]; exact h.f4⟩
def Hex247 (t : Array Value) : Prop := t.size = 247
theorem hex247_set (t : Array Value) (d : Nat) (v : Value) : Hex247 (t.setIfInBounds d v) = Hex247 t := by unfold Hex247; rw [Array.size_setIfInBounds]
theorem hex247_same (t : Array Value) (d : Nat) (v : Value) (h : Hex247 t) (hd : d < 247) : (t.setIfInBounds d v)[d]? = some v := slot_same t d v (by unfold Hex247 at h; omega)
attribute [local go_sem] hex247_set hex247_same slot_other
end Go.Proofs.YtfaocjcpnjmfiaaDoor
