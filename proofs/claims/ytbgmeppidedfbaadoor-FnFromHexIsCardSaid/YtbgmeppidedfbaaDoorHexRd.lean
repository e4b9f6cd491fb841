/-
  uint256's fromHex.
-/
import Derived.Test.YtbgmeppidedfbaaDoorHexChk
import Derived.Test.YtbgmeppidedfbaaDoorRow
import Derived.Test.YtbgmeppidedfbaaDoorArith
import Derived.Test.YtbgmeppidedfbaaDoorDiv6
import Derived.Deep.DeepCutAuto
import Derived.Deep.CutBlock
import Derived.BigRegion
import Derived.Deep.RegionHeld3
set_option linter.unusedVariables false
set_option linter.unusedSimpArgs false
namespace Go.Proofs.YtbgmeppidedfbaaDoor
open Go.RowKit
/-- The loops' bodies in a code, not those within them. -/
def loopsIn : Code → List Code
  | .loop c => [c]
  | .seq a b => loopsIn a ++ loopsIn b
  | .block _ c => loopsIn c
  | .scope c => loopsIn c
  | .cond _ a b => loopsIn a ++ loopsIn b
  | _ => []
noncomputable def hexBody : Code := ((Tryd.f49.body.map loopsIn).getD []).headD .skip
noncomputable def hexIn : Code := (loopsIn hexBody).headD .skip
def opsOf : Code → List Oper
  | .region _ ops _ => ops.toList
  | .loop c => opsOf c
  | .seq a b => opsOf a ++ opsOf b
  | .block _ c => opsOf c
  | .scope c => opsOf c
  | .cond _ a b => opsOf a ++ opsOf b
  | _ => []
def tabOf (o : Oper) : Option ByteArray := match o.op with
  | .index _ (.const (.string v)) _ => some v
  | _ => none
/-- The table of digits. -/
noncomputable def binS : ByteArray := ((opsOf hexIn).findSome? tabOf).getD ByteArray.empty
theorem bin_list : binS.data.toList = (List.range 256).map fun n => UInt8.ofNat (nibOf (UInt8.ofNat n)) := by kernel_rfl
theorem bin_nib (c : UInt8) (S : ByteArray) (h : c.toNat < S.size) (hS : S = binS) : (S[c.toNat]'h).toNat = nibOf c := by
  subst hS
  have e : binS.data.toList[c.toNat]? = some (UInt8.ofNat (nibOf c)) := by
    rw [bin_list, List.getElem?_map, List.getElem?_range c.toNat_lt]
    simp
  have e2 : binS[c.toNat]'h = UInt8.ofNat (nibOf c) := by
    show binS.data[c.toNat]'h = _
    rw [← Array.getElem_toList]
    exact (List.getElem?_eq_some_iff.1 e).2
  rw [e2, UInt8.toNat_ofNat']
  rcases nibOf_two c with h | h <;> omega
/-- A number with one word turned. -/
def wset (t : N4) : Nat → W64 → N4
  | 0, v => ⟨v, t.b, t.c, t.d⟩
  | 1, v => ⟨t.a, v, t.c, t.d⟩
  | 2, v => ⟨t.a, t.b, v, t.d⟩
  | _, v => ⟨t.a, t.b, t.c, v⟩
theorem at4_wset {W : World} {b : Nat} {t : N4} (h : At4 W b 0 t) (i : Nat) (hi : i < 4) (v : W64) : At4 (W.setCell ⟨b, i, none⟩ (V v)) b 0 (wset t i v) := by
  obtain ⟨h0, h1, h2, h3⟩ := h
  simp only [Nat.zero_add] at h1 h2 h3
  match i, hi with
  | 0, _ | 1, _ | 2, _ | 3, _ => constructor <;> simp [go_sem, wset, h0, h1, h2, h3]
theorem free4_wset {W : World} {c p : Nat} (h : Free4 W c p) (b i : Nat) (v : Value) : Free4 (W.setCell ⟨b, i, none⟩ v) c p := by
  obtain ⟨h0, h1, h2, h3⟩ := h
  constructor <;> simp [go_sem, h0, h1, h2, h3]
theorem wset_wset (t : N4) (i : Nat) (u v : W64) : wset (wset t i u) i v = wset t i v := by
  match i with
  | 0 | 1 | 2 | _ + 3 => rfl
/-- The digits from st on, so many. -/
def seg (s : List UInt8) (st n : Nat) : List UInt8 := (s.drop st).take n
/-- What holds in the inner loop: k digits of the word are read. -/
structure HexI (w0 : World) (b : Nat) (z : N4) (s : List UInt8) (i st k : Nat) (W : World) : Prop where
  at4 : At4 W b 0 (wset z i (BitVec.ofNat 64 (hv (seg s st k))))
  free : Free4 W b 0
  but : But [b] w0 W
  nibs : Nibs (seg s st k)
theorem HexE.but {a : Nat → Addr} {w w' : World} {b : Nat} (h : HexE a w) (k : But [b] w w') (hb : 5 < b) : HexE a w' :=
  ⟨k.cell (by simp; omega) h.e1, k.cell (by simp; omega) h.e2, k.cell (by simp; omega) h.e3, k.cell (by simp; omega) h.e4, k.cell (by simp; omega) h.e5, k.cell (by simp; omega) h.e6⟩
theorem hex_word (h n : Nat) : BitVec.ofNat 64 (16 * h + n) = (BitVec.ofNat 64 h <<< 4) + BitVec.ofNat 64 n := by
  apply BitVec.eq_of_toNat_eq
  rw [BitVec.toNat_add, BitVec.toNat_shiftLeft, BitVec.toNat_ofNat, BitVec.toNat_ofNat, BitVec.toNat_ofNat, Nat.shiftLeft_eq]
  omega
theorem nib_u64 (n : Nat) (h : n < 16) : IntKind.u64.wrap (n : Int) = U (BitVec.ofNat 64 n) := by
  unfold U
  rw [BitVec.toNat_ofNat, IntKind.wrap_u64]
  omega
theorem seg_snoc (s : List UInt8) (st k : Nat) (c : UInt8) (h : s[st + k]? = some c) : seg s st (k + 1) = seg s st k ++ [c] := by
  unfold seg
  rw [List.take_add_one, List.getElem?_drop, h]
  rfl
/-- A region of a code by its number. -/
def findReg (n : Nat) : Code → Option Code
  | .region id ops dr => if id = n then some (.region id ops dr) else none
  | .loop c => findReg n c
  | .seq a b => (findReg n a).or (findReg n b)
  | .block _ c => findReg n c
  | .scope c => findReg n c
  | .cond _ a b => (findReg n a).or (findReg n b)
  | _ => none
noncomputable def hexShl : Code := (findReg 20 hexIn).getD .skip
noncomputable def hexAdd : Code := (findReg 21 hexIn).getD .skip
set_option maxHeartbeats 8000000 in
set_option maxRecDepth 20000 in
theorem hex_shl (b i : Nat) (s : List UInt8) (st en r : Nat) (nb : Value) (X Y : W64) (W1 : World) (Q : Exit → Act → World → Prop) (c2 c3 c5 c11 c12 c13 c14 c15 c16 c17 c18 c19 c20 c21 c22 c23 c24 c25 c26 c27 c28 c29 c30 c31 c32 c65 v33 v34 v35 v36 v37 v38 v39 v40 v41 v42 v43 v44 v45 v46 v47 v48 v49 v50 v51 v52 v53 v54 v55 v56 v57 v58 v59 v60 v61 v62 v63 v64 : Value) (hi : i < 4) (hc : W1.cell? ⟨b, i, none⟩ = some (V X)) (hf : W1.frozen? ⟨b, i, none⟩ = false)
    (hsh : IntKind.u64.wrap (U X * 16) = U Y) (HN : Hid (∀ (u33 u34 u35 u36 u37 u38 u39 u40 u41 u42 u43 u44 u45 u46 u47 u48 u49 u50 u51 u52 u53 u54 u55 u56 u57 u58 u59 u60 u61 u62 u63 u64 : Value), Q .normal ⟨List.toArray (.pointer (some ⟨b, 0, none⟩) :: .string ⟨s.toArray⟩ :: c2 :: c3 :: .nilIface :: c5 :: .int .i64 (en : Int) :: .int .i64 (i : Int) :: .int .i64 (st : Int) :: .int .i64 (r : Int) :: nb :: c11 :: c12 :: c13 :: c14 :: c15 :: c16 :: c17 :: c18 :: c19 :: c20 :: c21 :: c22 :: c23 :: c24 :: c25 :: c26 :: c27 :: c28 :: c29 :: c30 :: c31 :: c32 :: u33 :: u34 :: u35 :: u36 :: u37 :: u38 :: u39 :: u40 :: u41 :: u42 :: u43 :: u44 :: u45 :: u46 :: u47 :: u48 :: u49 :: u50 :: u51 :: u52 :: u53 :: u54 :: u55 :: u56 :: u57 :: u58 :: u59 :: u60 :: u61 :: u62 :: u63 :: u64 :: c65 :: []), []⟩ ((W1.setCell ⟨b, i, none⟩ (V Y)).drew))) : Code.wp Tryd.prog hexShl Q ⟨List.toArray (.pointer (some ⟨b, 0, none⟩) :: .string ⟨s.toArray⟩ :: c2 :: c3 :: .nilIface :: c5 :: .int .i64 (en : Int) :: .int .i64 (i : Int) :: .int .i64 (st : Int) :: .int .i64 (r : Int) :: nb :: c11 :: c12 :: c13 :: c14 :: c15 :: c16 :: c17 :: c18 :: c19 :: c20 :: c21 :: c22 :: c23 :: c24 :: c25 :: c26 :: c27 :: c28 :: c29 :: c30 :: c31 :: c32 :: v33 :: v34 :: v35 :: v36 :: v37 :: v38 :: v39 :: v40 :: v41 :: v42 :: v43 :: v44 :: v45 :: v46 :: v47 :: v48 :: v49 :: v50 :: v51 :: v52 :: v53 :: v54 :: v55 :: v56 :: v57 :: v58 :: v59 :: v60 :: v61 :: v62 :: v63 :: v64 :: c65 :: []), []⟩ W1 := by
  rcases (by omega : i = 0 ∨ i = 1 ∨ i = 2 ∨ i = 3) with rfl | rfl | rfl | rfl
  · conv => arg 2; whnf
    rw [show ((0 : Nat) : Int) = 0 by rfl]
    go_region
    exact HN.out _ _ _ _ _ _ _ _ _ _ _ _ _ _ _ _ _ _ _ _ _ _ _ _ _ _ _ _ _ _ _ _
  · conv => arg 2; whnf
    rw [show ((1 : Nat) : Int) = 1 by rfl]
    go_region
    exact HN.out _ _ _ _ _ _ _ _ _ _ _ _ _ _ _ _ _ _ _ _ _ _ _ _ _ _ _ _ _ _ _ _
  · conv => arg 2; whnf
    rw [show ((2 : Nat) : Int) = 2 by rfl]
    go_region
    exact HN.out _ _ _ _ _ _ _ _ _ _ _ _ _ _ _ _ _ _ _ _ _ _ _ _ _ _ _ _ _ _ _ _
  · conv => arg 2; whnf
    rw [show ((3 : Nat) : Int) = 3 by rfl]
    go_region
    exact HN.out _ _ _ _ _ _ _ _ _ _ _ _ _ _ _ _ _ _ _ _ _ _ _ _ _ _ _ _ _ _ _ _
set_option maxHeartbeats 8000000 in
set_option maxRecDepth 20000 in
theorem hex_add (b i : Nat) (s : List UInt8) (st en r nn : Nat) (Y T : W64) (W1 : World) (Q : Exit → Act → World → Prop) (c2 c3 c5 c11 c12 c13 c14 c15 c16 c17 c18 c19 c20 c21 c22 c23 c24 c25 c26 c27 c28 c29 c30 c31 c32 c65 v33 v34 v35 v36 v37 v38 v39 v40 v41 v42 v43 v44 v45 v46 v47 v48 v49 v50 v51 v52 v53 v54 v55 v56 v57 v58 v59 v60 v61 v62 v63 v64 : Value) (hi : i < 4) (hc : W1.cell? ⟨b, i, none⟩ = some (V Y)) (hf : W1.frozen? ⟨b, i, none⟩ = false)
    (hwr : IntKind.u64.wrap (nn : Int) = U T) (hn : nn < 16) (HN : Hid (∀ (u33 u34 u35 u36 u37 u38 u39 u40 u41 u42 u43 u44 u45 u46 u47 u48 u49 u50 u51 u52 u53 u54 u55 u56 u57 u58 u59 u60 u61 u62 u63 u64 : Value), Q .normal ⟨List.toArray (.pointer (some ⟨b, 0, none⟩) :: .string ⟨s.toArray⟩ :: c2 :: c3 :: .nilIface :: c5 :: .int .i64 (en : Int) :: .int .i64 (i : Int) :: .int .i64 (st : Int) :: .int .i64 (r : Int) :: (.int .u8 (nn : Int)) :: c11 :: c12 :: c13 :: c14 :: c15 :: c16 :: c17 :: c18 :: c19 :: c20 :: c21 :: c22 :: c23 :: c24 :: c25 :: c26 :: c27 :: c28 :: c29 :: c30 :: c31 :: c32 :: u33 :: u34 :: u35 :: u36 :: u37 :: u38 :: u39 :: u40 :: u41 :: u42 :: u43 :: u44 :: u45 :: u46 :: u47 :: u48 :: u49 :: u50 :: u51 :: u52 :: u53 :: u54 :: u55 :: u56 :: u57 :: u58 :: u59 :: u60 :: u61 :: u62 :: u63 :: u64 :: c65 :: []), []⟩ ((W1.setCell ⟨b, i, none⟩ (V (Y + T))).drew))) : Code.wp Tryd.prog hexAdd Q ⟨List.toArray (.pointer (some ⟨b, 0, none⟩) :: .string ⟨s.toArray⟩ :: c2 :: c3 :: .nilIface :: c5 :: .int .i64 (en : Int) :: .int .i64 (i : Int) :: .int .i64 (st : Int) :: .int .i64 (r : Int) :: (.int .u8 (nn : Int)) :: c11 :: c12 :: c13 :: c14 :: c15 :: c16 :: c17 :: c18 :: c19 :: c20 :: c21 :: c22 :: c23 :: c24 :: c25 :: c26 :: c27 :: c28 :: c29 :: c30 :: c31 :: c32 :: v33 :: v34 :: v35 :: v36 :: v37 :: v38 :: v39 :: v40 :: v41 :: v42 :: v43 :: v44 :: v45 :: v46 :: v47 :: v48 :: v49 :: v50 :: v51 :: v52 :: v53 :: v54 :: v55 :: v56 :: v57 :: v58 :: v59 :: v60 :: v61 :: v62 :: v63 :: v64 :: c65 :: []), []⟩ W1 := by
  rcases (by omega : i = 0 ∨ i = 1 ∨ i = 2 ∨ i = 3) with rfl | rfl | rfl | rfl
  · conv => arg 2; whnf
    rw [show ((0 : Nat) : Int) = 0 by rfl]
    go_region
    exact HN.out _ _ _ _ _ _ _ _ _ _ _ _ _ _ _ _ _ _ _ _ _ _ _ _ _ _ _ _ _ _ _ _
  · conv => arg 2; whnf
    rw [show ((1 : Nat) : Int) = 1 by rfl]
    go_region
    exact HN.out _ _ _ _ _ _ _ _ _ _ _ _ _ _ _ _ _ _ _ _ _ _ _ _ _ _ _ _ _ _ _ _
  · conv => arg 2; whnf
    rw [show ((2 : Nat) : Int) = 2 by rfl]
    go_region
    exact HN.out _ _ _ _ _ _ _ _ _ _ _ _ _ _ _ _ _ _ _ _ _ _ _ _ _ _ _ _ _ _ _ _
  · conv => arg 2; whnf
    rw [show ((3 : Nat) : Int) = 3 by rfl]
    go_region
    exact HN.out _ _ _ _ _ _ _ _ _ _ _ _ _ _ _ _ _ _ _ _ _ _ _ _ _ _ _ _ _ _ _ _
theorem wset_cell {W : World} {b i : Nat} {z : N4} {v : W64} (h : At4 W b 0 (wset z i v)) (hi : i < 4) : W.cell? ⟨b, i, none⟩ = some (V v) := by
  obtain ⟨h0, h1, h2, h3⟩ := h
  simp only [Nat.zero_add] at h1 h2 h3
  match i, hi with
  | 0, _ => exact h0
  | 1, _ => exact h1
  | 2, _ => exact h2
  | 3, _ => exact h3
theorem free_cell {W : World} {b i : Nat} (h : Free4 W b 0) (hi : i < 4) : W.frozen? ⟨b, i, none⟩ = false := by
  obtain ⟨h0, h1, h2, h3⟩ := h
  simp only [Nat.zero_add] at h1 h2 h3
  match i, hi with
  | 0, _ => exact h0
  | 1, _ => exact h1
  | 2, _ => exact h2
  | 3, _ => exact h3
set_option maxHeartbeats 8000000 in
set_option maxRecDepth 20000 in
theorem hexin_round (w0 : World) (a : Nat → Addr) (b : Nat) (z : N4) (s : List UInt8) (i st en k : Nat) (nb : Value) (W : World) (Q : Exit → Act → World → Prop) (c2 c3 c5 c11 c12 c13 c14 c15 c16 c17 c18 c19 c20 c21 c22 c23 c24 c25 c26 c27 c28 c29 c30 c31 c32 c65 v33 v34 v35 v36 v37 v38 v39 v40 v41 v42 v43 v44 v45 v46 v47 v48 v49 v50 v51 v52 v53 v54 v55 v56 v57 v58 v59 v60 v61 v62 v63 v64 : Value)
    (H : HexI w0 b z s i st k W) (hE : HexE a w0) (hbg : 5 < b) (hi : i < 4) (hk : st + k ≤ en) (hen : en ≤ s.length) (hs : s.length ≤ 66)
    (HN : Hid (∀ (R : Int) (nb : Value) (W' : World) (u33 u34 u35 u36 u37 u38 u39 u40 u41 u42 u43 u44 u45 u46 u47 u48 u49 u50 u51 u52 u53 u54 u55 u56 u57 u58 u59 u60 u61 u62 u63 u64 : Value), st + k < en → R = ((st + k + 1 : Nat) : Int) → HexI w0 b z s i st (k + 1) W' → Q .normal ⟨List.toArray (.pointer (some ⟨b, 0, none⟩) :: .string ⟨s.toArray⟩ :: c2 :: c3 :: .nilIface :: c5 :: .int .i64 (en : Int) :: .int .i64 (i : Int) :: .int .i64 (st : Int) :: .int .i64 R :: nb :: c11 :: c12 :: c13 :: c14 :: c15 :: c16 :: c17 :: c18 :: c19 :: c20 :: c21 :: c22 :: c23 :: c24 :: c25 :: c26 :: c27 :: c28 :: c29 :: c30 :: c31 :: c32 :: u33 :: u34 :: u35 :: u36 :: u37 :: u38 :: u39 :: u40 :: u41 :: u42 :: u43 :: u44 :: u45 :: u46 :: u47 :: u48 :: u49 :: u50 :: u51 :: u52 :: u53 :: u54 :: u55 :: u56 :: u57 :: u58 :: u59 :: u60 :: u61 :: u62 :: u63 :: u64 :: c65 :: []), []⟩ W'))
    (HB : Hid (∀ (R : Int) (nb : Value) (W' : World) (u33 u34 u35 u36 u37 u38 u39 u40 u41 u42 u43 u44 u45 u46 u47 u48 u49 u50 u51 u52 u53 u54 u55 u56 u57 u58 u59 u60 u61 u62 u63 u64 : Value), (∃ c ∈ s.drop st, ¬ nibOf c < 16) → But [b] w0 W' → Q .ret ⟨List.toArray (.pointer (some ⟨b, 0, none⟩) :: .string ⟨s.toArray⟩ :: c2 :: c3 :: (errV a 2) :: c5 :: .int .i64 (en : Int) :: .int .i64 (i : Int) :: .int .i64 (st : Int) :: .int .i64 R :: nb :: c11 :: c12 :: c13 :: c14 :: c15 :: c16 :: c17 :: c18 :: c19 :: c20 :: c21 :: c22 :: c23 :: c24 :: c25 :: c26 :: c27 :: c28 :: c29 :: c30 :: c31 :: c32 :: u33 :: u34 :: u35 :: u36 :: u37 :: u38 :: u39 :: u40 :: u41 :: u42 :: u43 :: u44 :: u45 :: u46 :: u47 :: u48 :: u49 :: u50 :: u51 :: u52 :: u53 :: u54 :: u55 :: u56 :: u57 :: u58 :: u59 :: u60 :: u61 :: u62 :: u63 :: u64 :: c65 :: []), []⟩ W'))
    (HX : Hid (∀ (R : Int) (nb : Value) (W' : World) (u33 u34 u35 u36 u37 u38 u39 u40 u41 u42 u43 u44 u45 u46 u47 u48 u49 u50 u51 u52 u53 u54 u55 u56 u57 u58 u59 u60 u61 u62 u63 u64 : Value), st + k = en → HexI w0 b z s i st k W' → Q (.exit 2) ⟨List.toArray (.pointer (some ⟨b, 0, none⟩) :: .string ⟨s.toArray⟩ :: c2 :: c3 :: .nilIface :: c5 :: .int .i64 (en : Int) :: .int .i64 (i : Int) :: .int .i64 (st : Int) :: .int .i64 R :: nb :: c11 :: c12 :: c13 :: c14 :: c15 :: c16 :: c17 :: c18 :: c19 :: c20 :: c21 :: c22 :: c23 :: c24 :: c25 :: c26 :: c27 :: c28 :: c29 :: c30 :: c31 :: c32 :: u33 :: u34 :: u35 :: u36 :: u37 :: u38 :: u39 :: u40 :: u41 :: u42 :: u43 :: u44 :: u45 :: u46 :: u47 :: u48 :: u49 :: u50 :: u51 :: u52 :: u53 :: u54 :: u55 :: u56 :: u57 :: u58 :: u59 :: u60 :: u61 :: u62 :: u63 :: u64 :: c65 :: []), []⟩ W')) :
    Code.wp Tryd.prog hexIn Q ⟨List.toArray (.pointer (some ⟨b, 0, none⟩) :: .string ⟨s.toArray⟩ :: c2 :: c3 :: .nilIface :: c5 :: .int .i64 (en : Int) :: .int .i64 (i : Int) :: .int .i64 (st : Int) :: .int .i64 ((st + k : Nat) : Int) :: nb :: c11 :: c12 :: c13 :: c14 :: c15 :: c16 :: c17 :: c18 :: c19 :: c20 :: c21 :: c22 :: c23 :: c24 :: c25 :: c26 :: c27 :: c28 :: c29 :: c30 :: c31 :: c32 :: v33 :: v34 :: v35 :: v36 :: v37 :: v38 :: v39 :: v40 :: v41 :: v42 :: v43 :: v44 :: v45 :: v46 :: v47 :: v48 :: v49 :: v50 :: v51 :: v52 :: v53 :: v54 :: v55 :: v56 :: v57 :: v58 :: v59 :: v60 :: v61 :: v62 :: v63 :: v64 :: c65 :: []), []⟩ W := by
  rcases Nat.eq_or_lt_of_le hk with h0 | h0
  · have hri : ¬ (((st + k : Nat) : Int) < (en : Int)) := by omega
    have HH := Lib.hid H
    clear H hk
    conv => arg 2; whnf
    go_wp2
    exact HX.out _ _ _ _ _ _ _ _ _ _ _ _ _ _ _ _ _ _ _ _ _ _ _ _ _ _ _ _ _ _ _ _ _ _ _ h0 HH.out
  · obtain ⟨c, hc⟩ : ∃ c, s[st + k]? = some c := ⟨_, List.getElem?_eq_getElem (by omega)⟩
    have hgd : ∀ h, (⟨s.toArray⟩ : ByteArray)[st + k]'h = c := by
      intro h
      show (s.toArray[st + k]'h) = c
      rw [List.getElem_toArray]
      exact (List.getElem?_eq_some_iff.1 hc).2
    have hlt : st + k < s.length := by omega
    obtain ⟨r, hr⟩ : ∃ r, r = st + k := ⟨_, rfl⟩
    rw [← hr] at hgd hlt ⊢
    have HR := Lib.hid hr
    have hri : (r : Int) < (en : Int) := by omega
    have hrl : (r : Int) < (s.length : Int) := by omega
    have hc256 : (c.toNat : Int) < 256 := by have := c.toNat_lt; omega
    clear hr
    have HH := Lib.hid H
    have HEE := Lib.hid hE
    have e2 := (hE.but H.but hbg).e2
    clear H hE hk
    conv => arg 2; whnf
    go_upto_region 18 with fail
    rw [bin_nib c]
    rotate_left
    · kernel_rfl
    rcases nibOf_two c with hn | hn
    · have hne : ((nibOf c : Int) == 255) = false := by simp; omega
      have hwr := nib_u64 (nibOf c) hn
      have HSEG := Lib.hid (seg_snoc s st k c hc)
      obtain ⟨h, hh⟩ : ∃ h, h = hv (seg s st k) := ⟨_, rfl⟩
      have HHE := Lib.hid hh
      have HNI := Lib.hid (HH.out.nibs.snoc hn)
      have A4 := HH.out.at4
      rw [← hh] at A4
      have hsh : IntKind.u64.wrap (U (BitVec.ofNat 64 h) * 16) = U (BitVec.ofNat 64 h <<< (4 : Nat)) := by
        unfold U
        rw [BitVec.toNat_shiftLeft, Nat.shiftLeft_eq, IntKind.wrap_u64]
        omega
      obtain ⟨X, hX⟩ : ∃ X, X = BitVec.ofNat 64 h := ⟨_, rfl⟩
      obtain ⟨Y, hY⟩ : ∃ Y, Y = X <<< (4 : Nat) := ⟨_, rfl⟩
      obtain ⟨T, hT⟩ : ∃ T, T = BitVec.ofNat 64 (nibOf c) := ⟨_, rfl⟩
      have hXYT : Hid (Y + T = BitVec.ofNat 64 (hv (seg s st (k + 1)))) := by
        show _ = _
        rw [HSEG.out, hv_snoc, ← HHE.out, hex_word, hY, hT, hX]
      rw [← hX] at A4 hsh
      rw [← hY] at hsh
      rw [← hT] at hwr
      clear hX hY hT
      have HA4 := Lib.hid A4
      have HHB := Lib.hid HH.out.but
      have HHF := Lib.hid HH.out.free
      clear hh hc hgd
      generalize nibOf c = nn at *
      have hcell := wset_cell A4 hi
      have hfroz := free_cell HH.out.free hi
      clear A4
      go_upto_region 20 with fail
      refine hex_shl b i s st en r _ X Y W _ _ _ _ _ _ _ _ _ _ _ _ _ _ _ _ _ _ _ _ _ _ _ _ _ _ _ _ _ _ _ _ _ _ _ _ _ _ _ _ _ _ _ _ _ _ _ _ _ _ _ _ _ _ _ _ _ _ _ hi hcell hfroz hsh ?_
      show ∀ _, _
      intro u33 u34 u35 u36 u37 u38 u39 u40 u41 u42 u43 u44 u45 u46 u47 u48 u49 u50 u51 u52 u53 u54 u55 u56 u57 u58 u59 u60 u61 u62 u63 u64
      have A1 := (at4_wset HA4.out i hi Y)
      rw [wset_wset] at A1
      have HA1 := Lib.hid (show At4 (W.setCell ⟨b, i, none⟩ (V Y)).drew b 0 _ from A1.drewN 1)
      have HF1 := Lib.hid (show Free4 (W.setCell ⟨b, i, none⟩ (V Y)).drew b 0 from (free4_wset HHF.out b i (V Y)).drewN 1)
      have B1 := Lib.hid (HHB.out.set (b := b) (by simp) i (V Y)).drew
      generalize (W.setCell ⟨b, i, none⟩ (V Y)).drew = W1 at *
      clear A1 hcell hfroz HA4 HHF HHB hsh
      have hcell := wset_cell HA1.out hi
      have hfroz := free_cell HF1.out hi
      go_upto_region 21 with fail
      refine hex_add b i s st en r nn Y T W1 _ _ _ _ _ _ _ _ _ _ _ _ _ _ _ _ _ _ _ _ _ _ _ _ _ _ _ _ _ _ _ _ _ _ _ _ _ _ _ _ _ _ _ _ _ _ _ _ _ _ _ _ _ _ _ _ _ _ _ hi hcell hfroz hwr hn ?_
      show ∀ _, _
      intro t33 t34 t35 t36 t37 t38 t39 t40 t41 t42 t43 t44 t45 t46 t47 t48 t49 t50 t51 t52 t53 t54 t55 t56 t57 t58 t59 t60 t61 t62 t63 t64
      have A2 := (at4_wset HA1.out i hi (Y + T))
      rw [wset_wset, hXYT.out] at A2
      have HF2 := Lib.hid (show Free4 (W1.setCell ⟨b, i, none⟩ (V (Y + T))).drew b 0 from (free4_wset HF1.out b i (V (Y + T))).drewN 1)
      have B2 := Lib.hid (B1.out.set (b := b) (by simp) i (V (Y + T))).drew
      rw [hXYT.out] at HF2 B2 ⊢
      have HA2 := Lib.hid (show At4 (W1.setCell ⟨b, i, none⟩ (V (BitVec.ofNat 64 (hv (seg s st (k + 1)))))).drew b 0 _ from A2.drewN 1)
      generalize (W1.setCell ⟨b, i, none⟩ (V (BitVec.ofNat 64 (hv (seg s st (k + 1)))))).drew = W2 at *
      clear A2 hcell hfroz HA1 HF1 B1 hwr
      go_wp2
      exact HN.out _ _ _ _ _ _ _ _ _ _ _ _ _ _ _ _ _ _ _ _ _ _ _ _ _ _ _ _ _ _ _ _ _ _ _ h0 (by have := HR.out; omega) ⟨HA2.out, HF2.out, B2.out, by rw [HSEG.out]; exact HNI.out⟩
    · have hne : ((nibOf c : Int) == 255) = true := by simp; omega
      have hmem : Hid (∃ c ∈ s.drop st, ¬ nibOf c < 16) := by
        refine ⟨c, ?_, by omega⟩
        rw [← List.getElem?_drop] at hc
        exact List.mem_of_getElem? hc
      clear hgd hc
      go_wp2
      exact HB.out _ _ _ _ _ _ _ _ _ _ _ _ _ _ _ _ _ _ _ _ _ _ _ _ _ _ _ _ _ _ _ _ _ _ _ hmem.out HH.out.but
/-- The inner loop. -/
def HexInI (w0 : World) (b : Nat) (z : N4) (s : List UInt8) (i st en : Nat) (c2 c3 c5 c11 c12 c13 c14 c15 c16 c17 c18 c19 c20 c21 c22 c23 c24 c25 c26 c27 c28 c29 c30 c31 c32 c65 : Value) (a : Act) (W : World) : Prop :=
  ∃ (u33 u34 u35 u36 u37 u38 u39 u40 u41 u42 u43 u44 u45 u46 u47 u48 u49 u50 u51 u52 u53 u54 u55 u56 u57 u58 u59 u60 u61 u62 u63 u64 : Value), ∃ (k : Nat) (R : Int) (nb : Value), R = ((st + k : Nat) : Int) ∧ st + k ≤ en ∧ HexI w0 b z s i st k W ∧ a = ⟨List.toArray (.pointer (some ⟨b, 0, none⟩) :: .string ⟨s.toArray⟩ :: c2 :: c3 :: .nilIface :: c5 :: .int .i64 (en : Int) :: .int .i64 (i : Int) :: .int .i64 (st : Int) :: .int .i64 R :: nb :: c11 :: c12 :: c13 :: c14 :: c15 :: c16 :: c17 :: c18 :: c19 :: c20 :: c21 :: c22 :: c23 :: c24 :: c25 :: c26 :: c27 :: c28 :: c29 :: c30 :: c31 :: c32 :: u33 :: u34 :: u35 :: u36 :: u37 :: u38 :: u39 :: u40 :: u41 :: u42 :: u43 :: u44 :: u45 :: u46 :: u47 :: u48 :: u49 :: u50 :: u51 :: u52 :: u53 :: u54 :: u55 :: u56 :: u57 :: u58 :: u59 :: u60 :: u61 :: u62 :: u63 :: u64 :: c65 :: []), []⟩
def muHexIn (a : Act) (_ : World) : Nat := (66 - RowKit.intOf (a.tmps[9]?.getD undef)).toNat
set_option maxHeartbeats 8000000 in
set_option maxRecDepth 20000 in
theorem hex_in (w0 : World) (a : Nat → Addr) (b : Nat) (z : N4) (s : List UInt8) (i st en k : Nat) (R : Int) (nb : Value) (W : World) (Q : Exit → Act → World → Prop) (c2 c3 c5 c11 c12 c13 c14 c15 c16 c17 c18 c19 c20 c21 c22 c23 c24 c25 c26 c27 c28 c29 c30 c31 c32 c65 v33 v34 v35 v36 v37 v38 v39 v40 v41 v42 v43 v44 v45 v46 v47 v48 v49 v50 v51 v52 v53 v54 v55 v56 v57 v58 v59 v60 v61 v62 v63 v64 : Value)
    (H : HexI w0 b z s i st k W) (hR : R = ((st + k : Nat) : Int)) (hE : HexE a w0) (hbg : 5 < b) (hi : i < 4) (hk : st + k ≤ en) (hen : en ≤ s.length) (hs : s.length ≤ 66)
    (HB : Hid (∀ (R : Int) (nb : Value) (W' : World) (u33 u34 u35 u36 u37 u38 u39 u40 u41 u42 u43 u44 u45 u46 u47 u48 u49 u50 u51 u52 u53 u54 u55 u56 u57 u58 u59 u60 u61 u62 u63 u64 : Value), (∃ c ∈ s.drop st, ¬ nibOf c < 16) → But [b] w0 W' → Q .ret ⟨List.toArray (.pointer (some ⟨b, 0, none⟩) :: .string ⟨s.toArray⟩ :: c2 :: c3 :: (errV a 2) :: c5 :: .int .i64 (en : Int) :: .int .i64 (i : Int) :: .int .i64 (st : Int) :: .int .i64 R :: nb :: c11 :: c12 :: c13 :: c14 :: c15 :: c16 :: c17 :: c18 :: c19 :: c20 :: c21 :: c22 :: c23 :: c24 :: c25 :: c26 :: c27 :: c28 :: c29 :: c30 :: c31 :: c32 :: u33 :: u34 :: u35 :: u36 :: u37 :: u38 :: u39 :: u40 :: u41 :: u42 :: u43 :: u44 :: u45 :: u46 :: u47 :: u48 :: u49 :: u50 :: u51 :: u52 :: u53 :: u54 :: u55 :: u56 :: u57 :: u58 :: u59 :: u60 :: u61 :: u62 :: u63 :: u64 :: c65 :: []), []⟩ W'))
    (HX : Hid (∀ (R : Int) (nb : Value) (W' : World) (u33 u34 u35 u36 u37 u38 u39 u40 u41 u42 u43 u44 u45 u46 u47 u48 u49 u50 u51 u52 u53 u54 u55 u56 u57 u58 u59 u60 u61 u62 u63 u64 : Value), HexI w0 b z s i st (en - st) W' → Q (.exit 2) ⟨List.toArray (.pointer (some ⟨b, 0, none⟩) :: .string ⟨s.toArray⟩ :: c2 :: c3 :: .nilIface :: c5 :: .int .i64 (en : Int) :: .int .i64 (i : Int) :: .int .i64 (st : Int) :: .int .i64 R :: nb :: c11 :: c12 :: c13 :: c14 :: c15 :: c16 :: c17 :: c18 :: c19 :: c20 :: c21 :: c22 :: c23 :: c24 :: c25 :: c26 :: c27 :: c28 :: c29 :: c30 :: c31 :: c32 :: u33 :: u34 :: u35 :: u36 :: u37 :: u38 :: u39 :: u40 :: u41 :: u42 :: u43 :: u44 :: u45 :: u46 :: u47 :: u48 :: u49 :: u50 :: u51 :: u52 :: u53 :: u54 :: u55 :: u56 :: u57 :: u58 :: u59 :: u60 :: u61 :: u62 :: u63 :: u64 :: c65 :: []), []⟩ W')) :
    Code.wp Tryd.prog (.loop hexIn) Q ⟨List.toArray (.pointer (some ⟨b, 0, none⟩) :: .string ⟨s.toArray⟩ :: c2 :: c3 :: .nilIface :: c5 :: .int .i64 (en : Int) :: .int .i64 (i : Int) :: .int .i64 (st : Int) :: .int .i64 R :: nb :: c11 :: c12 :: c13 :: c14 :: c15 :: c16 :: c17 :: c18 :: c19 :: c20 :: c21 :: c22 :: c23 :: c24 :: c25 :: c26 :: c27 :: c28 :: c29 :: c30 :: c31 :: c32 :: v33 :: v34 :: v35 :: v36 :: v37 :: v38 :: v39 :: v40 :: v41 :: v42 :: v43 :: v44 :: v45 :: v46 :: v47 :: v48 :: v49 :: v50 :: v51 :: v52 :: v53 :: v54 :: v55 :: v56 :: v57 :: v58 :: v59 :: v60 :: v61 :: v62 :: v63 :: v64 :: c65 :: []), []⟩ W := by
  refine wp_loop (HexInI w0 b z s i st en c2 c3 c5 c11 c12 c13 c14 c15 c16 c17 c18 c19 c20 c21 c22 c23 c24 c25 c26 c27 c28 c29 c30 c31 c32 c65) muHexIn ?_ ?_
  · exact ⟨v33, v34, v35, v36, v37, v38, v39, v40, v41, v42, v43, v44, v45, v46, v47, v48, v49, v50, v51, v52, v53, v54, v55, v56, v57, v58, v59, v60, v61, v62, v63, v64, k, R, nb, hR, hk, H, rfl⟩
  · intro A W1 hI
    obtain ⟨u33, hI⟩ := hI
    obtain ⟨u34, hI⟩ := hI
    obtain ⟨u35, hI⟩ := hI
    obtain ⟨u36, hI⟩ := hI
    obtain ⟨u37, hI⟩ := hI
    obtain ⟨u38, hI⟩ := hI
    obtain ⟨u39, hI⟩ := hI
    obtain ⟨u40, hI⟩ := hI
    obtain ⟨u41, hI⟩ := hI
    obtain ⟨u42, hI⟩ := hI
    obtain ⟨u43, hI⟩ := hI
    obtain ⟨u44, hI⟩ := hI
    obtain ⟨u45, hI⟩ := hI
    obtain ⟨u46, hI⟩ := hI
    obtain ⟨u47, hI⟩ := hI
    obtain ⟨u48, hI⟩ := hI
    obtain ⟨u49, hI⟩ := hI
    obtain ⟨u50, hI⟩ := hI
    obtain ⟨u51, hI⟩ := hI
    obtain ⟨u52, hI⟩ := hI
    obtain ⟨u53, hI⟩ := hI
    obtain ⟨u54, hI⟩ := hI
    obtain ⟨u55, hI⟩ := hI
    obtain ⟨u56, hI⟩ := hI
    obtain ⟨u57, hI⟩ := hI
    obtain ⟨u58, hI⟩ := hI
    obtain ⟨u59, hI⟩ := hI
    obtain ⟨u60, hI⟩ := hI
    obtain ⟨u61, hI⟩ := hI
    obtain ⟨u62, hI⟩ := hI
    obtain ⟨u63, hI⟩ := hI
    obtain ⟨u64, hI⟩ := hI
    obtain ⟨k, R, nb, rfl, hk, H, rfl⟩ := hI
    refine hexin_round w0 a b z s i st en k nb W1 _ c2 c3 c5 c11 c12 c13 c14 c15 c16 c17 c18 c19 c20 c21 c22 c23 c24 c25 c26 c27 c28 c29 c30 c31 c32 c65 _ _ _ _ _ _ _ _ _ _ _ _ _ _ _ _ _ _ _ _ _ _ _ _ _ _ _ _ _ _ _ _ H hE hbg hi hk hen hs ?_ ?_ ?_
    · show ∀ _, _
      intro R2 nb2 W2 u33 u34 u35 u36 u37 u38 u39 u40 u41 u42 u43 u44 u45 u46 u47 u48 u49 u50 u51 u52 u53 u54 u55 u56 u57 u58 u59 u60 u61 u62 u63 u64 hlt hR2 HW
      refine ⟨⟨u33, u34, u35, u36, u37, u38, u39, u40, u41, u42, u43, u44, u45, u46, u47, u48, u49, u50, u51, u52, u53, u54, u55, u56, u57, u58, u59, u60, u61, u62, u63, u64, k + 1, R2, nb2, by rw [hR2]; rfl, ?_, HW, rfl⟩, ?_⟩
      · omega
      · show (66 - RowKit.intOf (.int .i64 R2)).toNat < (66 - RowKit.intOf (.int .i64 ((st + k : Nat) : Int))).toNat
        simp only [RowKit.intOf]
        omega
    · exact HB
    · show ∀ _, _
      intro R2 nb2 W2 u33 u34 u35 u36 u37 u38 u39 u40 u41 u42 u43 u44 u45 u46 u47 u48 u49 u50 u51 u52 u53 u54 u55 u56 u57 u58 u59 u60 u61 u62 u63 u64 hk2 HW
      rw [show k = en - st by omega] at HW
      exact HX.out R2 nb2 W2 u33 u34 u35 u36 u37 u38 u39 u40 u41 u42 u43 u44 u45 u46 u47 u48 u49 u50 u51 u52 u53 u54 u55 u56 u57 u58 u59 u60 u61 u62 u63 u64 HW
theorem wset_add (z : N4) (i : Nat) (hi : i < 4) (v : W64) (h : z.toNat < 2 ^ (64 * i)) : (wset z i v).toNat = z.toNat + v.toNat * 2 ^ (64 * i) := by
  have ha := z.a.isLt
  have hb := z.b.isLt
  have hc := z.c.isLt
  have hd := z.d.isLt
  rcases (by omega : i = 0 ∨ i = 1 ∨ i = 2 ∨ i = 3) with rfl | rfl | rfl | rfl
  · have e : (2 : Nat) ^ (64 * 0) = 1 := by decide
    rw [e] at h ⊢
    unfold N4.toNat at *
    simp only [wset]
    omega
  · have e : (2 : Nat) ^ (64 * 1) = 18446744073709551616 := by decide
    rw [e] at h ⊢
    unfold N4.toNat at *
    simp only [wset]
    omega
  · have e : (2 : Nat) ^ (64 * 2) = 340282366920938463463374607431768211456 := by decide
    rw [e] at h ⊢
    unfold N4.toNat at *
    simp only [wset]
    omega
  · have e : (2 : Nat) ^ (64 * 3) = 6277101735386680763835789423207666416102355444464034512896 := by decide
    rw [e] at h ⊢
    unfold N4.toNat at *
    simp only [wset]
    omega
theorem wset_zero (z : N4) (i : Nat) (hi : i < 4) (h : z.toNat < 2 ^ (64 * i)) : wset z i 0#64 = z := by
  apply toNat_inj
  rw [wset_add z i hi _ h]
  simp
/-- What holds at the outer loop's head: i words are read. -/
structure HexO (w0 : World) (b : Nat) (s : List UInt8) (i en : Nat) (W : World) : Prop where
  ile : i ≤ 4
  enl : en ≤ s.length
  en2 : 2 ≤ en
  enq : en = max 2 (s.length - 16 * i)
  at4 : At4 W b 0 (ofN (hv (s.drop en)))
  free : Free4 W b 0
  but : But [b] w0 W
  nibs : Nibs (s.drop en)
theorem hex_bound {s : List UInt8} {i en : Nat} (hl : s.length ≤ 66) (h : Nibs (s.drop en)) (hi : i ≤ 4) (he : s.length - en ≤ 16 * i) : hv (s.drop en) < 2 ^ (64 * i) := by
  have h1 := hv_lt _ h
  rw [List.length_drop] at h1
  have h2 : 16 ^ (s.length - en) ≤ 16 ^ (16 * i) := Nat.pow_le_pow_right (by omega) he
  have h3 : (16 : Nat) ^ (16 * i) = 2 ^ (64 * i) := by rw [show (16 : Nat) = 2 ^ 4 by rfl, ← Nat.pow_mul]; congr 1; omega
  omega
theorem drop_seg (s : List UInt8) (st en : Nat) (h : st ≤ en) (hl : en ≤ s.length) : s.drop st = seg s st (en - st) ++ s.drop en := by
  unfold seg
  conv => lhs; rw [← List.take_append_drop (en - st) (s.drop st)]
  rw [List.drop_drop]
  congr 2
  omega
theorem seg_len (s : List UInt8) (st en : Nat) (h : st ≤ en) (hl : en ≤ s.length) : (seg s st (en - st)).length = en - st := by unfold seg; simp; omega
theorem hex_next {s : List UInt8} {i st en : Nat} (hs : 2 ≤ s.length) (hl : s.length ≤ 66) (hi : i < 4) (enq : en = max 2 (s.length - 16 * i)) (stq : st = max 2 (en - 16)) (h1 : Nibs (s.drop en)) (h2 : Nibs (seg s st (en - st))) :
    wset (ofN (hv (s.drop en))) i (BitVec.ofNat 64 (hv (seg s st (en - st)))) = ofN (hv (s.drop st)) ∧ Nibs (s.drop st) := by
  have hse : st ≤ en := by omega
  have hel : en ≤ s.length := by omega
  have hb := hex_bound hl h1 (by omega : i ≤ 4) (by omega)
  have hd := drop_seg s st en hse hel
  have hsl := seg_len s st en hse hel
  have hN : Nibs (s.drop st) := by rw [hd]; exact h2.append h1
  have hb2 := hex_bound (i := i + 1) hl hN (by omega) (by omega)
  have h256 : ∀ n, n < 2 ^ (64 * (i + 1)) → n < 2 ^ 256 := fun n h => Nat.lt_of_lt_of_le h (Nat.pow_le_pow_right (by omega) (by omega))
  have hz : (ofN (hv (s.drop en))).toNat = hv (s.drop en) := by
    rw [ofN_toNat, Nat.mod_eq_of_lt]
    exact Nat.lt_of_lt_of_le hb (Nat.pow_le_pow_right (by omega) (by omega))
  refine ⟨?_, hN⟩
  apply toNat_inj
  rw [wset_add _ i hi _ (by rw [hz]; exact hb), hz, ofN_toNat, Nat.mod_eq_of_lt (h256 _ hb2), BitVec.toNat_ofNat]
  have hv16 : hv (seg s st (en - st)) < 2 ^ 64 := by
    have := hv_lt _ h2
    rw [hsl] at this
    have h3 : (16 : Nat) ^ (en - st) ≤ 16 ^ 16 := Nat.pow_le_pow_right (by omega) (by omega)
    have h4 : (16 : Nat) ^ 16 = 2 ^ 64 := by decide
    omega
  rw [Nat.mod_eq_of_lt hv16, hd, hv_append, List.length_drop]
  rcases Nat.eq_or_lt_of_le hse with e | e
  · rw [show en - st = 0 by omega]
    simp [seg, hv]
  · rw [show s.length - en = 16 * i by omega]
    have h3 : (16 : Nat) ^ (16 * i) = 2 ^ (64 * i) := by rw [show (16 : Nat) = 2 ^ 4 by rfl, ← Nat.pow_mul]; congr 1; omega
    rw [h3, Nat.add_comm]
set_option maxHeartbeats 8000000 in
set_option maxRecDepth 20000 in
theorem hexout_round (w0 : World) (a : Nat → Addr) (b : Nat) (s : List UInt8) (i en : Nat) (W : World) (Q : Exit → Act → World → Prop) (c2 c3 c5 c11 c12 c13 c14 c15 c16 c17 c18 c19 c20 c21 c22 c23 v8 v9 v10 v24 v25 v26 v27 v28 v29 v30 v31 v32 v33 v34 v35 v36 v37 v38 v39 v40 v41 v42 v43 v44 v45 v46 v47 v48 v49 v50 v51 v52 v53 v54 v55 v56 v57 v58 v59 v60 v61 v62 v63 v64 v65 : Value)
    (H : HexO w0 b s i en W) (hE : HexE a w0) (hbg : 5 < b) (hs2 : 2 ≤ s.length) (hs : s.length ≤ 66)
    (HN : Hid (∀ (E I : Int) (en : Nat) (W' : World) (u8 u9 u10 u24 u25 u26 u27 u28 u29 u30 u31 u32 u33 u34 u35 u36 u37 u38 u39 u40 u41 u42 u43 u44 u45 u46 u47 u48 u49 u50 u51 u52 u53 u54 u55 u56 u57 u58 u59 u60 u61 u62 u63 u64 u65 : Value), i < 4 → E = (en : Int) → I = ((i + 1 : Nat) : Int) → HexO w0 b s (i + 1) en W' → Q .normal ⟨List.toArray (.pointer (some ⟨b, 0, none⟩) :: .string ⟨s.toArray⟩ :: c2 :: c3 :: .nilIface :: c5 :: .int .i64 E :: .int .i64 I :: u8 :: u9 :: u10 :: c11 :: c12 :: c13 :: c14 :: c15 :: c16 :: c17 :: c18 :: c19 :: c20 :: c21 :: c22 :: c23 :: u24 :: u25 :: u26 :: u27 :: u28 :: u29 :: u30 :: u31 :: u32 :: u33 :: u34 :: u35 :: u36 :: u37 :: u38 :: u39 :: u40 :: u41 :: u42 :: u43 :: u44 :: u45 :: u46 :: u47 :: u48 :: u49 :: u50 :: u51 :: u52 :: u53 :: u54 :: u55 :: u56 :: u57 :: u58 :: u59 :: u60 :: u61 :: u62 :: u63 :: u64 :: u65 :: []), []⟩ W'))
    (HB : Hid (∀ (E I : Int) (W' : World) (u8 u9 u10 u24 u25 u26 u27 u28 u29 u30 u31 u32 u33 u34 u35 u36 u37 u38 u39 u40 u41 u42 u43 u44 u45 u46 u47 u48 u49 u50 u51 u52 u53 u54 u55 u56 u57 u58 u59 u60 u61 u62 u63 u64 u65 : Value), ¬ Nibs (s.drop 2) → But [b] w0 W' → Q .ret ⟨List.toArray (.pointer (some ⟨b, 0, none⟩) :: .string ⟨s.toArray⟩ :: c2 :: c3 :: (errV a 2) :: c5 :: .int .i64 E :: .int .i64 I :: u8 :: u9 :: u10 :: c11 :: c12 :: c13 :: c14 :: c15 :: c16 :: c17 :: c18 :: c19 :: c20 :: c21 :: c22 :: c23 :: u24 :: u25 :: u26 :: u27 :: u28 :: u29 :: u30 :: u31 :: u32 :: u33 :: u34 :: u35 :: u36 :: u37 :: u38 :: u39 :: u40 :: u41 :: u42 :: u43 :: u44 :: u45 :: u46 :: u47 :: u48 :: u49 :: u50 :: u51 :: u52 :: u53 :: u54 :: u55 :: u56 :: u57 :: u58 :: u59 :: u60 :: u61 :: u62 :: u63 :: u64 :: u65 :: []), []⟩ W'))
    (HX : Hid (∀ (E I : Int) (W' : World) (u8 u9 u10 u24 u25 u26 u27 u28 u29 u30 u31 u32 u33 u34 u35 u36 u37 u38 u39 u40 u41 u42 u43 u44 u45 u46 u47 u48 u49 u50 u51 u52 u53 u54 u55 u56 u57 u58 u59 u60 u61 u62 u63 u64 u65 : Value), HexO w0 b s 4 2 W' → Q (.exit 0) ⟨List.toArray (.pointer (some ⟨b, 0, none⟩) :: .string ⟨s.toArray⟩ :: c2 :: c3 :: .nilIface :: c5 :: .int .i64 E :: .int .i64 I :: u8 :: u9 :: u10 :: c11 :: c12 :: c13 :: c14 :: c15 :: c16 :: c17 :: c18 :: c19 :: c20 :: c21 :: c22 :: c23 :: u24 :: u25 :: u26 :: u27 :: u28 :: u29 :: u30 :: u31 :: u32 :: u33 :: u34 :: u35 :: u36 :: u37 :: u38 :: u39 :: u40 :: u41 :: u42 :: u43 :: u44 :: u45 :: u46 :: u47 :: u48 :: u49 :: u50 :: u51 :: u52 :: u53 :: u54 :: u55 :: u56 :: u57 :: u58 :: u59 :: u60 :: u61 :: u62 :: u63 :: u64 :: u65 :: []), []⟩ W')) :
    Code.wp Tryd.prog hexBody Q ⟨List.toArray (.pointer (some ⟨b, 0, none⟩) :: .string ⟨s.toArray⟩ :: c2 :: c3 :: .nilIface :: c5 :: .int .i64 (en : Int) :: .int .i64 (i : Int) :: v8 :: v9 :: v10 :: c11 :: c12 :: c13 :: c14 :: c15 :: c16 :: c17 :: c18 :: c19 :: c20 :: c21 :: c22 :: c23 :: v24 :: v25 :: v26 :: v27 :: v28 :: v29 :: v30 :: v31 :: v32 :: v33 :: v34 :: v35 :: v36 :: v37 :: v38 :: v39 :: v40 :: v41 :: v42 :: v43 :: v44 :: v45 :: v46 :: v47 :: v48 :: v49 :: v50 :: v51 :: v52 :: v53 :: v54 :: v55 :: v56 :: v57 :: v58 :: v59 :: v60 :: v61 :: v62 :: v63 :: v64 :: v65 :: []), []⟩ W := by
  rcases Nat.eq_or_lt_of_le H.ile with h0 | h0
  · subst h0
    have he : en = 2 := by have := H.enq; omega
    subst he
    have HH := Lib.hid H
    clear H
    conv => arg 2; whnf
    go_wp2
    exact HX.out _ _ _ _ _ _ _ _ _ _ _ _ _ _ _ _ _ _ _ _ _ _ _ _ _ _ _ _ _ _ _ _ _ _ _ _ _ _ _ _ _ _ _ _ _ _ _ _ HH.out
  · obtain ⟨st, hst⟩ : ∃ st, st = max 2 (en - 16) := ⟨_, rfl⟩
    have hle : Hid (st ≤ en) := by have := H.en2; show _ ≤ _; omega
    have hst2 : Hid (2 ≤ st) := by show _ ≤ _; omega
    have hle2 := hle.out
    have hii : (i : Int) < 4 := by omega
    have hz : (ofN (hv (s.drop en))).toNat < 2 ^ (64 * i) := by
      have hb := hex_bound hs H.nibs (by omega : i ≤ 4) (by have := H.enq; omega)
      rw [ofN_toNat, Nat.mod_eq_of_lt (Nat.lt_of_lt_of_le hb (Nat.pow_le_pow_right (by omega) (by omega)))]
      exact hb
    have HI : Hid (HexI w0 b (ofN (hv (s.drop en))) s i st 0 W) := by
      refine ⟨?_, H.free, H.but, by simp [seg]; exact Nibs.nil⟩
      rw [show seg s st 0 = [] by simp [seg], hv_nil]
      rw [show (BitVec.ofNat 64 0) = 0#64 by rfl, wset_zero _ i h0 hz]
      exact H.at4
    have enl := H.enl
    have HH := Lib.hid H
    have HST := Lib.hid hst
    have hcase : ((en : Int) - 16 < 2 ∧ st = 2) ∨ (¬ (en : Int) - 16 < 2 ∧ (en : Int) - 16 = (st : Int)) := by
      have := H.en2
      rcases Nat.lt_or_ge en 18 with h | h
      · exact .inl ⟨by omega, by omega⟩
      · exact .inr ⟨by omega, by omega⟩
    clear H hst hz
    conv => arg 2; whnf
    rcases hcase with ⟨k1, k2⟩ | ⟨k1, k2⟩
    · subst k2
      go_wp2_with fail
      have HI2 := HI.out
      refine hex_in w0 a b _ s i 2 en 0 _ _ W _ _ _ _ _ _ _ _ _ _ _ _ _ _ _ _ _ _ _ _ _ _ _ _ _ _ _ _ _ _ _ _ _ _ _ _ _ _ _ _ _ _ _ _ _ _ _ _ _ _ _ _ _ _ _ _ _ _ _ HI2 (by omega) hE hbg h0 (by omega) enl hs ?_ ?_
      · show ∀ _, _
        intro R nb W' t33 t34 t35 t36 t37 t38 t39 t40 t41 t42 t43 t44 t45 t46 t47 t48 t49 t50 t51 t52 t53 t54 t55 t56 t57 t58 t59 t60 t61 t62 t63 t64 hbad hbut
        refine HB.out _ _ _ _ _ _ _ _ _ _ _ _ _ _ _ _ _ _ _ _ _ _ _ _ _ _ _ _ _ _ _ _ _ _ _ _ _ _ _ _ _ _ _ _ _ _ _ _ ?_ hbut
        intro hn
        obtain ⟨c, hc1, hc2⟩ := hbad
        exact hc2 (hn c (by exact hc1))
      · show ∀ _, _
        intro R nb W' t33 t34 t35 t36 t37 t38 t39 t40 t41 t42 t43 t44 t45 t46 t47 t48 t49 t50 t51 t52 t53 t54 t55 t56 t57 t58 t59 t60 t61 t62 t63 t64 HW
        have hnx := hex_next hs2 hs h0 HH.out.enq HST.out HH.out.nibs HW.nibs
        have h4 := HW.at4
        rw [hnx.1] at h4
        have HO : Hid (HexO w0 b s (i + 1) 2 W') := ⟨by omega, by have := hle.out; omega, hst2.out, by have := HST.out; have := HH.out.enq; omega, h4, HW.free, HW.but, hnx.2⟩
        clear HW h4 hnx
        go_wp2
        exact HN.out _ _ _ _ _ _ _ _ _ _ _ _ _ _ _ _ _ _ _ _ _ _ _ _ _ _ _ _ _ _ _ _ _ _ _ _ _ _ _ _ _ _ _ _ _ _ _ _ _ h0 rfl (by omega) HO.out
    · go_wp2_with fail
      have HI2 := HI.out
      refine hex_in w0 a b _ s i st en 0 _ _ W _ _ _ _ _ _ _ _ _ _ _ _ _ _ _ _ _ _ _ _ _ _ _ _ _ _ _ _ _ _ _ _ _ _ _ _ _ _ _ _ _ _ _ _ _ _ _ _ _ _ _ _ _ _ _ _ _ _ _ HI2 (by omega) hE hbg h0 (by omega) enl hs ?_ ?_
      · show ∀ _, _
        intro R nb W' t33 t34 t35 t36 t37 t38 t39 t40 t41 t42 t43 t44 t45 t46 t47 t48 t49 t50 t51 t52 t53 t54 t55 t56 t57 t58 t59 t60 t61 t62 t63 t64 hbad hbut
        refine HB.out _ _ _ _ _ _ _ _ _ _ _ _ _ _ _ _ _ _ _ _ _ _ _ _ _ _ _ _ _ _ _ _ _ _ _ _ _ _ _ _ _ _ _ _ _ _ _ _ ?_ hbut
        intro hn
        obtain ⟨c, hc1, hc2⟩ := hbad
        exact hc2 (hn c (by rw [show st = 2 + (st - 2) by have := hst2.out; omega, ← List.drop_drop] at hc1; exact List.mem_of_mem_drop hc1))
      · show ∀ _, _
        intro R nb W' t33 t34 t35 t36 t37 t38 t39 t40 t41 t42 t43 t44 t45 t46 t47 t48 t49 t50 t51 t52 t53 t54 t55 t56 t57 t58 t59 t60 t61 t62 t63 t64 HW
        have hnx := hex_next hs2 hs h0 HH.out.enq HST.out HH.out.nibs HW.nibs
        have h4 := HW.at4
        rw [hnx.1] at h4
        have HO : Hid (HexO w0 b s (i + 1) st W') := ⟨by omega, by have := hle.out; omega, hst2.out, by have := HST.out; have := HH.out.enq; omega, h4, HW.free, HW.but, hnx.2⟩
        clear HW h4 hnx
        go_wp2
        exact HN.out _ _ _ _ _ _ _ _ _ _ _ _ _ _ _ _ _ _ _ _ _ _ _ _ _ _ _ _ _ _ _ _ _ _ _ _ _ _ _ _ _ _ _ _ _ _ _ _ _ h0 rfl (by omega) HO.out
/-- The outer loop. -/
def HexOI (w0 : World) (b : Nat) (s : List UInt8) (c2 c3 c5 c11 c12 c13 c14 c15 c16 c17 c18 c19 c20 c21 c22 c23 : Value) (a : Act) (W : World) : Prop :=
  ∃ (u8 u9 u10 u24 u25 u26 u27 u28 u29 u30 u31 u32 u33 u34 u35 u36 u37 u38 u39 u40 u41 u42 u43 u44 u45 u46 u47 u48 u49 u50 u51 u52 u53 u54 u55 u56 u57 u58 u59 u60 u61 u62 u63 u64 u65 : Value), ∃ (i en : Nat) (E I : Int), E = (en : Int) ∧ I = (i : Int) ∧ HexO w0 b s i en W ∧ a = ⟨List.toArray (.pointer (some ⟨b, 0, none⟩) :: .string ⟨s.toArray⟩ :: c2 :: c3 :: .nilIface :: c5 :: .int .i64 E :: .int .i64 I :: u8 :: u9 :: u10 :: c11 :: c12 :: c13 :: c14 :: c15 :: c16 :: c17 :: c18 :: c19 :: c20 :: c21 :: c22 :: c23 :: u24 :: u25 :: u26 :: u27 :: u28 :: u29 :: u30 :: u31 :: u32 :: u33 :: u34 :: u35 :: u36 :: u37 :: u38 :: u39 :: u40 :: u41 :: u42 :: u43 :: u44 :: u45 :: u46 :: u47 :: u48 :: u49 :: u50 :: u51 :: u52 :: u53 :: u54 :: u55 :: u56 :: u57 :: u58 :: u59 :: u60 :: u61 :: u62 :: u63 :: u64 :: u65 :: []), []⟩
def muHexOut (a : Act) (_ : World) : Nat := (4 - RowKit.intOf (a.tmps[7]?.getD undef)).toNat
set_option maxHeartbeats 8000000 in
set_option maxRecDepth 20000 in
theorem hex_out (w0 : World) (a : Nat → Addr) (b : Nat) (s : List UInt8) (i en : Nat) (E I : Int) (W : World) (Q : Exit → Act → World → Prop) (c2 c3 c5 c11 c12 c13 c14 c15 c16 c17 c18 c19 c20 c21 c22 c23 v8 v9 v10 v24 v25 v26 v27 v28 v29 v30 v31 v32 v33 v34 v35 v36 v37 v38 v39 v40 v41 v42 v43 v44 v45 v46 v47 v48 v49 v50 v51 v52 v53 v54 v55 v56 v57 v58 v59 v60 v61 v62 v63 v64 v65 : Value)
    (H : HexO w0 b s i en W) (hEn : E = (en : Int)) (hIn : I = (i : Int)) (hE : HexE a w0) (hbg : 5 < b) (hs2 : 2 ≤ s.length) (hs : s.length ≤ 66)
    (HB : Hid (∀ (E I : Int) (W' : World) (u8 u9 u10 u24 u25 u26 u27 u28 u29 u30 u31 u32 u33 u34 u35 u36 u37 u38 u39 u40 u41 u42 u43 u44 u45 u46 u47 u48 u49 u50 u51 u52 u53 u54 u55 u56 u57 u58 u59 u60 u61 u62 u63 u64 u65 : Value), ¬ Nibs (s.drop 2) → But [b] w0 W' → Q .ret ⟨List.toArray (.pointer (some ⟨b, 0, none⟩) :: .string ⟨s.toArray⟩ :: c2 :: c3 :: (errV a 2) :: c5 :: .int .i64 E :: .int .i64 I :: u8 :: u9 :: u10 :: c11 :: c12 :: c13 :: c14 :: c15 :: c16 :: c17 :: c18 :: c19 :: c20 :: c21 :: c22 :: c23 :: u24 :: u25 :: u26 :: u27 :: u28 :: u29 :: u30 :: u31 :: u32 :: u33 :: u34 :: u35 :: u36 :: u37 :: u38 :: u39 :: u40 :: u41 :: u42 :: u43 :: u44 :: u45 :: u46 :: u47 :: u48 :: u49 :: u50 :: u51 :: u52 :: u53 :: u54 :: u55 :: u56 :: u57 :: u58 :: u59 :: u60 :: u61 :: u62 :: u63 :: u64 :: u65 :: []), []⟩ W'))
    (HX : Hid (∀ (E I : Int) (W' : World) (u8 u9 u10 u24 u25 u26 u27 u28 u29 u30 u31 u32 u33 u34 u35 u36 u37 u38 u39 u40 u41 u42 u43 u44 u45 u46 u47 u48 u49 u50 u51 u52 u53 u54 u55 u56 u57 u58 u59 u60 u61 u62 u63 u64 u65 : Value), HexO w0 b s 4 2 W' → Q (.exit 0) ⟨List.toArray (.pointer (some ⟨b, 0, none⟩) :: .string ⟨s.toArray⟩ :: c2 :: c3 :: .nilIface :: c5 :: .int .i64 E :: .int .i64 I :: u8 :: u9 :: u10 :: c11 :: c12 :: c13 :: c14 :: c15 :: c16 :: c17 :: c18 :: c19 :: c20 :: c21 :: c22 :: c23 :: u24 :: u25 :: u26 :: u27 :: u28 :: u29 :: u30 :: u31 :: u32 :: u33 :: u34 :: u35 :: u36 :: u37 :: u38 :: u39 :: u40 :: u41 :: u42 :: u43 :: u44 :: u45 :: u46 :: u47 :: u48 :: u49 :: u50 :: u51 :: u52 :: u53 :: u54 :: u55 :: u56 :: u57 :: u58 :: u59 :: u60 :: u61 :: u62 :: u63 :: u64 :: u65 :: []), []⟩ W')) :
    Code.wp Tryd.prog (.loop hexBody) Q ⟨List.toArray (.pointer (some ⟨b, 0, none⟩) :: .string ⟨s.toArray⟩ :: c2 :: c3 :: .nilIface :: c5 :: .int .i64 E :: .int .i64 I :: v8 :: v9 :: v10 :: c11 :: c12 :: c13 :: c14 :: c15 :: c16 :: c17 :: c18 :: c19 :: c20 :: c21 :: c22 :: c23 :: v24 :: v25 :: v26 :: v27 :: v28 :: v29 :: v30 :: v31 :: v32 :: v33 :: v34 :: v35 :: v36 :: v37 :: v38 :: v39 :: v40 :: v41 :: v42 :: v43 :: v44 :: v45 :: v46 :: v47 :: v48 :: v49 :: v50 :: v51 :: v52 :: v53 :: v54 :: v55 :: v56 :: v57 :: v58 :: v59 :: v60 :: v61 :: v62 :: v63 :: v64 :: v65 :: []), []⟩ W := by
  refine wp_loop (HexOI w0 b s c2 c3 c5 c11 c12 c13 c14 c15 c16 c17 c18 c19 c20 c21 c22 c23) muHexOut ?_ ?_
  · exact ⟨v8, v9, v10, v24, v25, v26, v27, v28, v29, v30, v31, v32, v33, v34, v35, v36, v37, v38, v39, v40, v41, v42, v43, v44, v45, v46, v47, v48, v49, v50, v51, v52, v53, v54, v55, v56, v57, v58, v59, v60, v61, v62, v63, v64, v65, i, en, E, I, hEn, hIn, H, rfl⟩
  · intro A W1 hI
    obtain ⟨u8, hI⟩ := hI
    obtain ⟨u9, hI⟩ := hI
    obtain ⟨u10, hI⟩ := hI
    obtain ⟨u24, hI⟩ := hI
    obtain ⟨u25, hI⟩ := hI
    obtain ⟨u26, hI⟩ := hI
    obtain ⟨u27, hI⟩ := hI
    obtain ⟨u28, hI⟩ := hI
    obtain ⟨u29, hI⟩ := hI
    obtain ⟨u30, hI⟩ := hI
    obtain ⟨u31, hI⟩ := hI
    obtain ⟨u32, hI⟩ := hI
    obtain ⟨u33, hI⟩ := hI
    obtain ⟨u34, hI⟩ := hI
    obtain ⟨u35, hI⟩ := hI
    obtain ⟨u36, hI⟩ := hI
    obtain ⟨u37, hI⟩ := hI
    obtain ⟨u38, hI⟩ := hI
    obtain ⟨u39, hI⟩ := hI
    obtain ⟨u40, hI⟩ := hI
    obtain ⟨u41, hI⟩ := hI
    obtain ⟨u42, hI⟩ := hI
    obtain ⟨u43, hI⟩ := hI
    obtain ⟨u44, hI⟩ := hI
    obtain ⟨u45, hI⟩ := hI
    obtain ⟨u46, hI⟩ := hI
    obtain ⟨u47, hI⟩ := hI
    obtain ⟨u48, hI⟩ := hI
    obtain ⟨u49, hI⟩ := hI
    obtain ⟨u50, hI⟩ := hI
    obtain ⟨u51, hI⟩ := hI
    obtain ⟨u52, hI⟩ := hI
    obtain ⟨u53, hI⟩ := hI
    obtain ⟨u54, hI⟩ := hI
    obtain ⟨u55, hI⟩ := hI
    obtain ⟨u56, hI⟩ := hI
    obtain ⟨u57, hI⟩ := hI
    obtain ⟨u58, hI⟩ := hI
    obtain ⟨u59, hI⟩ := hI
    obtain ⟨u60, hI⟩ := hI
    obtain ⟨u61, hI⟩ := hI
    obtain ⟨u62, hI⟩ := hI
    obtain ⟨u63, hI⟩ := hI
    obtain ⟨u64, hI⟩ := hI
    obtain ⟨u65, hI⟩ := hI
    obtain ⟨i, en, E, I, rfl, rfl, H, rfl⟩ := hI
    refine hexout_round w0 a b s i en W1 _ c2 c3 c5 c11 c12 c13 c14 c15 c16 c17 c18 c19 c20 c21 c22 c23 _ _ _ _ _ _ _ _ _ _ _ _ _ _ _ _ _ _ _ _ _ _ _ _ _ _ _ _ _ _ _ _ _ _ _ _ _ _ _ _ _ _ _ _ _ H hE hbg hs2 hs ?_ ?_ ?_
    · show ∀ _, _
      intro E2 I2 en2 W2 u8 u9 u10 u24 u25 u26 u27 u28 u29 u30 u31 u32 u33 u34 u35 u36 u37 u38 u39 u40 u41 u42 u43 u44 u45 u46 u47 u48 u49 u50 u51 u52 u53 u54 u55 u56 u57 u58 u59 u60 u61 u62 u63 u64 u65 hlt hE2 hI2 HW
      refine ⟨⟨u8, u9, u10, u24, u25, u26, u27, u28, u29, u30, u31, u32, u33, u34, u35, u36, u37, u38, u39, u40, u41, u42, u43, u44, u45, u46, u47, u48, u49, u50, u51, u52, u53, u54, u55, u56, u57, u58, u59, u60, u61, u62, u63, u64, u65, i + 1, en2, E2, I2, hE2, hI2, HW, rfl⟩, ?_⟩
      show (4 - RowKit.intOf (.int .i64 I2)).toNat < (4 - RowKit.intOf (.int .i64 (i : Int))).toNat
      simp only [RowKit.intOf]
      omega
    · exact HB
    · exact HX
set_option maxHeartbeats 8000000 in
set_option maxRecDepth 20000 in
theorem fromHex_any (a : Nat → Addr) (b : Nat) (z : N4) (s : List UInt8) (w : World) (hz : At4 w b 0 z) (fz : Free4 w b 0) (hE : HexE a w) (hbg : 5 < b) :
    Calls Tryd.prog 49 #[.pointer (some ⟨b, 0, none⟩), .string ⟨s.toArray⟩] w fun e w' => e = .returned (errV a (hexFault s)) ∧ But [b] w w' ∧ (hexFault s = 0 → At4 w' b 0 (ofN (hv (s.drop 2)))) := by
  have HZ := Lib.hid hz
  have HF := Lib.hid fz
  have HE := Lib.hid hE
  have e6 := hE.e6
  clear hz fz hE
  by_cases hk : chkFault s = 0
  · have hlen : 3 ≤ s.length ∧ isPre s = true := by
      unfold chkFault at hk
      by_cases h1 : s = []
      · rw [if_pos h1] at hk; omega
      · rw [if_neg h1] at hk
        by_cases h2 : isPre s = false
        · rw [if_pos h2] at hk; omega
        · rw [if_neg h2] at hk
          by_cases h3 : s.length = 2
          · rw [if_pos h3] at hk; omega
          · refine ⟨?_, by simpa using h2⟩
            match s, h1, h2, h3 with
            | [], h1, _, _ => exact absurd rfl h1
            | [_], _, h2, _ => exact absurd rfl h2
            | [_, _], _, _, h3 => exact absurd rfl h3
            | _ :: _ :: _ :: t, _, _, _ => simp
    have hfault : hexFault s = if 66 < s.length then 6 else if Nibs (s.drop 2) then 0 else 2 := by
      unfold hexFault
      unfold chkFault at hk
      by_cases h1 : s = []
      · rw [if_pos h1] at hk; omega
      · rw [if_neg h1] at hk ⊢
        by_cases h2 : isPre s = false
        · rw [if_pos h2] at hk; omega
        · rw [if_neg h2] at hk ⊢
          by_cases h3 : s.length = 2
          · rw [if_pos h3] at hk; omega
          · rw [if_neg h3] at hk ⊢
            by_cases h4 : 3 < s.length ∧ s[2]? = some 48
            · rw [if_pos h4] at hk; omega
            · rw [if_neg h4]
    have hs2 : 2 ≤ s.length := by omega
    by_cases h66 : 66 < s.length
    · have hgt : (66 : Int) < (s.length : Int) := by omega
      rw [hfault, if_pos h66]
      clear hlen hfault h66 hs2
      have CK : Hid (∀ w, HexE a w → Calls Tryd.prog 64 #[.string ⟨s.toArray⟩] w fun e w' => e = .returned .nilIface ∧ w' = w) := fun w h => by
        have h := checkNumberS_any a s w h
        rw [hk] at h
        exact h
      clear hk
      go_enter Tryd.func49, Tryd.ntmps49
      go_wp2_with (go_at_call 64; refine (CK.out _ HE.out).mono ?_; rintro e w1 ⟨rfl, rfl⟩)
      go_ret
      exact ⟨rfl, But.refl _ _, fun h => by cases h⟩
    · rw [hfault, if_neg h66]
      have hgt : ¬ (66 : Int) < (s.length : Int) := by omega
      have CK : Hid (∀ w, HexE a w → Calls Tryd.prog 64 #[.string ⟨s.toArray⟩] w fun e w' => e = .returned .nilIface ∧ w' = w) := fun w h => by
        have h := checkNumberS_any a s w h
        rw [hk] at h
        exact h
      obtain ⟨fv, hfv⟩ : ∃ fv, fv = if Nibs (s.drop 2) then 0 else 2 := ⟨_, rfl⟩
      rw [← hfv]
      have Hfault := Lib.hid hfv
      clear hfv
      have hs66 : Hid (s.length ≤ 66) := by show _ ≤ _; omega
      have hS2 := Lib.hid hs2
      clear hk hfault hlen h66 hs2
      go_enter Tryd.func49, Tryd.ntmps49
      go_wp2_with (first
        | (go_at_call 64; refine (CK.out _ HE.out).mono ?_; rintro e w1 ⟨rfl, hw1⟩; have hw1 := hw1.symm; subst hw1)
        | (go_at_call 65; refine (clear_any b 0 z _ HZ.out HF.out).mono ?_; rintro e w2 ⟨rfl, n2, hw2⟩; have HW2 := Lib.hid hw2; clear hw2))
      have hw2 := HW2.out
      have B2 : But [b] w w2 := by rw [hw2]; exact ((But.refl [b] w).put4 (by simp) _ _).drewN _
      have HO : Hid (HexO w b s 0 s.length w2) := by
        refine ⟨by omega, Nat.le_refl _, hS2.out, by have := hS2.out; omega, ?_, ?_, B2, by rw [List.drop_length]; exact Nibs.nil⟩
        · rw [List.drop_length, hv_nil, ofN_zero, hw2]
          exact (put4_at _ _ _ _ _ HZ.out).drewN _
        · rw [hw2]
          exact (Free4.put _ HF.out).drewN _
      clear hw2 B2 HW2
      refine hex_out w a b s 0 s.length _ _ w2 _ _ _ _ _ _ _ _ _ _ _ _ _ _ _ _ _ _ _ _ _ _ _ _ _ _ _ _ _ _ _ _ _ _ _ _ _ _ _ _ _ _ _ _ _ _ _ _ _ _ _ _ _ _ _ _ _ _ _ _ _ _ HO.out rfl rfl HE.out hbg hS2.out hs66.out ?_ ?_
      · show ∀ _, _
        intro E I W' u8 u9 u10 u24 u25 u26 u27 u28 u29 u30 u31 u32 u33 u34 u35 u36 u37 u38 u39 u40 u41 u42 u43 u44 u45 u46 u47 u48 u49 u50 u51 u52 u53 u54 u55 u56 u57 u58 u59 u60 u61 u62 u63 u64 u65 hn hbut
        have hf2 : fv = 2 := by rw [Hfault.out, if_neg hn]
        subst hf2
        have HN := Lib.hid hbut
        clear hbut hn
        go_wp2
        go_ret
        exact ⟨rfl, HN.out, fun h => by cases h⟩
      · show ∀ _, _
        intro E I W' u8 u9 u10 u24 u25 u26 u27 u28 u29 u30 u31 u32 u33 u34 u35 u36 u37 u38 u39 u40 u41 u42 u43 u44 u45 u46 u47 u48 u49 u50 u51 u52 u53 u54 u55 u56 u57 u58 u59 u60 u61 u62 u63 u64 u65 H4
        have hf2 : fv = 0 := by rw [Hfault.out, if_pos H4.nibs]
        subst hf2
        have HN := Lib.hid H4
        clear H4
        go_wp2
        go_ret
        exact ⟨rfl, HN.out.but, by first | exact HN.out.at4 | exact fun _ => HN.out.at4⟩
  · have hf : hexFault s = chkFault s := by
      unfold hexFault
      unfold chkFault at hk ⊢
      by_cases h1 : s = []
      · rw [if_pos h1, if_pos h1]
      · rw [if_neg h1] at hk ⊢
        rw [if_neg h1]
        by_cases h2 : isPre s = false
        · rw [if_pos h2, if_pos h2]
        · rw [if_neg h2] at hk ⊢
          rw [if_neg h2]
          by_cases h3 : s.length = 2
          · rw [if_pos h3, if_pos h3]
          · rw [if_neg h3] at hk ⊢
            rw [if_neg h3]
            by_cases h4 : 3 < s.length ∧ s[2]? = some 48
            · rw [if_pos h4, if_pos h4]
            · rw [if_neg h4] at hk
              omega
    rw [hf]
    have hev : errV a (chkFault s) = .iface 132 (.pointer (some (a (chkFault s)))) := by unfold errV; rw [if_neg hk]
    rw [hev]
    have CK : Hid (∀ w, HexE a w → Calls Tryd.prog 64 #[.string ⟨s.toArray⟩] w fun e w' => e = .returned (.iface 132 (.pointer (some (a (chkFault s))))) ∧ w' = w) := fun w h => by
      have h := checkNumberS_any a s w h
      rw [hev] at h
      exact h
    have HK := Lib.hid hk
    clear hf hev hk
    generalize chkFault s = k at *
    go_enter Tryd.func49, Tryd.ntmps49
    go_wp2_with (go_at_call 64; refine (CK.out _ HE.out).mono ?_; rintro e w1 ⟨rfl, rfl⟩)
    go_ret
    exact ⟨rfl, But.refl _ _, fun h => absurd h HK.out⟩
end Go.Proofs.YtbgmeppidedfbaaDoor
