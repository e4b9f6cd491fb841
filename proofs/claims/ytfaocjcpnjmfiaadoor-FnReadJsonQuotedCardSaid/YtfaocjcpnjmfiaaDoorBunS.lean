/-
  The reference's OfHex.
  The reference's OfHex of a text that bears its prefix.
  The reference's OfHex, its contract.
  The reference's OfDecimal.
  The reference's OfDecimal, its contract.
-/
import Derived.Test.YtfaocjcpnjmfiaaDoorHexSpec
import Derived.Test.YtfaocjcpnjmfiaaDoorCellR
import Derived.Test.YtfaocjcpnjmfiaaDoorDig6
import Derived.Test.YtfaocjcpnjmfiaaDoorByt
import Derived.Deep.DeepCutAuto
import Derived.Deep.CutBlock
import Derived.Test.YtfaocjcpnjmfiaaDoorBunT
import Derived.Test.YtfaocjcpnjmfiaaDoorDigBig
import Derived.BigRegion

set_option linter.unusedVariables false
set_option linter.unusedSimpArgs false
namespace Go.Proofs.YtfaocjcpnjmfiaaDoor
open Go.RowKit
/-- The loops' bodies in a code, not those within them. -/
def loopsOH : Code → List Code
  | .loop c => [c]
  | .seq a b => loopsOH a ++ loopsOH b
  | .block _ c => loopsOH c
  | .scope c => loopsOH c
  | .cond _ a b => loopsOH a ++ loopsOH b
  | _ => []
noncomputable def ohBody : Code := ((Tryd.f22.body.map loopsOH).getD []).headD .skip
theorem dgOne (w : World) (n : Nat) (hn : n < 65536) : Dg (w.alloc (.cells #[.int .i64 (n : Int)] 3)) (.slice (some ⟨w.heap.size, 0, none⟩) 1 1) n 1 := by
  refine ⟨[n], ⟨some ⟨w.heap.size, 0, none⟩, 1, rfl, Nat.le_refl _, fun i d hd => ?_⟩, (fun d hd => by simp at hd; omega), by simp [val, vlow, dig], Nat.le_refl _⟩
  match i, hd with
  | 0, hd => simp at hd; subst hd; exact ⟨_, _, rfl, by simp [go_sem]⟩
  | i + 1, hd => simp at hd
/-- What holds at the loop's head: i digits are read. -/
structure OhS (w0 : World) (d : List UInt8) (i : Nat) (l : Value) (syn : Bool) (W : World) : Prop where
  ile : i ≤ d.length
  syn : syn = !decide (Nibs (d.take i))
  dg : d.length ≤ 64 → ∃ n, Dg W l n (3 * i) ∧ (Nibs (d.take i) → n = hv (d.take i))
  bel : Below w0.heap.size w0 W
theorem take_snoc (d : List UInt8) (i : Nat) (c : UInt8) (h : d[i]? = some c) : d.take (i + 1) = d.take i ++ [c] := by rw [List.take_add_one, h]; rfl
theorem nibs_snoc (l : List UInt8) (c : UInt8) : Nibs (l ++ [c]) ↔ Nibs l ∧ nibOf c < 16 :=
  ⟨fun h => ⟨fun x hx => h x (List.mem_append_left _ hx), h c (by simp)⟩, fun h => h.1.snoc h.2⟩
set_option maxHeartbeats 4000000 in
set_option maxRecDepth 20000 in
theorem oh_round (w0 : World) (d : List UInt8) (i : Nat) (l nn : Value) (syn : Bool) (W : World) (Q : Exit → Act → World → Prop) (c0 c1 c2 c3 c5 c10 c11 c12 c13 c14 c15 c16 c17 c18 c19 c20 c21 c22 c23 c24 c25 c26 c48 c49 c50 c51 c52 c53 c54 c55 c56 c57 c58 c59 c60 c61 c62 c63 c64 c65 c66 c67 c68 c69 c70 c71 c72 c73 c74 c75 v27 v28 v29 v30 v31 v32 v33 v34 v35 v36 v37 v38 v39 v40 v41 v42 v43 v44 v45 v46 v47 : Value)
    (H : OhS w0 d i l syn W) (hmax : d.length ≤ 100000)
    (HN : Hid (∀ (l nn : Value) (I : Int) (syn : Bool) (W' : World) (u27 u28 u29 u30 u31 u32 u33 u34 u35 u36 u37 u38 u39 u40 u41 u42 u43 u44 u45 u46 u47 : Value), i < d.length → I = ((i + 1 : Nat) : Int) → OhS w0 d (i + 1) l syn W' → Q .normal ⟨List.toArray (c0 :: c1 :: c2 :: c3 :: .string ⟨d.toArray⟩ :: c5 :: l :: .bool syn :: .int .i64 I :: nn :: c10 :: c11 :: c12 :: c13 :: c14 :: c15 :: c16 :: c17 :: c18 :: c19 :: c20 :: c21 :: c22 :: c23 :: c24 :: c25 :: c26 :: u27 :: u28 :: u29 :: u30 :: u31 :: u32 :: u33 :: u34 :: u35 :: u36 :: u37 :: u38 :: u39 :: u40 :: u41 :: u42 :: u43 :: u44 :: u45 :: u46 :: u47 :: c48 :: c49 :: c50 :: c51 :: c52 :: c53 :: c54 :: c55 :: c56 :: c57 :: c58 :: c59 :: c60 :: c61 :: c62 :: c63 :: c64 :: c65 :: c66 :: c67 :: c68 :: c69 :: c70 :: c71 :: c72 :: c73 :: c74 :: c75 :: []), []⟩ W'))
    (HX : Hid (∀ (nn : Value) (I : Int) (W' : World) (u27 u28 u29 u30 u31 u32 u33 u34 u35 u36 u37 u38 u39 u40 u41 u42 u43 u44 u45 u46 u47 : Value), i = d.length → OhS w0 d i l syn W' → Q (.exit 0) ⟨List.toArray (c0 :: c1 :: c2 :: c3 :: .string ⟨d.toArray⟩ :: c5 :: l :: .bool syn :: .int .i64 I :: nn :: c10 :: c11 :: c12 :: c13 :: c14 :: c15 :: c16 :: c17 :: c18 :: c19 :: c20 :: c21 :: c22 :: c23 :: c24 :: c25 :: c26 :: u27 :: u28 :: u29 :: u30 :: u31 :: u32 :: u33 :: u34 :: u35 :: u36 :: u37 :: u38 :: u39 :: u40 :: u41 :: u42 :: u43 :: u44 :: u45 :: u46 :: u47 :: c48 :: c49 :: c50 :: c51 :: c52 :: c53 :: c54 :: c55 :: c56 :: c57 :: c58 :: c59 :: c60 :: c61 :: c62 :: c63 :: c64 :: c65 :: c66 :: c67 :: c68 :: c69 :: c70 :: c71 :: c72 :: c73 :: c74 :: c75 :: []), []⟩ W')) :
    Code.wp Tryd.prog ohBody Q ⟨List.toArray (c0 :: c1 :: c2 :: c3 :: .string ⟨d.toArray⟩ :: c5 :: l :: .bool syn :: .int .i64 (i : Int) :: nn :: c10 :: c11 :: c12 :: c13 :: c14 :: c15 :: c16 :: c17 :: c18 :: c19 :: c20 :: c21 :: c22 :: c23 :: c24 :: c25 :: c26 :: v27 :: v28 :: v29 :: v30 :: v31 :: v32 :: v33 :: v34 :: v35 :: v36 :: v37 :: v38 :: v39 :: v40 :: v41 :: v42 :: v43 :: v44 :: v45 :: v46 :: v47 :: c48 :: c49 :: c50 :: c51 :: c52 :: c53 :: c54 :: c55 :: c56 :: c57 :: c58 :: c59 :: c60 :: c61 :: c62 :: c63 :: c64 :: c65 :: c66 :: c67 :: c68 :: c69 :: c70 :: c71 :: c72 :: c73 :: c74 :: c75 :: []), []⟩ W := by
  rcases Nat.eq_or_lt_of_le H.ile with h0 | h0
  · have HH := Lib.hid H
    have hni : ¬ (i : Int) < (d.length : Int) := by omega
    clear H
    conv => arg 2; whnf
    go_wp2
    exact HX.out _ _ _ _ _ _ _ _ _ _ _ _ _ _ _ _ _ _ _ _ _ _ _ _ h0 HH.out
  · obtain ⟨c, hc⟩ : ∃ c, d[i]? = some c := ⟨_, List.getElem?_eq_getElem h0⟩
    have hgd : ∀ h, (⟨d.toArray⟩ : ByteArray)[i]'h = c := by
      intro h
      show (d.toArray[i]'h) = c
      rw [List.getElem_toArray]
      exact (List.getElem?_eq_some_iff.1 hc).2
    have hil : (i : Int) < (d.length : Int) := by omega
    have HTK := Lib.hid (take_snoc d i c hc)
    have HH := Lib.hid H
    have HD := Lib.hid (hexDigit_any c)
    clear H hc
    by_cases hn : nibOf c < 16
    · have hdv : digV c = (nibOf c : Int) := by unfold digV; rw [if_pos hn]
      rw [hdv] at HD
      have hsyn : Hid (syn = !decide (Nibs (d.take (i + 1)))) := by
        show _ = _
        rw [HTK.out, HH.out.syn]
        congr 1
        rw [decide_eq_decide, nibs_snoc]
        exact ⟨fun h => ⟨h, hn⟩, fun h => h.1⟩
      clear hdv
      have hn0 : ¬ (nibOf c : Int) < 0 := by omega
      by_cases h64 : d.length ≤ 64
      · have h64i : (d.length : Int) ≤ 64 := by omega
        obtain ⟨n, hdg, hnv⟩ := HH.out.dg h64
        have HDG := Lib.hid hdg
        have HNV := Lib.hid hnv
        have hnn : Hid (Nibs (d.take (i + 1)) → n * 16 + nibOf c = hv (d.take (i + 1))) := fun h => by
          rw [HTK.out] at h ⊢
          rw [hv_snoc, hnv ((nibs_snoc _ _).1 h).1, Nat.mul_comm]
        clear hdg hnv
        generalize nibOf c = v at *
        have hi64 : i < 64 := by omega
        conv => arg 2; whnf
        go_wp2_with (first
          | (go_at_call 32; refine (HD.out _).mono ?_; rintro e w1 ⟨rfl, hw1⟩; have hw1 := hw1.symm; subst hw1)
          | (go_at_call 17; refine (times_dg _ _ n 16 (3 * i) 1 _ (HDG.out.bel (bel_alloc (bel_refl _) _)) (dgOne _ 16 (by omega)) (by omega) (by omega)).mono ?_; rintro e w2 ⟨v2, rfl, dg2, hb2⟩; have DG2 := Lib.hid dg2; have HB2 := Lib.hid (bel_trans (bel_alloc (bel_refl _) _) hb2); clear dg2 hb2)
          | (go_at_call 16; refine (plus_dg _ _ (n * 16) v (3 * i + 1 + 1) 1 _ (DG2.out.bel (bel_alloc (bel_refl _) _)) (dgOne _ v (by omega)) (by omega) (by omega)).mono ?_; rintro e w3 ⟨v3, rfl, dg3, hb3⟩; have DG3 := Lib.hid dg3; have HB3 := Lib.hid (bel_trans HB2.out (bel_trans (bel_alloc (bel_refl _) _) hb3)); clear dg3 hb3))
        exact HN.out _ _ _ _ _ _ _ _ _ _ _ _ _ _ _ _ _ _ _ _ _ _ _ _ _ _ h0 (by omega) ⟨by omega, hsyn.out, fun _ => ⟨_, DG3.out.le (by omega), hnn.out⟩, bel_trans HH.out.bel HB3.out⟩
      · have h64i : ¬ (d.length : Int) ≤ 64 := by omega
        generalize nibOf c = v at *
        conv => arg 2; whnf
        go_wp2_with (go_at_call 32; refine (HD.out _).mono ?_; rintro e w1 ⟨rfl, hw1⟩; have hw1 := hw1.symm; subst hw1)
        exact HN.out _ _ _ _ _ _ _ _ _ _ _ _ _ _ _ _ _ _ _ _ _ _ _ _ _ _ h0 (by omega) ⟨by omega, hsyn.out, fun h => absurd h h64, HH.out.bel⟩
    · have hdv : digV c = -1 := by unfold digV; rw [if_neg hn]
      rw [hdv] at HD
      have hnot : Hid (¬ Nibs (d.take (i + 1))) := fun h => by rw [HTK.out] at h; exact hn ((nibs_snoc _ _).1 h).2
      clear hdv hn
      conv => arg 2; whnf
      go_wp2_with (go_at_call 32; refine (HD.out _).mono ?_; rintro e w1 ⟨rfl, hw1⟩; have hw1 := hw1.symm; subst hw1)
      refine HN.out _ _ _ _ _ _ _ _ _ _ _ _ _ _ _ _ _ _ _ _ _ _ _ _ _ _ h0 (by omega) ⟨by omega, by rw [decide_eq_false hnot.out]; rfl, fun h => ?_, HH.out.bel⟩
      obtain ⟨n, hdg, _⟩ := HH.out.dg h
      exact ⟨n, hdg.le (by omega), fun k => absurd k hnot.out⟩
/-- The loop. -/
def OhI (w0 : World) (d : List UInt8) (c0 c1 c2 c3 c5 c10 c11 c12 c13 c14 c15 c16 c17 c18 c19 c20 c21 c22 c23 c24 c25 c26 c48 c49 c50 c51 c52 c53 c54 c55 c56 c57 c58 c59 c60 c61 c62 c63 c64 c65 c66 c67 c68 c69 c70 c71 c72 c73 c74 c75 : Value) (a : Act) (W : World) : Prop :=
  ∃ (u27 u28 u29 u30 u31 u32 u33 u34 u35 u36 u37 u38 u39 u40 u41 u42 u43 u44 u45 u46 u47 : Value), ∃ (i : Nat) (l nn : Value) (I : Int) (syn : Bool), I = (i : Int) ∧ OhS w0 d i l syn W ∧ a = ⟨List.toArray (c0 :: c1 :: c2 :: c3 :: .string ⟨d.toArray⟩ :: c5 :: l :: .bool syn :: .int .i64 I :: nn :: c10 :: c11 :: c12 :: c13 :: c14 :: c15 :: c16 :: c17 :: c18 :: c19 :: c20 :: c21 :: c22 :: c23 :: c24 :: c25 :: c26 :: u27 :: u28 :: u29 :: u30 :: u31 :: u32 :: u33 :: u34 :: u35 :: u36 :: u37 :: u38 :: u39 :: u40 :: u41 :: u42 :: u43 :: u44 :: u45 :: u46 :: u47 :: c48 :: c49 :: c50 :: c51 :: c52 :: c53 :: c54 :: c55 :: c56 :: c57 :: c58 :: c59 :: c60 :: c61 :: c62 :: c63 :: c64 :: c65 :: c66 :: c67 :: c68 :: c69 :: c70 :: c71 :: c72 :: c73 :: c74 :: c75 :: []), []⟩
def muOh (n : Nat) (a : Act) (_ : World) : Nat := ((n : Int) - RowKit.intOf (a.tmps[8]?.getD undef)).toNat
set_option maxHeartbeats 4000000 in
set_option maxRecDepth 20000 in
theorem oh_loop (w0 : World) (d : List UInt8) (i : Nat) (l nn : Value) (I : Int) (syn : Bool) (W : World) (Q : Exit → Act → World → Prop) (c0 c1 c2 c3 c5 c10 c11 c12 c13 c14 c15 c16 c17 c18 c19 c20 c21 c22 c23 c24 c25 c26 c48 c49 c50 c51 c52 c53 c54 c55 c56 c57 c58 c59 c60 c61 c62 c63 c64 c65 c66 c67 c68 c69 c70 c71 c72 c73 c74 c75 v27 v28 v29 v30 v31 v32 v33 v34 v35 v36 v37 v38 v39 v40 v41 v42 v43 v44 v45 v46 v47 : Value)
    (H : OhS w0 d i l syn W) (hmax : d.length ≤ 100000) (hI : I = (i : Int))
    (HX : Hid (∀ (l nn : Value) (I : Int) (syn : Bool) (W' : World) (u27 u28 u29 u30 u31 u32 u33 u34 u35 u36 u37 u38 u39 u40 u41 u42 u43 u44 u45 u46 u47 : Value), OhS w0 d d.length l syn W' → Q (.exit 0) ⟨List.toArray (c0 :: c1 :: c2 :: c3 :: .string ⟨d.toArray⟩ :: c5 :: l :: .bool syn :: .int .i64 I :: nn :: c10 :: c11 :: c12 :: c13 :: c14 :: c15 :: c16 :: c17 :: c18 :: c19 :: c20 :: c21 :: c22 :: c23 :: c24 :: c25 :: c26 :: u27 :: u28 :: u29 :: u30 :: u31 :: u32 :: u33 :: u34 :: u35 :: u36 :: u37 :: u38 :: u39 :: u40 :: u41 :: u42 :: u43 :: u44 :: u45 :: u46 :: u47 :: c48 :: c49 :: c50 :: c51 :: c52 :: c53 :: c54 :: c55 :: c56 :: c57 :: c58 :: c59 :: c60 :: c61 :: c62 :: c63 :: c64 :: c65 :: c66 :: c67 :: c68 :: c69 :: c70 :: c71 :: c72 :: c73 :: c74 :: c75 :: []), []⟩ W')) :
    Code.wp Tryd.prog (.loop ohBody) Q ⟨List.toArray (c0 :: c1 :: c2 :: c3 :: .string ⟨d.toArray⟩ :: c5 :: l :: .bool syn :: .int .i64 I :: nn :: c10 :: c11 :: c12 :: c13 :: c14 :: c15 :: c16 :: c17 :: c18 :: c19 :: c20 :: c21 :: c22 :: c23 :: c24 :: c25 :: c26 :: v27 :: v28 :: v29 :: v30 :: v31 :: v32 :: v33 :: v34 :: v35 :: v36 :: v37 :: v38 :: v39 :: v40 :: v41 :: v42 :: v43 :: v44 :: v45 :: v46 :: v47 :: c48 :: c49 :: c50 :: c51 :: c52 :: c53 :: c54 :: c55 :: c56 :: c57 :: c58 :: c59 :: c60 :: c61 :: c62 :: c63 :: c64 :: c65 :: c66 :: c67 :: c68 :: c69 :: c70 :: c71 :: c72 :: c73 :: c74 :: c75 :: []), []⟩ W := by
  refine wp_loop (OhI w0 d c0 c1 c2 c3 c5 c10 c11 c12 c13 c14 c15 c16 c17 c18 c19 c20 c21 c22 c23 c24 c25 c26 c48 c49 c50 c51 c52 c53 c54 c55 c56 c57 c58 c59 c60 c61 c62 c63 c64 c65 c66 c67 c68 c69 c70 c71 c72 c73 c74 c75) (muOh d.length) ?_ ?_
  · exact ⟨v27, v28, v29, v30, v31, v32, v33, v34, v35, v36, v37, v38, v39, v40, v41, v42, v43, v44, v45, v46, v47, i, l, nn, I, syn, hI, H, rfl⟩
  · intro A W1 hI
    obtain ⟨u27, hI⟩ := hI
    obtain ⟨u28, hI⟩ := hI
    obtain ⟨u29, hI⟩ := hI
    obtain ⟨u30, hI⟩ := hI
    obtain ⟨u31, hI⟩ := hI
    obtain ⟨u32, hI⟩ := hI
    obtain ⟨u33, hI⟩ := hI
    obtain ⟨u34, hI⟩ := hI
    obtain ⟨u35, hI⟩ := hI
    obtain ⟨u36, hI⟩ := hI
    obtain ⟨u37, hI⟩ := hI
    obtain ⟨u38, hI⟩ := hI
    obtain ⟨u39, hI⟩ := hI
    obtain ⟨u40, hI⟩ := hI
    obtain ⟨u41, hI⟩ := hI
    obtain ⟨u42, hI⟩ := hI
    obtain ⟨u43, hI⟩ := hI
    obtain ⟨u44, hI⟩ := hI
    obtain ⟨u45, hI⟩ := hI
    obtain ⟨u46, hI⟩ := hI
    obtain ⟨u47, hI⟩ := hI
    obtain ⟨i, l, nn, I, syn, rfl, H, rfl⟩ := hI
    refine oh_round w0 d i l nn syn W1 _ c0 c1 c2 c3 c5 c10 c11 c12 c13 c14 c15 c16 c17 c18 c19 c20 c21 c22 c23 c24 c25 c26 c48 c49 c50 c51 c52 c53 c54 c55 c56 c57 c58 c59 c60 c61 c62 c63 c64 c65 c66 c67 c68 c69 c70 c71 c72 c73 c74 c75 _ _ _ _ _ _ _ _ _ _ _ _ _ _ _ _ _ _ _ _ _ H hmax ?_ ?_
    · show ∀ _, _
      intro l2 nn2 I2 syn2 W2 u27 u28 u29 u30 u31 u32 u33 u34 u35 u36 u37 u38 u39 u40 u41 u42 u43 u44 u45 u46 u47 hlt hI2 HW
      refine ⟨⟨u27, u28, u29, u30, u31, u32, u33, u34, u35, u36, u37, u38, u39, u40, u41, u42, u43, u44, u45, u46, u47, i + 1, l2, nn2, I2, syn2, hI2, HW, rfl⟩, ?_⟩
      show ((d.length : Int) - RowKit.intOf (.int .i64 I2)).toNat < ((d.length : Int) - RowKit.intOf (.int .i64 (i : Int))).toNat
      simp only [RowKit.intOf]
      omega
    · show ∀ _, _
      intro nn2 I2 W2 u27 u28 u29 u30 u31 u32 u33 u34 u35 u36 u37 u38 u39 u40 u41 u42 u43 u44 u45 u46 u47 hi HW
      rw [hi] at HW
      exact HX.out _ _ _ _ W2 u27 u28 u29 u30 u31 u32 u33 u34 u35 u36 u37 u38 u39 u40 u41 u42 u43 u44 u45 u46 u47 HW
/-- The faults of a text, as the reference lists them. -/
def specFaults (s : List UInt8) : List Nat :=
  if s = [] then [1] else if isPre s = false then [3] else if s.drop 2 = [] then [4] else
    (if Nibs (s.drop 2) then [] else [2]) ++ (if 1 < (s.drop 2).length ∧ (s.drop 2)[0]? = some 48 then [5] else []) ++ (if 64 < (s.drop 2).length then [6] else [])
theorem ownR_bel {w w' : World} {B n gb cap : Nat} {e : TypeId} {xs : List Value} (h : w.ownsRow B e 1 (.slice (some ⟨gb, 0, none⟩) n cap) n xs) (hb : Below w.heap.size w w') : w'.ownsRow B e 1 (.slice (some ⟨gb, 0, none⟩) n cap) n xs := by
  obtain ⟨h1, h2⟩ := h
  refine ⟨h1, .inr ?_⟩
  rcases h2 with ⟨h3, _⟩ | ⟨g', cap', cur, h3, h4, h5, h6, h7, h8, h9⟩
  · cases h3
  · cases h3
    exact ⟨gb, cap, cur, rfl, h4, by rw [hb.block gb (Array.getElem?_eq_some_iff.1 h5).1]; exact h5, h6, h7, h8, h9⟩
theorem thereR_keep {w w' : World} {b o n B : Nat} (h : w.there b o n) (k : Below B w w') (hb : b < B) : w'.there b o n := fun j hj => by
  have := h j hj
  rw [k.cell (p := ⟨b, o + j, none⟩) hb, k.frozen (p := ⟨b, o + j, none⟩) hb]
  exact this
theorem slOfR {w : World} {B : Nat} {e : TypeId} {v : Value} {l : List Nat} (h : w.ownsRow B e 1 v l.length (ints l)) : Sl w v l := by
  obtain ⟨h1, h2⟩ := h
  rcases h2 with ⟨rfl, h3⟩ | ⟨g, cap, cur, rfl, h4, h5, h6, h7, h8, h9⟩
  · have : l = [] := List.length_eq_zero_iff.1 h3
    subst this
    exact Sl.nil w
  · refine ⟨some ⟨g, 0, none⟩, cap, rfl, h6, fun i d hd => ⟨g, 0, rfl, ?_⟩⟩
    have hi := (List.getElem?_eq_some_iff.1 hd).1
    have hc : cur[i]? = some (.int .i64 (d : Int)) := by
      have : (cur.toList.take (l.length * 1))[i]? = some (.int .i64 (d : Int)) := by rw [h9]; simp [ints, hd]
      rw [List.getElem?_take_of_lt (by omega)] at this
      simpa using this
    rw [Nat.zero_add]
    simp [World.cell?, h5, hc]
end Go.Proofs.YtfaocjcpnjmfiaaDoor

set_option linter.unusedVariables false
set_option linter.unusedSimpArgs false
namespace Go.Proofs.YtfaocjcpnjmfiaaDoor
open Go.RowKit
theorem heap_setCellsR (k : Nat) (vs : List Value) : ∀ (w : World) (g o : Nat), k ≠ g → (w.setCells g o vs).heap[k]? = w.heap[k]? := by
  induction vs with
  | nil => intro w g o _; rfl
  | cons v vs ih =>
    intro w g o h
    show ((w.setCell ⟨g, o, none⟩ v).setCells g (o + 1) vs).heap[k]? = _
    rw [ih _ _ _ h]
    simp only [World.setCell, Array.getElem?_modify]
    rw [if_neg (fun e => h e.symm)]
theorem oneFault (w : World) (k : Int) : (((w.alloc Z4R).alloc (.cells #[.int .i64 k] 3)).setCells w.heap.size 0 [V zeroR.a, V zeroR.b, V zeroR.c, V zeroR.d]).cell? ⟨w.heap.size + 1, 0 + 0, none⟩ = some (.int .i64 k) := by
  have e := heap_setCellsR (w.heap.size + 1) [V zeroR.a, V zeroR.b, V zeroR.c, V zeroR.d] ((w.alloc Z4R).alloc (.cells #[.int .i64 k] 3)) w.heap.size 0 (by omega)
  unfold World.cell?
  rw [show w.heap.size + 1 = ((⟨w.heap.size + 1, 0 + 0, none⟩ : Addr)).block by rfl] at e
  have e2 : ((w.alloc Z4R).alloc (.cells #[.int .i64 k] 3)).heap[w.heap.size + 1]? = some (.cells #[.int .i64 k] 3) := by
    have e3 : (w.alloc Z4R).heap.size = w.heap.size + 1 := by simp
    rw [← e3]; exact Array.getElem?_push_size
  have e4 := e.trans e2
  rw [e4]
  rfl
theorem ownR_set {w : World} {B n g o : Nat} {e : TypeId} {v : Value} {xs vs : List Value} (h : w.ownsRow B e 1 v n xs) (hg : g < B) : (w.setCells g o vs).ownsRow B e 1 v n xs := by
  obtain ⟨h1, h2⟩ := h
  refine ⟨h1, ?_⟩
  rcases h2 with h3 | ⟨g', cap', cur, h3, h4, h5, h6⟩
  · exact .inl h3
  · exact .inr ⟨g', cap', cur, h3, h4, by rw [heap_setCellsR _ _ _ _ _ (by omega)]; exact h5, h6⟩
theorem Tryd.infoIntR : (Tryd.prog.info? 3).map (fun i => (i.zero, i.size, i.bytes)) = some (some (.int .i64 0), 1, 8) := by kernel_rfl
theorem isPre_len (s : List UInt8) (h : isPre s = true) : 2 ≤ s.length := by
  rcases s with _ | ⟨c0, _ | ⟨c1, d⟩⟩
  · cases h
  · cases h
  · simp
set_option maxHeartbeats 16000000 in
set_option maxRecDepth 20000 in
theorem ofHex_main (s : List UInt8) (w : World) (hmax : s.length ≤ 65536) (hs0 : s ≠ []) (hp : isPre s = true) (IP : Hid (∀ w, Calls Tryd.prog 21 #[.string ⟨s.toArray⟩] w fun e w' => e = .returned (.bool true) ∧ w' = w)) :
    Calls Tryd.prog 22 #[.string ⟨s.toArray⟩] w fun e w' => Below w.heap.size w w' ∧
    ((specFaults s = [] ∧ e = .returned (.tuple #[(ofN (hv (s.drop 2))).v, .slice none 0 0])) ∨ (specFaults s ≠ [] ∧ ∃ v, e = .returned (.tuple #[zeroR.v, v]) ∧ Sl w' v (specFaults s))) := by
  have hth := thereR_z w
  obtain ⟨F, hF⟩ : ∃ F, F = specFaults s := ⟨_, rfl⟩
  rw [← hF]
  unfold specFaults at hF
  rw [if_neg hs0, if_neg (by rw [hp]; simp)] at hF
  have hs2 : 2 ≤ s.length := isPre_len s hp
  obtain ⟨d, hd⟩ : ∃ d, d = s.drop 2 := ⟨_, rfl⟩
  rw [← hd] at hF ⊢
  have hdl : d.length ≤ 65536 := by rw [hd, List.length_drop]; omega
  obtain ⟨S, hS⟩ : ∃ S : ByteArray, S = ⟨s.toArray⟩ := ⟨_, rfl⟩
  rw [← hS] at IP ⊢
  have q : S.toList.isEmpty = false := by rw [ByteArray.toList_eq, hS]; simp [hs0]
  have hszS : S.size = s.length := by rw [hS]; rfl
  have hsz2 : (2 : Int) ≤ (S.size : Int) := by omega
  have hext : S.extract 2 S.size = ⟨d.toArray⟩ := by
    apply ByteArray.ext
    rw [ByteArray.data_extract, hszS, hS, hd]
    simp
    exact List.take_of_length_le (by rw [List.length_drop]; omega)
  clear hs0 hp hmax hd hS hs2 hszS
  by_cases hd0 : d = []
  · subst hd0
    rw [if_pos rfl] at hF
    have hth2 : ((w.alloc Z4R).alloc (.cells #[.int .i64 4] 3)).there w.heap.size 0 4 := thereR_bel hth (by omega) (bel_alloc (bel_refl _) _)
    have S1 : Hid (Sl ((((w.alloc Z4R).alloc (.cells #[.int .i64 4] 3))).setCells w.heap.size 0 [V zeroR.a, V zeroR.b, V zeroR.c, V zeroR.d]) (.slice (some ⟨w.heap.size + 1, 0, none⟩) 1 1) [4]) := by
      refine ⟨some ⟨w.heap.size + 1, 0, none⟩, 1, rfl, Nat.le_refl _, fun i d hd => ⟨_, _, rfl, ?_⟩⟩
      match i, hd with
      | 0, hd =>
        simp at hd
        subst hd
        have e := heap_setCellsR (w.heap.size + 1) [V zeroR.a, V zeroR.b, V zeroR.c, V zeroR.d] ((w.alloc Z4R).alloc (.cells #[.int .i64 4] 3)) w.heap.size 0 (by omega)
        unfold World.cell?
        rw [show w.heap.size + 1 = ((⟨w.heap.size + 1, 0 + 0, none⟩ : Addr)).block by rfl] at e
        have e2 : ((w.alloc Z4R).alloc (.cells #[.int .i64 4] 3)).heap[w.heap.size + 1]? = some (.cells #[.int .i64 4] 3) := by
          have e3 : (w.alloc Z4R).heap.size = w.heap.size + 1 := by simp
          rw [← e3]; exact Array.getElem?_push_size
        have e4 := e.trans e2
        rw [e4]
        rfl
      | i + 1, hd => simp at hd
    subst hF
    go_enter Tryd.func22, Tryd.ntmps22
    go_wp2_with (first | (go_at_call 21; refine (IP.out _).mono ?_; rintro e w1 ⟨rfl, hw1⟩; have hw1 := hw1.symm; subst hw1) | (show wpList _ _ _ (⟨none, Op.store 24 _ _, _, _, _, _⟩ :: _) _ _; refine wpList_store_mid (op := ⟨none, Op.store 24 (.tmp 2) (.tmp 23), _, _, _, _⟩) rfl 24 _ _ rfl w.heap.size 0 [V zeroR.a, V zeroR.b, V zeroR.c, V zeroR.d].toArray rfl rfl hth2 (by kernel_rfl) (by simp [Value.oneCell']) ?_))
    go_wp2
    refine bodyPost_ret (v := .tuple #[zeroR.v, .slice (some ⟨w.heap.size + 1, 0, none⟩) 1 1]) (resultsR_slot rfl _ _ w.heap.size [V zeroR.a, V zeroR.b, V zeroR.c, V zeroR.d] _ rfl (World.rangeAt_setCells_same _ _ 0 _ hth2) Tryd.underlying24 rfl (by kernel_rfl) rfl) rfl ⟨?_, by first | exact .inr ⟨by simp, _, rfl, S1.out⟩ | exact ⟨_, rfl, S1.out⟩⟩
    exact setCellsR_bel (bel_alloc (bel_alloc (bel_refl w) _) _) (Nat.le_refl _)
  · rw [if_neg hd0] at hF
    have q2 : d.isEmpty = false := by simp [hd0]
    have HF := Lib.hid hF
    clear hF
    go_enter Tryd.func22, Tryd.ntmps22
    go_wp2_with (first | (go_at_call 21; refine (IP.out _).mono ?_; rintro e w1 ⟨rfl, hw1⟩; have hw1 := hw1.symm; subst hw1))
    have W1sz : ((((w.alloc Z4R).alloc (.cells #[] 3)).alloc (.cells #[] 3))).heap.size = w.heap.size + 3 := by simp
    have own1 : ((((w.alloc Z4R).alloc (.cells #[] 3)).alloc (.cells #[] 3))).ownsRow (w.heap.size + 1) 3 1 (.slice (some ⟨w.heap.size + 1, 0, none⟩) 0 0) 0 (ints []) := by
      have h := World.ownsRow_made (base := w.heap.size + 1) (e := 3) (size := 1) (w.alloc Z4R) #[] 0 (by simp) (Nat.zero_le _) rfl
      have h2 := h.alloc (.cells #[] 3)
      simpa [ints] using h2
    have hth1 : ((((w.alloc Z4R).alloc (.cells #[] 3)).alloc (.cells #[] 3))).there w.heap.size 0 4 := thereR_bel (thereR_bel hth (by omega) (bel_alloc (bel_refl _) _)) (by omega) (bel_alloc (bel_refl _) _)
    have bel1 : Below w.heap.size w ((((w.alloc Z4R).alloc (.cells #[] 3)).alloc (.cells #[] 3))) := bel_alloc (bel_alloc (bel_alloc (bel_refl w) _) _) _
    have HS1 : Hid (OhS ((((w.alloc Z4R).alloc (.cells #[] 3)).alloc (.cells #[] 3))) d 0 (.slice (some ⟨w.heap.size + 2, 0, none⟩) 0 0) false ((((w.alloc Z4R).alloc (.cells #[] 3)).alloc (.cells #[] 3)))) := by
      refine ⟨Nat.zero_le _, ?_, fun _ => ⟨0, ⟨[], ⟨some ⟨w.heap.size + 2, 0, none⟩, 0, rfl, Nat.le_refl _, fun i d hd => by simp at hd⟩, (fun d hd => by simp at hd), rfl, Nat.zero_le _⟩, fun _ => rfl⟩, bel_refl _⟩
      rw [List.take_zero, decide_eq_true Nibs.nil]
      rfl
    have OWN1 := Lib.hid own1
    have HTH1 := Lib.hid hth1
    have BEL1 := Lib.hid bel1
    clear own1 hth1 bel1 hth
    generalize ((((w.alloc Z4R).alloc (.cells #[] 3)).alloc (.cells #[] 3))) = W1 at *
    refine oh_loop W1 d 0 _ _ _ false W1 _ _ _ _ _ _ _ _ _ _ _ _ _ _ _ _ _ _ _ _ _ _ _ _ _ _ _ _ _ _ _ _ _ _ _ _ _ _ _ _ _ _ _ _ _ _ _ _ _ _ _ _ _ _ _ _ _ _ _ _ _ _ _ _ _ _ _ _ _ _ _ _ HS1.out (by omega) rfl ?_
    show ∀ _, _
    intro l2 nn2 I2 syn2 W2 u27 u28 u29 u30 u31 u32 u33 u34 u35 u36 u37 u38 u39 u40 u41 u42 u43 u44 u45 u46 u47 H2
    obtain ⟨i0, hi, hz0, hz1, hz2⟩ := info_parts Tryd.infoIntR
    have hsyn := H2.syn
    rw [List.take_length] at hsyn
    have H2H := Lib.hid H2
    have HTH2 := Lib.hid (thereR_bel HTH1.out (by omega) H2.bel)
    have OWN2 := Lib.hid (ownR_bel OWN1.out H2.bel)
    have BEL2 := Lib.hid (bel_trans BEL1.out H2.bel)
    have hW2 : w.heap.size + 1 ≤ W2.heap.size := by have := H2.bel.size; omega
    clear H2 HS1 OWN1 HTH1 BEL1 W1sz
    obtain ⟨c, hc⟩ : ∃ c, d[0]? = some c := ⟨_, List.getElem?_eq_getElem (by rcases d with _ | _; exact absurd rfl hd0; simp)⟩
    have hgd0 : ∀ h, (⟨d.toArray⟩ : ByteArray)[0]'h = c := by
      intro h
      show (d.toArray[0]'h) = c
      rw [List.getElem_toArray]
      exact (List.getElem?_eq_some_iff.1 hc).2
    have hF := HF.out
    rw [hc] at hF
    have HC := Lib.hid hc
    clear hc hd0 q2 q hext hsz2 IP
    by_cases hn : Nibs d
    · rw [decide_eq_true hn] at hsyn
      simp only [Bool.not_true] at hsyn
      subst hsyn
      rw [if_pos hn] at hF
      have HNN := Lib.hid hn
      clear hn
      by_cases h1 : 1 < d.length
      · have p1 : (1 : Int) < (d.length : Int) := by omega
        by_cases h48 : c = 48
        · have p48 : ((c.toNat : Int) == 48) = true := by rw [h48]; rfl
          rw [if_pos ⟨h1, by rw [h48]⟩] at hF
          clear h48
          by_cases h64 : 64 < d.length
          · have p64 : (64 : Int) < (d.length : Int) := by omega
            rw [if_pos h64] at hF
            try simp only [List.append_nil, List.nil_append, List.singleton_append, List.cons_append] at hF
            subst hF
            go_wp2_with (at_builtin; refine wpList_append_own _ rfl _ _ 30 rfl (w.heap.size + 1) 3 i0 (.int .i64 0) 1 8 Tryd.underlying30 hi hz0 hz1 hz2 rfl (by decide) _ _ _ rfl (OWN2.out.alloc _) ⟨W2.heap.size, 0, none⟩ 1 1 [.int .i64 5] rfl rfl ?q1x1 ?q1x2 ?q1x3 ?q1x4 ?q1x5 ?_)
            try (case q1x1 => intro ii u hu; rcases ii with _ | ii; (simp at hu; subst hu; simp [Addr.add, go_sem]); (simp at hu))
            try (case q1x2 => first | rfl | (intro u hu; simp at hu; subst hu; rfl))
            try (case q1x3 => first | (unfold maxLen; omega) | (simp [maxLen]))
            try (case q1x4 => omega)
            try (case q1x5 => first | omega | (simp; omega))
            intro y1 X1 hown2 hgrow2 _
            have OW1 : Hid (X1.ownsRow (w.heap.size + 1) 3 1 y1 1 (ints [5])) := by
              show World.ownsRow _ _ _ _ _ _ _
              simpa [ints] using hown2
            have BB1 : Hid (Below (w.heap.size + 1) W2 X1) := by
              have HOO := OWN2.out
              exact ((Below.refl _ W2).alloc (by omega) _).grown hgrow2 (by simp; omega) (fun g hg => (HOO.lt g hg).1)
            have hX1 : w.heap.size + 1 ≤ X1.heap.size := by have := hgrow2.size; simp at this; omega
            clear hown2 hgrow2
            go_wp2_with (at_builtin; refine wpList_append_own _ rfl _ _ 30 rfl (w.heap.size + 1) 3 i0 (.int .i64 0) 1 8 Tryd.underlying30 hi hz0 hz1 hz2 rfl (by decide) _ _ _ rfl (OW1.out.alloc _) ⟨X1.heap.size, 0, none⟩ 1 1 [.int .i64 6] rfl rfl ?q2x1 ?q2x2 ?q2x3 ?q2x4 ?q2x5 ?_)
            try (case q2x1 => intro ii u hu; rcases ii with _ | ii; (simp at hu; subst hu; simp [Addr.add, go_sem]); (simp at hu))
            try (case q2x2 => first | rfl | (intro u hu; simp at hu; subst hu; rfl))
            try (case q2x3 => first | (unfold maxLen; omega) | (simp [maxLen]))
            try (case q2x4 => omega)
            try (case q2x5 => first | omega | (simp; omega))
            intro y2 X2 hown2 hgrow2 _
            have OW2 : Hid (X2.ownsRow (w.heap.size + 1) 3 1 y2 2 (ints [5, 6])) := by
              show World.ownsRow _ _ _ _ _ _ _
              simpa [ints] using hown2
            have BB2 : Hid (Below (w.heap.size + 1) W2 X2) := by
              have HOO := OW1.out
              exact (BB1.out.alloc (by omega) _).grown hgrow2 (by simp; omega) (fun g hg => (HOO.lt g hg).1)
            have hX2 : w.heap.size + 1 ≤ X2.heap.size := by have := hgrow2.size; simp at this; omega
            clear hown2 hgrow2
            have hthF := thereR_keep HTH2.out BB2.out (by omega)
            obtain ⟨AA, cc, hy, hcc, _⟩ := slOfR OW2.out
            simp only [List.length_cons, List.length_nil, Nat.zero_add, Nat.reduceAdd] at hy hcc
            subst hy
            go_wp2_with (show wpList _ _ _ (⟨none, Op.store 24 _ _, _, _, _, _⟩ :: _) _ _; refine wpList_store_mid (op := ⟨none, Op.store 24 (.tmp 2) (.tmp 72), _, _, _, _⟩) rfl 24 _ _ rfl w.heap.size 0 [V zeroR.a, V zeroR.b, V zeroR.c, V zeroR.d].toArray rfl rfl hthF (by kernel_rfl) (by simp [Value.oneCell']) ?_)
            go_wp2
            refine bodyPost_ret (v := .tuple #[zeroR.v, .slice AA 2 cc]) (resultsR_slot rfl _ _ w.heap.size [V zeroR.a, V zeroR.b, V zeroR.c, V zeroR.d] _ rfl (World.rangeAt_setCells_same _ _ 0 _ hthF) Tryd.underlying24 rfl (by kernel_rfl) rfl) rfl ⟨?_, by first | exact .inr ⟨by simp, _, rfl, slOfR (e := 3) (B := w.heap.size + 1) (ownR_set OW2.out (by omega))⟩ | exact ⟨_, rfl, slOfR (e := 3) (B := w.heap.size + 1) (ownR_set OW2.out (by omega))⟩⟩
            exact setCellsR_bel (BEL2.out.trans (BB2.out.mono (by omega))) (Nat.le_refl _)
          · have p64 : ¬ (64 : Int) < (d.length : Int) := by omega
            rw [if_neg h64] at hF
            try simp only [List.append_nil, List.nil_append, List.singleton_append, List.cons_append] at hF
            subst hF
            go_wp2_with (at_builtin; refine wpList_append_own _ rfl _ _ 30 rfl (w.heap.size + 1) 3 i0 (.int .i64 0) 1 8 Tryd.underlying30 hi hz0 hz1 hz2 rfl (by decide) _ _ _ rfl (OWN2.out.alloc _) ⟨W2.heap.size, 0, none⟩ 1 1 [.int .i64 5] rfl rfl ?q3x1 ?q3x2 ?q3x3 ?q3x4 ?q3x5 ?_)
            try (case q3x1 => intro ii u hu; rcases ii with _ | ii; (simp at hu; subst hu; simp [Addr.add, go_sem]); (simp at hu))
            try (case q3x2 => first | rfl | (intro u hu; simp at hu; subst hu; rfl))
            try (case q3x3 => first | (unfold maxLen; omega) | (simp [maxLen]))
            try (case q3x4 => omega)
            try (case q3x5 => first | omega | (simp; omega))
            intro y1 X1 hown2 hgrow2 _
            have OW1 : Hid (X1.ownsRow (w.heap.size + 1) 3 1 y1 1 (ints [5])) := by
              show World.ownsRow _ _ _ _ _ _ _
              simpa [ints] using hown2
            have BB1 : Hid (Below (w.heap.size + 1) W2 X1) := by
              have HOO := OWN2.out
              exact ((Below.refl _ W2).alloc (by omega) _).grown hgrow2 (by simp; omega) (fun g hg => (HOO.lt g hg).1)
            have hX1 : w.heap.size + 1 ≤ X1.heap.size := by have := hgrow2.size; simp at this; omega
            clear hown2 hgrow2
            have hthF := thereR_keep HTH2.out BB1.out (by omega)
            obtain ⟨AA, cc, hy, hcc, _⟩ := slOfR OW1.out
            simp only [List.length_cons, List.length_nil, Nat.zero_add, Nat.reduceAdd] at hy hcc
            subst hy
            go_wp2_with (show wpList _ _ _ (⟨none, Op.store 24 _ _, _, _, _, _⟩ :: _) _ _; refine wpList_store_mid (op := ⟨none, Op.store 24 (.tmp 2) (.tmp 72), _, _, _, _⟩) rfl 24 _ _ rfl w.heap.size 0 [V zeroR.a, V zeroR.b, V zeroR.c, V zeroR.d].toArray rfl rfl hthF (by kernel_rfl) (by simp [Value.oneCell']) ?_)
            go_wp2
            refine bodyPost_ret (v := .tuple #[zeroR.v, .slice AA 1 cc]) (resultsR_slot rfl _ _ w.heap.size [V zeroR.a, V zeroR.b, V zeroR.c, V zeroR.d] _ rfl (World.rangeAt_setCells_same _ _ 0 _ hthF) Tryd.underlying24 rfl (by kernel_rfl) rfl) rfl ⟨?_, by first | exact .inr ⟨by simp, _, rfl, slOfR (e := 3) (B := w.heap.size + 1) (ownR_set OW1.out (by omega))⟩ | exact ⟨_, rfl, slOfR (e := 3) (B := w.heap.size + 1) (ownR_set OW1.out (by omega))⟩⟩
            exact setCellsR_bel (BEL2.out.trans (BB1.out.mono (by omega))) (Nat.le_refl _)
        · have p48 : ((c.toNat : Int) == 48) = false := by
            have : c.toNat ≠ 48 := fun e => h48 (UInt8.toNat.inj e)
            simp; omega
          rw [if_neg (fun h => h48 (by simpa using h.2))] at hF
          clear h48
          by_cases h64 : 64 < d.length
          · have p64 : (64 : Int) < (d.length : Int) := by omega
            rw [if_pos h64] at hF
            try simp only [List.append_nil, List.nil_append, List.singleton_append, List.cons_append] at hF
            subst hF
            go_wp2_with (at_builtin; refine wpList_append_own _ rfl _ _ 30 rfl (w.heap.size + 1) 3 i0 (.int .i64 0) 1 8 Tryd.underlying30 hi hz0 hz1 hz2 rfl (by decide) _ _ _ rfl (OWN2.out.alloc _) ⟨W2.heap.size, 0, none⟩ 1 1 [.int .i64 6] rfl rfl ?q4x1 ?q4x2 ?q4x3 ?q4x4 ?q4x5 ?_)
            try (case q4x1 => intro ii u hu; rcases ii with _ | ii; (simp at hu; subst hu; simp [Addr.add, go_sem]); (simp at hu))
            try (case q4x2 => first | rfl | (intro u hu; simp at hu; subst hu; rfl))
            try (case q4x3 => first | (unfold maxLen; omega) | (simp [maxLen]))
            try (case q4x4 => omega)
            try (case q4x5 => first | omega | (simp; omega))
            intro y1 X1 hown2 hgrow2 _
            have OW1 : Hid (X1.ownsRow (w.heap.size + 1) 3 1 y1 1 (ints [6])) := by
              show World.ownsRow _ _ _ _ _ _ _
              simpa [ints] using hown2
            have BB1 : Hid (Below (w.heap.size + 1) W2 X1) := by
              have HOO := OWN2.out
              exact ((Below.refl _ W2).alloc (by omega) _).grown hgrow2 (by simp; omega) (fun g hg => (HOO.lt g hg).1)
            have hX1 : w.heap.size + 1 ≤ X1.heap.size := by have := hgrow2.size; simp at this; omega
            clear hown2 hgrow2
            have hthF := thereR_keep HTH2.out BB1.out (by omega)
            obtain ⟨AA, cc, hy, hcc, _⟩ := slOfR OW1.out
            simp only [List.length_cons, List.length_nil, Nat.zero_add, Nat.reduceAdd] at hy hcc
            subst hy
            go_wp2_with (show wpList _ _ _ (⟨none, Op.store 24 _ _, _, _, _, _⟩ :: _) _ _; refine wpList_store_mid (op := ⟨none, Op.store 24 (.tmp 2) (.tmp 72), _, _, _, _⟩) rfl 24 _ _ rfl w.heap.size 0 [V zeroR.a, V zeroR.b, V zeroR.c, V zeroR.d].toArray rfl rfl hthF (by kernel_rfl) (by simp [Value.oneCell']) ?_)
            go_wp2
            refine bodyPost_ret (v := .tuple #[zeroR.v, .slice AA 1 cc]) (resultsR_slot rfl _ _ w.heap.size [V zeroR.a, V zeroR.b, V zeroR.c, V zeroR.d] _ rfl (World.rangeAt_setCells_same _ _ 0 _ hthF) Tryd.underlying24 rfl (by kernel_rfl) rfl) rfl ⟨?_, by first | exact .inr ⟨by simp, _, rfl, slOfR (e := 3) (B := w.heap.size + 1) (ownR_set OW1.out (by omega))⟩ | exact ⟨_, rfl, slOfR (e := 3) (B := w.heap.size + 1) (ownR_set OW1.out (by omega))⟩⟩
            exact setCellsR_bel (BEL2.out.trans (BB1.out.mono (by omega))) (Nat.le_refl _)
          · have p64 : ¬ (64 : Int) < (d.length : Int) := by omega
            rw [if_neg h64] at hF
            try simp only [List.append_nil, List.nil_append, List.singleton_append, List.cons_append] at hF
            subst hF
            obtain ⟨n, hdg, hnv⟩ := H2H.out.dg (by omega)
            rw [List.take_length] at hnv
            have hn2 := hnv HNN.out
            subst hn2
            have HDG := Lib.hid hdg
            clear hdg hnv
            go_wp2_with fail
            refine (cut_dg _ (hv d) _ _ HDG.out (by omega)).mono ?_
            rintro e W3 ⟨rfl, hb3⟩
            have hthF := thereR_bel HTH2.out (by omega) hb3
            have HB3 := Lib.hid (bel_trans BEL2.out hb3)
            clear hb3
            go_wp2_with (show wpList _ _ _ (⟨none, Op.store 24 _ _, _, _, _, _⟩ :: _) _ _; refine wpList_store_mid (op := ⟨none, Op.store 24 (.tmp 2) (.tmp 75), _, _, _, _⟩) rfl 24 _ _ rfl w.heap.size 0 [V (ofN (hv d)).a, V (ofN (hv d)).b, V (ofN (hv d)).c, V (ofN (hv d)).d].toArray rfl rfl hthF (by kernel_rfl) (by simp [Value.oneCell']) ?_)
            go_wp2
            refine bodyPost_ret (v := .tuple #[(ofN (hv d)).v, .slice none 0 0]) (resultsR_slot rfl _ _ w.heap.size [V (ofN (hv d)).a, V (ofN (hv d)).b, V (ofN (hv d)).c, V (ofN (hv d)).d] _ rfl (World.rangeAt_setCells_same _ _ 0 _ hthF) Tryd.underlying24 rfl (by kernel_rfl) rfl) rfl ⟨?_, by first | exact .inl ⟨rfl, rfl⟩ | exact rfl⟩
            exact setCellsR_bel HB3.out (Nat.le_refl _)
      · have p1 : ¬ (1 : Int) < (d.length : Int) := by omega
        rw [if_neg (fun h => h1 h.1)] at hF
        rw [if_neg (by omega)] at hF
        have p64 : ¬ (64 : Int) < (d.length : Int) := by omega
        have h64 : ¬ 64 < d.length := by omega
        skip
        try simp only [List.append_nil, List.nil_append, List.singleton_append, List.cons_append] at hF
        subst hF
        obtain ⟨n, hdg, hnv⟩ := H2H.out.dg (by omega)
        rw [List.take_length] at hnv
        have hn2 := hnv HNN.out
        subst hn2
        have HDG := Lib.hid hdg
        clear hdg hnv
        go_wp2_with fail
        refine (cut_dg _ (hv d) _ _ HDG.out (by omega)).mono ?_
        rintro e W3 ⟨rfl, hb3⟩
        have hthF := thereR_bel HTH2.out (by omega) hb3
        have HB3 := Lib.hid (bel_trans BEL2.out hb3)
        clear hb3
        go_wp2_with (show wpList _ _ _ (⟨none, Op.store 24 _ _, _, _, _, _⟩ :: _) _ _; refine wpList_store_mid (op := ⟨none, Op.store 24 (.tmp 2) (.tmp 75), _, _, _, _⟩) rfl 24 _ _ rfl w.heap.size 0 [V (ofN (hv d)).a, V (ofN (hv d)).b, V (ofN (hv d)).c, V (ofN (hv d)).d].toArray rfl rfl hthF (by kernel_rfl) (by simp [Value.oneCell']) ?_)
        go_wp2
        refine bodyPost_ret (v := .tuple #[(ofN (hv d)).v, .slice none 0 0]) (resultsR_slot rfl _ _ w.heap.size [V (ofN (hv d)).a, V (ofN (hv d)).b, V (ofN (hv d)).c, V (ofN (hv d)).d] _ rfl (World.rangeAt_setCells_same _ _ 0 _ hthF) Tryd.underlying24 rfl (by kernel_rfl) rfl) rfl ⟨?_, by first | exact .inl ⟨rfl, rfl⟩ | exact rfl⟩
        exact setCellsR_bel HB3.out (Nat.le_refl _)
    · rw [decide_eq_false hn] at hsyn
      simp only [Bool.not_false] at hsyn
      subst hsyn
      rw [if_neg hn] at hF
      clear hn
      by_cases h1 : 1 < d.length
      · have p1 : (1 : Int) < (d.length : Int) := by omega
        by_cases h48 : c = 48
        · have p48 : ((c.toNat : Int) == 48) = true := by rw [h48]; rfl
          rw [if_pos ⟨h1, by rw [h48]⟩] at hF
          clear h48
          by_cases h64 : 64 < d.length
          · have p64 : (64 : Int) < (d.length : Int) := by omega
            rw [if_pos h64] at hF
            try simp only [List.append_nil, List.nil_append, List.singleton_append, List.cons_append] at hF
            subst hF
            go_wp2_with (at_builtin; refine wpList_append_own _ rfl _ _ 30 rfl (w.heap.size + 1) 3 i0 (.int .i64 0) 1 8 Tryd.underlying30 hi hz0 hz1 hz2 rfl (by decide) _ _ _ rfl (OWN2.out.alloc _) ⟨W2.heap.size, 0, none⟩ 1 1 [.int .i64 2] rfl rfl ?q5x1 ?q5x2 ?q5x3 ?q5x4 ?q5x5 ?_)
            try (case q5x1 => intro ii u hu; rcases ii with _ | ii; (simp at hu; subst hu; simp [Addr.add, go_sem]); (simp at hu))
            try (case q5x2 => first | rfl | (intro u hu; simp at hu; subst hu; rfl))
            try (case q5x3 => first | (unfold maxLen; omega) | (simp [maxLen]))
            try (case q5x4 => omega)
            try (case q5x5 => first | omega | (simp; omega))
            intro y1 X1 hown2 hgrow2 _
            have OW1 : Hid (X1.ownsRow (w.heap.size + 1) 3 1 y1 1 (ints [2])) := by
              show World.ownsRow _ _ _ _ _ _ _
              simpa [ints] using hown2
            have BB1 : Hid (Below (w.heap.size + 1) W2 X1) := by
              have HOO := OWN2.out
              exact ((Below.refl _ W2).alloc (by omega) _).grown hgrow2 (by simp; omega) (fun g hg => (HOO.lt g hg).1)
            have hX1 : w.heap.size + 1 ≤ X1.heap.size := by have := hgrow2.size; simp at this; omega
            clear hown2 hgrow2
            go_wp2_with (at_builtin; refine wpList_append_own _ rfl _ _ 30 rfl (w.heap.size + 1) 3 i0 (.int .i64 0) 1 8 Tryd.underlying30 hi hz0 hz1 hz2 rfl (by decide) _ _ _ rfl (OW1.out.alloc _) ⟨X1.heap.size, 0, none⟩ 1 1 [.int .i64 5] rfl rfl ?q6x1 ?q6x2 ?q6x3 ?q6x4 ?q6x5 ?_)
            try (case q6x1 => intro ii u hu; rcases ii with _ | ii; (simp at hu; subst hu; simp [Addr.add, go_sem]); (simp at hu))
            try (case q6x2 => first | rfl | (intro u hu; simp at hu; subst hu; rfl))
            try (case q6x3 => first | (unfold maxLen; omega) | (simp [maxLen]))
            try (case q6x4 => omega)
            try (case q6x5 => first | omega | (simp; omega))
            intro y2 X2 hown2 hgrow2 _
            have OW2 : Hid (X2.ownsRow (w.heap.size + 1) 3 1 y2 2 (ints [2, 5])) := by
              show World.ownsRow _ _ _ _ _ _ _
              simpa [ints] using hown2
            have BB2 : Hid (Below (w.heap.size + 1) W2 X2) := by
              have HOO := OW1.out
              exact (BB1.out.alloc (by omega) _).grown hgrow2 (by simp; omega) (fun g hg => (HOO.lt g hg).1)
            have hX2 : w.heap.size + 1 ≤ X2.heap.size := by have := hgrow2.size; simp at this; omega
            clear hown2 hgrow2
            go_wp2_with (at_builtin; refine wpList_append_own _ rfl _ _ 30 rfl (w.heap.size + 1) 3 i0 (.int .i64 0) 1 8 Tryd.underlying30 hi hz0 hz1 hz2 rfl (by decide) _ _ _ rfl (OW2.out.alloc _) ⟨X2.heap.size, 0, none⟩ 1 1 [.int .i64 6] rfl rfl ?q7x1 ?q7x2 ?q7x3 ?q7x4 ?q7x5 ?_)
            try (case q7x1 => intro ii u hu; rcases ii with _ | ii; (simp at hu; subst hu; simp [Addr.add, go_sem]); (simp at hu))
            try (case q7x2 => first | rfl | (intro u hu; simp at hu; subst hu; rfl))
            try (case q7x3 => first | (unfold maxLen; omega) | (simp [maxLen]))
            try (case q7x4 => omega)
            try (case q7x5 => first | omega | (simp; omega))
            intro y3 X3 hown2 hgrow2 _
            have OW3 : Hid (X3.ownsRow (w.heap.size + 1) 3 1 y3 3 (ints [2, 5, 6])) := by
              show World.ownsRow _ _ _ _ _ _ _
              simpa [ints] using hown2
            have BB3 : Hid (Below (w.heap.size + 1) W2 X3) := by
              have HOO := OW2.out
              exact (BB2.out.alloc (by omega) _).grown hgrow2 (by simp; omega) (fun g hg => (HOO.lt g hg).1)
            have hX3 : w.heap.size + 1 ≤ X3.heap.size := by have := hgrow2.size; simp at this; omega
            clear hown2 hgrow2
            have hthF := thereR_keep HTH2.out BB3.out (by omega)
            obtain ⟨AA, cc, hy, hcc, _⟩ := slOfR OW3.out
            simp only [List.length_cons, List.length_nil, Nat.zero_add, Nat.reduceAdd] at hy hcc
            subst hy
            go_wp2_with (show wpList _ _ _ (⟨none, Op.store 24 _ _, _, _, _, _⟩ :: _) _ _; refine wpList_store_mid (op := ⟨none, Op.store 24 (.tmp 2) (.tmp 72), _, _, _, _⟩) rfl 24 _ _ rfl w.heap.size 0 [V zeroR.a, V zeroR.b, V zeroR.c, V zeroR.d].toArray rfl rfl hthF (by kernel_rfl) (by simp [Value.oneCell']) ?_)
            go_wp2
            refine bodyPost_ret (v := .tuple #[zeroR.v, .slice AA 3 cc]) (resultsR_slot rfl _ _ w.heap.size [V zeroR.a, V zeroR.b, V zeroR.c, V zeroR.d] _ rfl (World.rangeAt_setCells_same _ _ 0 _ hthF) Tryd.underlying24 rfl (by kernel_rfl) rfl) rfl ⟨?_, by first | exact .inr ⟨by simp, _, rfl, slOfR (e := 3) (B := w.heap.size + 1) (ownR_set OW3.out (by omega))⟩ | exact ⟨_, rfl, slOfR (e := 3) (B := w.heap.size + 1) (ownR_set OW3.out (by omega))⟩⟩
            exact setCellsR_bel (BEL2.out.trans (BB3.out.mono (by omega))) (Nat.le_refl _)
          · have p64 : ¬ (64 : Int) < (d.length : Int) := by omega
            rw [if_neg h64] at hF
            try simp only [List.append_nil, List.nil_append, List.singleton_append, List.cons_append] at hF
            subst hF
            go_wp2_with (at_builtin; refine wpList_append_own _ rfl _ _ 30 rfl (w.heap.size + 1) 3 i0 (.int .i64 0) 1 8 Tryd.underlying30 hi hz0 hz1 hz2 rfl (by decide) _ _ _ rfl (OWN2.out.alloc _) ⟨W2.heap.size, 0, none⟩ 1 1 [.int .i64 2] rfl rfl ?q8x1 ?q8x2 ?q8x3 ?q8x4 ?q8x5 ?_)
            try (case q8x1 => intro ii u hu; rcases ii with _ | ii; (simp at hu; subst hu; simp [Addr.add, go_sem]); (simp at hu))
            try (case q8x2 => first | rfl | (intro u hu; simp at hu; subst hu; rfl))
            try (case q8x3 => first | (unfold maxLen; omega) | (simp [maxLen]))
            try (case q8x4 => omega)
            try (case q8x5 => first | omega | (simp; omega))
            intro y1 X1 hown2 hgrow2 _
            have OW1 : Hid (X1.ownsRow (w.heap.size + 1) 3 1 y1 1 (ints [2])) := by
              show World.ownsRow _ _ _ _ _ _ _
              simpa [ints] using hown2
            have BB1 : Hid (Below (w.heap.size + 1) W2 X1) := by
              have HOO := OWN2.out
              exact ((Below.refl _ W2).alloc (by omega) _).grown hgrow2 (by simp; omega) (fun g hg => (HOO.lt g hg).1)
            have hX1 : w.heap.size + 1 ≤ X1.heap.size := by have := hgrow2.size; simp at this; omega
            clear hown2 hgrow2
            go_wp2_with (at_builtin; refine wpList_append_own _ rfl _ _ 30 rfl (w.heap.size + 1) 3 i0 (.int .i64 0) 1 8 Tryd.underlying30 hi hz0 hz1 hz2 rfl (by decide) _ _ _ rfl (OW1.out.alloc _) ⟨X1.heap.size, 0, none⟩ 1 1 [.int .i64 5] rfl rfl ?q9x1 ?q9x2 ?q9x3 ?q9x4 ?q9x5 ?_)
            try (case q9x1 => intro ii u hu; rcases ii with _ | ii; (simp at hu; subst hu; simp [Addr.add, go_sem]); (simp at hu))
            try (case q9x2 => first | rfl | (intro u hu; simp at hu; subst hu; rfl))
            try (case q9x3 => first | (unfold maxLen; omega) | (simp [maxLen]))
            try (case q9x4 => omega)
            try (case q9x5 => first | omega | (simp; omega))
            intro y2 X2 hown2 hgrow2 _
            have OW2 : Hid (X2.ownsRow (w.heap.size + 1) 3 1 y2 2 (ints [2, 5])) := by
              show World.ownsRow _ _ _ _ _ _ _
              simpa [ints] using hown2
            have BB2 : Hid (Below (w.heap.size + 1) W2 X2) := by
              have HOO := OW1.out
              exact (BB1.out.alloc (by omega) _).grown hgrow2 (by simp; omega) (fun g hg => (HOO.lt g hg).1)
            have hX2 : w.heap.size + 1 ≤ X2.heap.size := by have := hgrow2.size; simp at this; omega
            clear hown2 hgrow2
            have hthF := thereR_keep HTH2.out BB2.out (by omega)
            obtain ⟨AA, cc, hy, hcc, _⟩ := slOfR OW2.out
            simp only [List.length_cons, List.length_nil, Nat.zero_add, Nat.reduceAdd] at hy hcc
            subst hy
            go_wp2_with (show wpList _ _ _ (⟨none, Op.store 24 _ _, _, _, _, _⟩ :: _) _ _; refine wpList_store_mid (op := ⟨none, Op.store 24 (.tmp 2) (.tmp 72), _, _, _, _⟩) rfl 24 _ _ rfl w.heap.size 0 [V zeroR.a, V zeroR.b, V zeroR.c, V zeroR.d].toArray rfl rfl hthF (by kernel_rfl) (by simp [Value.oneCell']) ?_)
            go_wp2
            refine bodyPost_ret (v := .tuple #[zeroR.v, .slice AA 2 cc]) (resultsR_slot rfl _ _ w.heap.size [V zeroR.a, V zeroR.b, V zeroR.c, V zeroR.d] _ rfl (World.rangeAt_setCells_same _ _ 0 _ hthF) Tryd.underlying24 rfl (by kernel_rfl) rfl) rfl ⟨?_, by first | exact .inr ⟨by simp, _, rfl, slOfR (e := 3) (B := w.heap.size + 1) (ownR_set OW2.out (by omega))⟩ | exact ⟨_, rfl, slOfR (e := 3) (B := w.heap.size + 1) (ownR_set OW2.out (by omega))⟩⟩
            exact setCellsR_bel (BEL2.out.trans (BB2.out.mono (by omega))) (Nat.le_refl _)
        · have p48 : ((c.toNat : Int) == 48) = false := by
            have : c.toNat ≠ 48 := fun e => h48 (UInt8.toNat.inj e)
            simp; omega
          rw [if_neg (fun h => h48 (by simpa using h.2))] at hF
          clear h48
          by_cases h64 : 64 < d.length
          · have p64 : (64 : Int) < (d.length : Int) := by omega
            rw [if_pos h64] at hF
            try simp only [List.append_nil, List.nil_append, List.singleton_append, List.cons_append] at hF
            subst hF
            go_wp2_with (at_builtin; refine wpList_append_own _ rfl _ _ 30 rfl (w.heap.size + 1) 3 i0 (.int .i64 0) 1 8 Tryd.underlying30 hi hz0 hz1 hz2 rfl (by decide) _ _ _ rfl (OWN2.out.alloc _) ⟨W2.heap.size, 0, none⟩ 1 1 [.int .i64 2] rfl rfl ?q10x1 ?q10x2 ?q10x3 ?q10x4 ?q10x5 ?_)
            try (case q10x1 => intro ii u hu; rcases ii with _ | ii; (simp at hu; subst hu; simp [Addr.add, go_sem]); (simp at hu))
            try (case q10x2 => first | rfl | (intro u hu; simp at hu; subst hu; rfl))
            try (case q10x3 => first | (unfold maxLen; omega) | (simp [maxLen]))
            try (case q10x4 => omega)
            try (case q10x5 => first | omega | (simp; omega))
            intro y1 X1 hown2 hgrow2 _
            have OW1 : Hid (X1.ownsRow (w.heap.size + 1) 3 1 y1 1 (ints [2])) := by
              show World.ownsRow _ _ _ _ _ _ _
              simpa [ints] using hown2
            have BB1 : Hid (Below (w.heap.size + 1) W2 X1) := by
              have HOO := OWN2.out
              exact ((Below.refl _ W2).alloc (by omega) _).grown hgrow2 (by simp; omega) (fun g hg => (HOO.lt g hg).1)
            have hX1 : w.heap.size + 1 ≤ X1.heap.size := by have := hgrow2.size; simp at this; omega
            clear hown2 hgrow2
            go_wp2_with (at_builtin; refine wpList_append_own _ rfl _ _ 30 rfl (w.heap.size + 1) 3 i0 (.int .i64 0) 1 8 Tryd.underlying30 hi hz0 hz1 hz2 rfl (by decide) _ _ _ rfl (OW1.out.alloc _) ⟨X1.heap.size, 0, none⟩ 1 1 [.int .i64 6] rfl rfl ?q11x1 ?q11x2 ?q11x3 ?q11x4 ?q11x5 ?_)
            try (case q11x1 => intro ii u hu; rcases ii with _ | ii; (simp at hu; subst hu; simp [Addr.add, go_sem]); (simp at hu))
            try (case q11x2 => first | rfl | (intro u hu; simp at hu; subst hu; rfl))
            try (case q11x3 => first | (unfold maxLen; omega) | (simp [maxLen]))
            try (case q11x4 => omega)
            try (case q11x5 => first | omega | (simp; omega))
            intro y2 X2 hown2 hgrow2 _
            have OW2 : Hid (X2.ownsRow (w.heap.size + 1) 3 1 y2 2 (ints [2, 6])) := by
              show World.ownsRow _ _ _ _ _ _ _
              simpa [ints] using hown2
            have BB2 : Hid (Below (w.heap.size + 1) W2 X2) := by
              have HOO := OW1.out
              exact (BB1.out.alloc (by omega) _).grown hgrow2 (by simp; omega) (fun g hg => (HOO.lt g hg).1)
            have hX2 : w.heap.size + 1 ≤ X2.heap.size := by have := hgrow2.size; simp at this; omega
            clear hown2 hgrow2
            have hthF := thereR_keep HTH2.out BB2.out (by omega)
            obtain ⟨AA, cc, hy, hcc, _⟩ := slOfR OW2.out
            simp only [List.length_cons, List.length_nil, Nat.zero_add, Nat.reduceAdd] at hy hcc
            subst hy
            go_wp2_with (show wpList _ _ _ (⟨none, Op.store 24 _ _, _, _, _, _⟩ :: _) _ _; refine wpList_store_mid (op := ⟨none, Op.store 24 (.tmp 2) (.tmp 72), _, _, _, _⟩) rfl 24 _ _ rfl w.heap.size 0 [V zeroR.a, V zeroR.b, V zeroR.c, V zeroR.d].toArray rfl rfl hthF (by kernel_rfl) (by simp [Value.oneCell']) ?_)
            go_wp2
            refine bodyPost_ret (v := .tuple #[zeroR.v, .slice AA 2 cc]) (resultsR_slot rfl _ _ w.heap.size [V zeroR.a, V zeroR.b, V zeroR.c, V zeroR.d] _ rfl (World.rangeAt_setCells_same _ _ 0 _ hthF) Tryd.underlying24 rfl (by kernel_rfl) rfl) rfl ⟨?_, by first | exact .inr ⟨by simp, _, rfl, slOfR (e := 3) (B := w.heap.size + 1) (ownR_set OW2.out (by omega))⟩ | exact ⟨_, rfl, slOfR (e := 3) (B := w.heap.size + 1) (ownR_set OW2.out (by omega))⟩⟩
            exact setCellsR_bel (BEL2.out.trans (BB2.out.mono (by omega))) (Nat.le_refl _)
          · have p64 : ¬ (64 : Int) < (d.length : Int) := by omega
            rw [if_neg h64] at hF
            try simp only [List.append_nil, List.nil_append, List.singleton_append, List.cons_append] at hF
            subst hF
            go_wp2_with (at_builtin; refine wpList_append_own _ rfl _ _ 30 rfl (w.heap.size + 1) 3 i0 (.int .i64 0) 1 8 Tryd.underlying30 hi hz0 hz1 hz2 rfl (by decide) _ _ _ rfl (OWN2.out.alloc _) ⟨W2.heap.size, 0, none⟩ 1 1 [.int .i64 2] rfl rfl ?q12x1 ?q12x2 ?q12x3 ?q12x4 ?q12x5 ?_)
            try (case q12x1 => intro ii u hu; rcases ii with _ | ii; (simp at hu; subst hu; simp [Addr.add, go_sem]); (simp at hu))
            try (case q12x2 => first | rfl | (intro u hu; simp at hu; subst hu; rfl))
            try (case q12x3 => first | (unfold maxLen; omega) | (simp [maxLen]))
            try (case q12x4 => omega)
            try (case q12x5 => first | omega | (simp; omega))
            intro y1 X1 hown2 hgrow2 _
            have OW1 : Hid (X1.ownsRow (w.heap.size + 1) 3 1 y1 1 (ints [2])) := by
              show World.ownsRow _ _ _ _ _ _ _
              simpa [ints] using hown2
            have BB1 : Hid (Below (w.heap.size + 1) W2 X1) := by
              have HOO := OWN2.out
              exact ((Below.refl _ W2).alloc (by omega) _).grown hgrow2 (by simp; omega) (fun g hg => (HOO.lt g hg).1)
            have hX1 : w.heap.size + 1 ≤ X1.heap.size := by have := hgrow2.size; simp at this; omega
            clear hown2 hgrow2
            have hthF := thereR_keep HTH2.out BB1.out (by omega)
            obtain ⟨AA, cc, hy, hcc, _⟩ := slOfR OW1.out
            simp only [List.length_cons, List.length_nil, Nat.zero_add, Nat.reduceAdd] at hy hcc
            subst hy
            go_wp2_with (show wpList _ _ _ (⟨none, Op.store 24 _ _, _, _, _, _⟩ :: _) _ _; refine wpList_store_mid (op := ⟨none, Op.store 24 (.tmp 2) (.tmp 72), _, _, _, _⟩) rfl 24 _ _ rfl w.heap.size 0 [V zeroR.a, V zeroR.b, V zeroR.c, V zeroR.d].toArray rfl rfl hthF (by kernel_rfl) (by simp [Value.oneCell']) ?_)
            go_wp2
            refine bodyPost_ret (v := .tuple #[zeroR.v, .slice AA 1 cc]) (resultsR_slot rfl _ _ w.heap.size [V zeroR.a, V zeroR.b, V zeroR.c, V zeroR.d] _ rfl (World.rangeAt_setCells_same _ _ 0 _ hthF) Tryd.underlying24 rfl (by kernel_rfl) rfl) rfl ⟨?_, by first | exact .inr ⟨by simp, _, rfl, slOfR (e := 3) (B := w.heap.size + 1) (ownR_set OW1.out (by omega))⟩ | exact ⟨_, rfl, slOfR (e := 3) (B := w.heap.size + 1) (ownR_set OW1.out (by omega))⟩⟩
            exact setCellsR_bel (BEL2.out.trans (BB1.out.mono (by omega))) (Nat.le_refl _)
      · have p1 : ¬ (1 : Int) < (d.length : Int) := by omega
        rw [if_neg (fun h => h1 h.1)] at hF
        rw [if_neg (by omega)] at hF
        have p64 : ¬ (64 : Int) < (d.length : Int) := by omega
        have h64 : ¬ 64 < d.length := by omega
        skip
        try simp only [List.append_nil, List.nil_append, List.singleton_append, List.cons_append] at hF
        subst hF
        go_wp2_with (at_builtin; refine wpList_append_own _ rfl _ _ 30 rfl (w.heap.size + 1) 3 i0 (.int .i64 0) 1 8 Tryd.underlying30 hi hz0 hz1 hz2 rfl (by decide) _ _ _ rfl (OWN2.out.alloc _) ⟨W2.heap.size, 0, none⟩ 1 1 [.int .i64 2] rfl rfl ?q13x1 ?q13x2 ?q13x3 ?q13x4 ?q13x5 ?_)
        try (case q13x1 => intro ii u hu; rcases ii with _ | ii; (simp at hu; subst hu; simp [Addr.add, go_sem]); (simp at hu))
        try (case q13x2 => first | rfl | (intro u hu; simp at hu; subst hu; rfl))
        try (case q13x3 => first | (unfold maxLen; omega) | (simp [maxLen]))
        try (case q13x4 => omega)
        try (case q13x5 => first | omega | (simp; omega))
        intro y1 X1 hown2 hgrow2 _
        have OW1 : Hid (X1.ownsRow (w.heap.size + 1) 3 1 y1 1 (ints [2])) := by
          show World.ownsRow _ _ _ _ _ _ _
          simpa [ints] using hown2
        have BB1 : Hid (Below (w.heap.size + 1) W2 X1) := by
          have HOO := OWN2.out
          exact ((Below.refl _ W2).alloc (by omega) _).grown hgrow2 (by simp; omega) (fun g hg => (HOO.lt g hg).1)
        have hX1 : w.heap.size + 1 ≤ X1.heap.size := by have := hgrow2.size; simp at this; omega
        clear hown2 hgrow2
        have hthF := thereR_keep HTH2.out BB1.out (by omega)
        obtain ⟨AA, cc, hy, hcc, _⟩ := slOfR OW1.out
        simp only [List.length_cons, List.length_nil, Nat.zero_add, Nat.reduceAdd] at hy hcc
        subst hy
        go_wp2_with (show wpList _ _ _ (⟨none, Op.store 24 _ _, _, _, _, _⟩ :: _) _ _; refine wpList_store_mid (op := ⟨none, Op.store 24 (.tmp 2) (.tmp 72), _, _, _, _⟩) rfl 24 _ _ rfl w.heap.size 0 [V zeroR.a, V zeroR.b, V zeroR.c, V zeroR.d].toArray rfl rfl hthF (by kernel_rfl) (by simp [Value.oneCell']) ?_)
        go_wp2
        refine bodyPost_ret (v := .tuple #[zeroR.v, .slice AA 1 cc]) (resultsR_slot rfl _ _ w.heap.size [V zeroR.a, V zeroR.b, V zeroR.c, V zeroR.d] _ rfl (World.rangeAt_setCells_same _ _ 0 _ hthF) Tryd.underlying24 rfl (by kernel_rfl) rfl) rfl ⟨?_, by first | exact .inr ⟨by simp, _, rfl, slOfR (e := 3) (B := w.heap.size + 1) (ownR_set OW1.out (by omega))⟩ | exact ⟨_, rfl, slOfR (e := 3) (B := w.heap.size + 1) (ownR_set OW1.out (by omega))⟩⟩
        exact setCellsR_bel (BEL2.out.trans (BB1.out.mono (by omega))) (Nat.le_refl _)
end Go.Proofs.YtfaocjcpnjmfiaaDoor

set_option linter.unusedVariables false
set_option linter.unusedSimpArgs false
namespace Go.Proofs.YtfaocjcpnjmfiaaDoor
open Go.RowKit
set_option maxHeartbeats 16000000 in
set_option maxRecDepth 20000 in
theorem ofHex_any (s : List UInt8) (w : World) (hmax : s.length ≤ 65536) : Calls Tryd.prog 22 #[.string ⟨s.toArray⟩] w fun e w' => Below w.heap.size w w' ∧
    ((specFaults s = [] ∧ e = .returned (.tuple #[(ofN (hv (s.drop 2))).v, .slice none 0 0])) ∨ (specFaults s ≠ [] ∧ ∃ v, e = .returned (.tuple #[zeroR.v, v]) ∧ Sl w' v (specFaults s))) := by
  have hth := thereR_z w
  have IP := Lib.hid (isPrefixed_any s)
  by_cases hs0 : s = []
  · subst hs0
    have q : ((⟨#[]⟩ : ByteArray) == ⟨#[]⟩) = true := by decide
    have hth2 : ((w.alloc Z4R).alloc (.cells #[.int .i64 1] 3)).there w.heap.size 0 4 := thereR_bel hth (by omega) (bel_alloc (bel_refl _) _)
    have hF : specFaults ([] : List UInt8) = [1] := by rfl
    have S1 : Hid (Sl ((((w.alloc Z4R).alloc (.cells #[.int .i64 1] 3))).setCells w.heap.size 0 [V zeroR.a, V zeroR.b, V zeroR.c, V zeroR.d]) (.slice (some ⟨w.heap.size + 1, 0, none⟩) 1 1) [1]) := by
      refine ⟨some ⟨w.heap.size + 1, 0, none⟩, 1, rfl, Nat.le_refl _, fun i d hd => ⟨_, _, rfl, ?_⟩⟩
      match i, hd with
      | 0, hd =>
        simp at hd
        subst hd
        exact oneFault w 1
      | i + 1, hd => simp at hd
    rw [hF]
    clear hF
    go_enter Tryd.func22, Tryd.ntmps22
    go_wp2_with (first | (show wpList _ _ _ (⟨none, Op.store 24 _ _, _, _, _, _⟩ :: _) _ _; refine wpList_store_mid (op := ⟨none, Op.store 24 (.tmp 2) (.tmp 12), _, _, _, _⟩) rfl 24 _ _ rfl w.heap.size 0 [V zeroR.a, V zeroR.b, V zeroR.c, V zeroR.d].toArray rfl rfl hth2 (by kernel_rfl) (by simp [Value.oneCell']) ?_))
    go_wp2
    refine bodyPost_ret (v := .tuple #[zeroR.v, .slice (some ⟨w.heap.size + 1, 0, none⟩) 1 1]) (resultsR_slot rfl _ _ w.heap.size [V zeroR.a, V zeroR.b, V zeroR.c, V zeroR.d] _ rfl (World.rangeAt_setCells_same _ _ 0 _ hth2) Tryd.underlying24 rfl (by kernel_rfl) rfl) rfl ⟨?_, by first | exact .inr ⟨by simp, _, rfl, S1.out⟩ | exact ⟨_, rfl, S1.out⟩⟩
    exact setCellsR_bel (bel_alloc (bel_alloc (bel_refl w) _) _) (Nat.le_refl _)
  · have q : s.isEmpty = false := by simp [hs0]
    by_cases hp : isPre s = false
    · rw [hp] at IP
      have hth2 : ((w.alloc Z4R).alloc (.cells #[.int .i64 3] 3)).there w.heap.size 0 4 := thereR_bel hth (by omega) (bel_alloc (bel_refl _) _)
      have hF : specFaults s = [3] := by unfold specFaults; rw [if_neg hs0, if_pos hp]
      have S1 : Hid (Sl ((((w.alloc Z4R).alloc (.cells #[.int .i64 3] 3))).setCells w.heap.size 0 [V zeroR.a, V zeroR.b, V zeroR.c, V zeroR.d]) (.slice (some ⟨w.heap.size + 1, 0, none⟩) 1 1) [3]) := by
        refine ⟨some ⟨w.heap.size + 1, 0, none⟩, 1, rfl, Nat.le_refl _, fun i d hd => ⟨_, _, rfl, ?_⟩⟩
        match i, hd with
        | 0, hd =>
        simp at hd
        subst hd
        exact oneFault w 3
        | i + 1, hd => simp at hd
      rw [hF]
      clear hF
      go_enter Tryd.func22, Tryd.ntmps22
      go_wp2_with (first | (go_at_call 21; refine (IP.out _).mono ?_; rintro e w1 ⟨rfl, hw1⟩; have hw1 := hw1.symm; subst hw1) | (show wpList _ _ _ (⟨none, Op.store 24 _ _, _, _, _, _⟩ :: _) _ _; refine wpList_store_mid (op := ⟨none, Op.store 24 (.tmp 2) (.tmp 17), _, _, _, _⟩) rfl 24 _ _ rfl w.heap.size 0 [V zeroR.a, V zeroR.b, V zeroR.c, V zeroR.d].toArray rfl rfl hth2 (by kernel_rfl) (by simp [Value.oneCell']) ?_))
      go_wp2
      refine bodyPost_ret (v := .tuple #[zeroR.v, .slice (some ⟨w.heap.size + 1, 0, none⟩) 1 1]) (resultsR_slot rfl _ _ w.heap.size [V zeroR.a, V zeroR.b, V zeroR.c, V zeroR.d] _ rfl (World.rangeAt_setCells_same _ _ 0 _ hth2) Tryd.underlying24 rfl (by kernel_rfl) rfl) rfl ⟨?_, by first | exact .inr ⟨by simp, _, rfl, S1.out⟩ | exact ⟨_, rfl, S1.out⟩⟩
      exact setCellsR_bel (bel_alloc (bel_alloc (bel_refl w) _) _) (Nat.le_refl _)
    · have hp' : isPre s = true := by simpa using hp
      rw [hp'] at IP
      exact ofHex_main s w hmax hs0 hp' IP
end Go.Proofs.YtfaocjcpnjmfiaaDoor

set_option linter.unusedVariables false
set_option linter.unusedSimpArgs false
namespace Go.Proofs.YtfaocjcpnjmfiaaDoor
open Go.RowKit
/-- The loops' bodies in a code, not those within them. -/
def loopsOD : Code → List Code
  | .loop c => [c]
  | .seq a b => loopsOD a ++ loopsOD b
  | .block _ c => loopsOD c
  | .scope c => loopsOD c
  | .cond _ a b => loopsOD a ++ loopsOD b
  | _ => []
noncomputable def odBody : Code := ((Tryd.f7.body.map loopsOD).getD []).headD .skip
/-- A region of a code by its number. -/
def regOD (n : Nat) : Code → Option Code
  | .region id ops dr => if id = n then some (.region id ops dr) else none
  | .loop c => regOD n c
  | .seq a b => (regOD n a).or (regOD n b)
  | .block _ c => regOD n c
  | .scope c => regOD n c
  | .cond _ a b => (regOD n a).or (regOD n b)
  | _ => none
noncomputable def odStep : Code := (regOD 10 odBody).getD .skip
theorem dgOneD (w : World) (n : Nat) (hn : n < 65536) : Dg (w.alloc (.cells #[.int .i64 (n : Int)] 3)) (.slice (some ⟨w.heap.size, 0, none⟩) 1 1) n 1 := by
  refine ⟨[n], ⟨some ⟨w.heap.size, 0, none⟩, 1, rfl, Nat.le_refl _, fun i d hd => ?_⟩, (fun d hd => by simp at hd; omega), by simp [val, vlow, dig], Nat.le_refl _⟩
  match i, hd with
  | 0, hd => simp at hd; subst hd; exact ⟨_, _, rfl, by simp [go_sem]⟩
  | i + 1, hd => simp at hd
theorem dgCell (w : World) (g k : Nat) (hk : k < 65536) (h : w.cell? ⟨g, 0, none⟩ = some (.int .i64 (k : Int))) : Dg w (.slice (some ⟨g, 0, none⟩) 1 1) k 1 := by
  refine ⟨[k], ⟨some ⟨g, 0, none⟩, 1, rfl, Nat.le_refl _, fun i d hd => ?_⟩, (fun d hd => by simp at hd; omega), by simp [val, vlow, dig], Nat.le_refl _⟩
  match i, hd with
  | 0, hd => simp at hd; subst hd; exact ⟨_, _, rfl, h⟩
  | i + 1, hd => simp at hd
set_option maxHeartbeats 4000000 in
set_option maxRecDepth 20000 in
theorem od_step (d : List UInt8) (g i n L v : Nat) (c : UInt8) (l : Value) (W : World) (Q : Exit → Act → World → Prop) (c1 c6 c7 c8 c9 c10 c11 c12 c13 c14 c15 c16 c46 c47 c48 c49 c50 c51 c52 c53 c54 c55 v17 v18 v19 v20 v21 v22 v23 v24 v25 v26 v27 v28 v29 v30 v31 v32 v33 v34 v35 v36 v37 v38 v39 v40 v41 v42 v43 v44 v45 : Value)
    (hdg : Dg W l n L) (hL : L ≤ 200000) (hi : d[i]? = some c) (hc1 : 48 ≤ c.toNat) (hc2 : c.toNat ≤ 57) (hv : v = c.toNat - 48)
    (HN : Hid (∀ (l2 : Value) (W' : World) (u17 u18 u19 u20 u21 u22 u23 u24 u25 u26 u27 u28 u29 u30 u31 u32 u33 u34 u35 u36 u37 u38 u39 u40 u41 u42 u43 u44 u45 : Value), Dg W' l2 (n * 10 + v) (L + 3) → Below W.heap.size W W' → Q .normal ⟨List.toArray (.string ⟨d.toArray⟩ :: c1 :: .pointer (some ⟨g, 0, none⟩) :: .bool false :: l2 :: .int .i64 (i : Int) :: c6 :: c7 :: c8 :: c9 :: c10 :: c11 :: c12 :: c13 :: c14 :: c15 :: c16 :: u17 :: u18 :: u19 :: u20 :: u21 :: u22 :: u23 :: u24 :: u25 :: u26 :: u27 :: u28 :: u29 :: u30 :: u31 :: u32 :: u33 :: u34 :: u35 :: u36 :: u37 :: u38 :: u39 :: u40 :: u41 :: u42 :: u43 :: u44 :: u45 :: c46 :: c47 :: c48 :: c49 :: c50 :: c51 :: c52 :: c53 :: c54 :: c55 :: []), []⟩ W')) :
    Code.wp Tryd.prog odStep Q ⟨List.toArray (.string ⟨d.toArray⟩ :: c1 :: .pointer (some ⟨g, 0, none⟩) :: .bool false :: l :: .int .i64 (i : Int) :: c6 :: c7 :: c8 :: c9 :: c10 :: c11 :: c12 :: c13 :: c14 :: c15 :: c16 :: v17 :: v18 :: v19 :: v20 :: v21 :: v22 :: v23 :: v24 :: v25 :: v26 :: v27 :: v28 :: v29 :: v30 :: v31 :: v32 :: v33 :: v34 :: v35 :: v36 :: v37 :: v38 :: v39 :: v40 :: v41 :: v42 :: v43 :: v44 :: v45 :: c46 :: c47 :: c48 :: c49 :: c50 :: c51 :: c52 :: c53 :: c54 :: c55 :: []), []⟩ W := by
  have hgd : ∀ h, (⟨d.toArray⟩ : ByteArray)[i]'h = c := fun h => by
    show (d.toArray[i]'h) = c
    rw [List.getElem_toArray]
    exact (List.getElem?_eq_some_iff.1 hi).2
  have hil : (i : Int) < (d.length : Int) := by have := (List.getElem?_eq_some_iff.1 hi).1; omega
  have a3 : IntKind.u8.wrap ((c.toNat : Int) - 48) = (v : Int) := by simp [IntKind.wrap, IntKind.bits, IntKind.signed]; omega
  have a4 : IntKind.i64.wrap (v : Int) = (v : Int) := IntWalk.i64_in _ (by omega)
  have HD := Lib.hid hdg
  have hv9 : Hid (v ≤ 9) := by show v ≤ 9; omega
  clear hdg hi hv hc1 hc2
  conv => arg 2; whnf
  refine wp_region_noPanic ?_
  go_region_with (first
    | (go_at_call 17; refine (times_dg _ _ n 10 L 1 _ (HD.out.bel (by repeat (first | exact bel_refl _ | refine bel_drew ?_ | refine bel_alloc ?_ _))) (dgCell _ _ 10 (by omega) (by simp [go_sem])) (by omega) (by omega)).mono ?_; rintro e w2 ⟨v2, rfl, dg2, hb2⟩; have DG2 := Lib.hid dg2; have HR2 := Lib.hid hb2; have HB2 := Lib.hid (bel_trans (show Below W.heap.size W _ by repeat (first | exact bel_refl _ | refine bel_drew ?_ | refine bel_alloc ?_ _)) hb2); clear dg2 hb2)
    | (go_at_call 16; refine (plus_big _ _ (n * 10) v (L + 1 + 1) 1 _ (DG2.out.bel (by repeat (first | exact bel_refl _ | refine bel_drew ?_ | refine bel_alloc ?_ _))) (by first | exact dgCell _ _ v (by have := hv9.out; omega) (by simp [go_sem]) | exact (dgCell _ _ v (by have := hv9.out; omega) (by simp [go_sem])).bel HR2.out) (by omega) (by omega)).mono ?_; rintro e w3 ⟨v3, rfl, dg3, hb3⟩; have DG3 := Lib.hid dg3; have HB3 := Lib.hid (bel_trans HB2.out (bel_trans (by repeat (first | exact bel_refl _ | refine bel_drew ?_ | refine bel_alloc ?_ _)) hb3)); clear dg3 hb3))
  all_goals refine NoPanic.normal ?_
  all_goals exact HN.out _ _ _ _ _ _ _ _ _ _ _ _ _ _ _ _ _ _ _ _ _ _ _ _ _ _ _ _ _ _ _ (DG3.out.le (by omega)) HB3.out
theorem takeD_snoc (d : List UInt8) (i : Nat) (c : UInt8) (h : d[i]? = some c) : d.take (i + 1) = d.take i ++ [c] := by rw [List.take_add_one, h]; rfl
/-- What holds at the loop's head: i digits are read. -/
structure OdS (w0 : World) (d : List UInt8) (i : Nat) (l : Value) (W : World) : Prop where
  ile : i ≤ d.length
  decs : Decs (d.take i)
  dg : ∃ n, Dg W l n (3 * i) ∧ ((n < 2 ^ 256 ∧ n = dv (d.take i)) ∨ (¬ n < 2 ^ 256 ∧ ¬ dv (d.take i) < 2 ^ 256))
  bel : Below w0.heap.size w0 W
theorem OdS.step {w0 W W' : World} {d : List UInt8} {i n v : Nat} {l l2 : Value} {c : UInt8} (h : OdS w0 d i l W) (hi : d[i]? = some c) (hc1 : 48 ≤ c.toNat) (hc2 : c.toNat ≤ 57) (hv : v = c.toNat - 48) (hn : n = dv (d.take i)) (hd : Dg W' l2 (n * 10 + v) (3 * i + 3)) (hb : Below W.heap.size W W') : OdS w0 d (i + 1) l2 W' := by
  have hlt := (List.getElem?_eq_some_iff.1 hi).1
  have e : dv (d.take (i + 1)) = n * 10 + v := by rw [takeD_snoc d i c hi, dv_snoc, hn, hv, Nat.mul_comm]
  refine ⟨by omega, ?_, ⟨n * 10 + v, hd.le (by omega), ?_⟩, bel_trans h.bel hb⟩
  · rw [takeD_snoc d i c hi, decs_append]
    refine ⟨h.decs, fun x hx => ?_⟩
    simp at hx
    subst hx
    exact ⟨hc1, hc2⟩
  · rw [e]
    by_cases k : n * 10 + v < 2 ^ 256
    · exact .inl ⟨k, rfl⟩
    · exact .inr ⟨k, k⟩
theorem OdS.skip {w0 W : World} {d : List UInt8} {i n : Nat} {l : Value} {c : UInt8} (h : OdS w0 d i l W) (hi : d[i]? = some c) (hc1 : 48 ≤ c.toNat) (hc2 : c.toNat ≤ 57) (hd : Dg W l n (3 * i)) (hn : ¬ n < 2 ^ 256) (hd2 : ¬ dv (d.take i) < 2 ^ 256) : OdS w0 d (i + 1) l W := by
  have hlt := (List.getElem?_eq_some_iff.1 hi).1
  refine ⟨by omega, ?_, ⟨n, hd.le (by omega), .inr ⟨hn, ?_⟩⟩, h.bel⟩
  · rw [takeD_snoc d i c hi, decs_append]
    refine ⟨h.decs, fun x hx => ?_⟩
    simp at hx
    subst hx
    exact ⟨hc1, hc2⟩
  · rw [takeD_snoc d i c hi]
    have := dv_mono (d.take i) [c]
    omega
set_option maxHeartbeats 4000000 in
set_option maxRecDepth 20000 in
theorem od_round (w0 : World) (d : List UInt8) (g i : Nat) (l : Value) (W : World) (Q : Exit → Act → World → Prop) (c1 c6 c7 c8 c9 c10 c11 c12 c13 c14 c15 c16 c46 c47 c48 c49 c50 c51 c52 c53 c54 c55 v17 v18 v19 v20 v21 v22 v23 v24 v25 v26 v27 v28 v29 v30 v31 v32 v33 v34 v35 v36 v37 v38 v39 v40 v41 v42 v43 v44 v45 : Value)
    (H : OdS w0 d i l W) (hmax : d.length ≤ 65536) (hth : w0.there g 0 4)
    (HN : Hid (∀ (l : Value) (I : Int) (W' : World) (u17 u18 u19 u20 u21 u22 u23 u24 u25 u26 u27 u28 u29 u30 u31 u32 u33 u34 u35 u36 u37 u38 u39 u40 u41 u42 u43 u44 u45 : Value), i < d.length → I = ((i + 1 : Nat) : Int) → OdS w0 d (i + 1) l W' → Q .normal ⟨List.toArray (.string ⟨d.toArray⟩ :: c1 :: .pointer (some ⟨g, 0, none⟩) :: .bool false :: l :: .int .i64 I :: c6 :: c7 :: c8 :: c9 :: c10 :: c11 :: c12 :: c13 :: c14 :: c15 :: c16 :: u17 :: u18 :: u19 :: u20 :: u21 :: u22 :: u23 :: u24 :: u25 :: u26 :: u27 :: u28 :: u29 :: u30 :: u31 :: u32 :: u33 :: u34 :: u35 :: u36 :: u37 :: u38 :: u39 :: u40 :: u41 :: u42 :: u43 :: u44 :: u45 :: c46 :: c47 :: c48 :: c49 :: c50 :: c51 :: c52 :: c53 :: c54 :: c55 :: []), []⟩ W'))
    (HB : Hid (∀ (I : Int) (W' : World) (u17 u18 u19 u20 u21 u22 u23 u24 u25 u26 u27 u28 u29 u30 u31 u32 u33 u34 u35 u36 u37 u38 u39 u40 u41 u42 u43 u44 u45 : Value), ¬ Decs d → Below w0.heap.size w0 W' → Q .ret ⟨List.toArray (.string ⟨d.toArray⟩ :: c1 :: .pointer (some ⟨g, 0, none⟩) :: .bool false :: l :: .int .i64 I :: c6 :: c7 :: c8 :: c9 :: c10 :: c11 :: c12 :: c13 :: c14 :: c15 :: c16 :: u17 :: u18 :: u19 :: u20 :: u21 :: u22 :: u23 :: u24 :: u25 :: u26 :: u27 :: u28 :: u29 :: u30 :: u31 :: u32 :: u33 :: u34 :: u35 :: u36 :: u37 :: u38 :: u39 :: u40 :: u41 :: u42 :: u43 :: u44 :: u45 :: c46 :: c47 :: c48 :: c49 :: c50 :: c51 :: c52 :: c53 :: c54 :: c55 :: []), []⟩ (W'.setCells g 0 [V zeroR.a, V zeroR.b, V zeroR.c, V zeroR.d])))
    (HX : Hid (∀ (I : Int) (W' : World) (u17 u18 u19 u20 u21 u22 u23 u24 u25 u26 u27 u28 u29 u30 u31 u32 u33 u34 u35 u36 u37 u38 u39 u40 u41 u42 u43 u44 u45 : Value), i = d.length → OdS w0 d i l W' → Q (.exit 0) ⟨List.toArray (.string ⟨d.toArray⟩ :: c1 :: .pointer (some ⟨g, 0, none⟩) :: .bool false :: l :: .int .i64 I :: c6 :: c7 :: c8 :: c9 :: c10 :: c11 :: c12 :: c13 :: c14 :: c15 :: c16 :: u17 :: u18 :: u19 :: u20 :: u21 :: u22 :: u23 :: u24 :: u25 :: u26 :: u27 :: u28 :: u29 :: u30 :: u31 :: u32 :: u33 :: u34 :: u35 :: u36 :: u37 :: u38 :: u39 :: u40 :: u41 :: u42 :: u43 :: u44 :: u45 :: c46 :: c47 :: c48 :: c49 :: c50 :: c51 :: c52 :: c53 :: c54 :: c55 :: []), []⟩ W')) :
    Code.wp Tryd.prog odBody Q ⟨List.toArray (.string ⟨d.toArray⟩ :: c1 :: .pointer (some ⟨g, 0, none⟩) :: .bool false :: l :: .int .i64 (i : Int) :: c6 :: c7 :: c8 :: c9 :: c10 :: c11 :: c12 :: c13 :: c14 :: c15 :: c16 :: v17 :: v18 :: v19 :: v20 :: v21 :: v22 :: v23 :: v24 :: v25 :: v26 :: v27 :: v28 :: v29 :: v30 :: v31 :: v32 :: v33 :: v34 :: v35 :: v36 :: v37 :: v38 :: v39 :: v40 :: v41 :: v42 :: v43 :: v44 :: v45 :: c46 :: c47 :: c48 :: c49 :: c50 :: c51 :: c52 :: c53 :: c54 :: c55 :: []), []⟩ W := by
  rcases Nat.eq_or_lt_of_le H.ile with h0 | h0
  · have HH := Lib.hid H
    have HT := Lib.hid hth
    have hni : ¬ (i : Int) < (d.length : Int) := by omega
    clear H hth
    conv => arg 2; whnf
    go_wp2
    exact HX.out _ _ _ _ _ _ _ _ _ _ _ _ _ _ _ _ _ _ _ _ _ _ _ _ _ _ _ _ _ _ _ h0 HH.out
  · obtain ⟨c, hc⟩ : ∃ c, d[i]? = some c := ⟨_, List.getElem?_eq_getElem h0⟩
    have hgd : ∀ h, (⟨d.toArray⟩ : ByteArray)[i]'h = c := by
      intro h
      show (d.toArray[i]'h) = c
      rw [List.getElem_toArray]
      exact (List.getElem?_eq_some_iff.1 hc).2
    have hil : (i : Int) < (d.length : Int) := by omega
    have HLT := Lib.hid h0
    have HC := Lib.hid hc
    have hth2 := thereR_bel hth (by omega) H.bel
    have HH := Lib.hid H
    have hmem : c ∈ d := List.mem_of_getElem? hc
    clear H hth hc h0
    by_cases h1 : 48 ≤ c.toNat
    · have h1i : ¬ (c.toNat : Int) < 48 := by omega
      by_cases h2 : c.toNat ≤ 57
      · have h2i : ¬ (57 : Int) < (c.toNat : Int) := by omega
        obtain ⟨n, hdg, hn⟩ := HH.out.dg
        have HDG := Lib.hid hdg
        have FI := Lib.hid (fits_big l n _ W hdg (by omega))
        have HC1 := Lib.hid h1
        have HC2 := Lib.hid h2
        clear hdg h1 h2 hth2 hmem
        rcases hn with ⟨hn1, hn2⟩ | ⟨hn1, hn2⟩
        · rw [decide_eq_true hn1] at FI
          have HNE := Lib.hid hn2
          clear hn1 hn2
          conv => arg 2; whnf
          go_upto_region 10 with (go_at_call 15; refine FI.out.mono ?_; rintro e w1 ⟨rfl, hw1⟩; subst hw1)
          refine od_step d g i n _ _ c l W _ _ _ _ _ _ _ _ _ _ _ _ _ _ _ _ _ _ _ _ _ _ _ _ _ _ _ _ _ _ _ _ _ _ _ _ _ _ _ _ _ _ _ _ _ _ _ _ _ _ _ _ HDG.out (by omega) HC.out HC1.out HC2.out rfl ?_
          show ∀ _, _
          intro l2 W2 u17 u18 u19 u20 u21 u22 u23 u24 u25 u26 u27 u28 u29 u30 u31 u32 u33 u34 u35 u36 u37 u38 u39 u40 u41 u42 u43 u44 u45 hd2 hb2
          have HS := Lib.hid (HH.out.step HC.out HC1.out HC2.out rfl HNE.out hd2 hb2)
          clear hd2 hb2
          go_wp2
          exact HN.out _ _ _ _ _ _ _ _ _ _ _ _ _ _ _ _ _ _ _ _ _ _ _ _ _ _ _ _ _ _ _ _ HLT.out (by omega) HS.out
        · rw [decide_eq_false hn1] at FI
          have HS := Lib.hid (HH.out.skip HC.out HC1.out HC2.out HDG.out hn1 hn2)
          clear hn1 hn2
          conv => arg 2; whnf
          go_wp2_with (go_at_call 15; refine FI.out.mono ?_; rintro e w1 ⟨rfl, hw1⟩; subst hw1)
          exact HN.out _ _ _ _ _ _ _ _ _ _ _ _ _ _ _ _ _ _ _ _ _ _ _ _ _ _ _ _ _ _ _ _ HLT.out (by omega) HS.out
      · have h2i : (57 : Int) < (c.toNat : Int) := by omega
        have HND : Hid (¬ Decs d) := fun k => h2 (k c hmem).2
        clear hmem h1 h2
        conv => arg 2; whnf
        go_wp2_with (show wpList _ _ _ (⟨none, Op.store 24 _ _, _, _, _, _⟩ :: _) _ _; refine wpList_store_mid (op := ⟨none, Op.store 24 (.tmp 2) (.tmp 33), _, _, _, _⟩) rfl 24 _ _ rfl g 0 [V zeroR.a, V zeroR.b, V zeroR.c, V zeroR.d].toArray rfl rfl hth2 (by kernel_rfl) (by simp [Value.oneCell']) ?_)
        exact HB.out _ _ _ _ _ _ _ _ _ _ _ _ _ _ _ _ _ _ _ _ _ _ _ _ _ _ _ _ _ _ _ HND.out HH.out.bel
    · have h1i : (c.toNat : Int) < 48 := by omega
      have HND : Hid (¬ Decs d) := fun k => h1 (k c hmem).1
      clear hmem h1
      conv => arg 2; whnf
      go_wp2_with (show wpList _ _ _ (⟨none, Op.store 24 _ _, _, _, _, _⟩ :: _) _ _; refine wpList_store_mid (op := ⟨none, Op.store 24 (.tmp 2) (.tmp 33), _, _, _, _⟩) rfl 24 _ _ rfl g 0 [V zeroR.a, V zeroR.b, V zeroR.c, V zeroR.d].toArray rfl rfl hth2 (by kernel_rfl) (by simp [Value.oneCell']) ?_)
      exact HB.out _ _ _ _ _ _ _ _ _ _ _ _ _ _ _ _ _ _ _ _ _ _ _ _ _ _ _ _ _ _ _ HND.out HH.out.bel
/-- The loop. -/
def OdI (w0 : World) (d : List UInt8) (g : Nat) (c1 c6 c7 c8 c9 c10 c11 c12 c13 c14 c15 c16 c46 c47 c48 c49 c50 c51 c52 c53 c54 c55 : Value) (a : Act) (W : World) : Prop :=
  ∃ (u17 u18 u19 u20 u21 u22 u23 u24 u25 u26 u27 u28 u29 u30 u31 u32 u33 u34 u35 u36 u37 u38 u39 u40 u41 u42 u43 u44 u45 : Value), ∃ (i : Nat) (l : Value) (I : Int), I = (i : Int) ∧ OdS w0 d i l W ∧ a = ⟨List.toArray (.string ⟨d.toArray⟩ :: c1 :: .pointer (some ⟨g, 0, none⟩) :: .bool false :: l :: .int .i64 I :: c6 :: c7 :: c8 :: c9 :: c10 :: c11 :: c12 :: c13 :: c14 :: c15 :: c16 :: u17 :: u18 :: u19 :: u20 :: u21 :: u22 :: u23 :: u24 :: u25 :: u26 :: u27 :: u28 :: u29 :: u30 :: u31 :: u32 :: u33 :: u34 :: u35 :: u36 :: u37 :: u38 :: u39 :: u40 :: u41 :: u42 :: u43 :: u44 :: u45 :: c46 :: c47 :: c48 :: c49 :: c50 :: c51 :: c52 :: c53 :: c54 :: c55 :: []), []⟩
def muOd (n : Nat) (a : Act) (_ : World) : Nat := ((n : Int) - RowKit.intOf (a.tmps[5]?.getD undef)).toNat
set_option maxHeartbeats 4000000 in
set_option maxRecDepth 20000 in
theorem od_loop (w0 : World) (d : List UInt8) (g i : Nat) (l : Value) (I : Int) (W : World) (Q : Exit → Act → World → Prop) (c1 c6 c7 c8 c9 c10 c11 c12 c13 c14 c15 c16 c46 c47 c48 c49 c50 c51 c52 c53 c54 c55 v17 v18 v19 v20 v21 v22 v23 v24 v25 v26 v27 v28 v29 v30 v31 v32 v33 v34 v35 v36 v37 v38 v39 v40 v41 v42 v43 v44 v45 : Value)
    (H : OdS w0 d i l W) (hI : I = (i : Int)) (hmax : d.length ≤ 65536) (hth : w0.there g 0 4)
    (HB : Hid (∀ (l : Value) (I : Int) (W' : World) (u17 u18 u19 u20 u21 u22 u23 u24 u25 u26 u27 u28 u29 u30 u31 u32 u33 u34 u35 u36 u37 u38 u39 u40 u41 u42 u43 u44 u45 : Value), ¬ Decs d → Below w0.heap.size w0 W' → Q .ret ⟨List.toArray (.string ⟨d.toArray⟩ :: c1 :: .pointer (some ⟨g, 0, none⟩) :: .bool false :: l :: .int .i64 I :: c6 :: c7 :: c8 :: c9 :: c10 :: c11 :: c12 :: c13 :: c14 :: c15 :: c16 :: u17 :: u18 :: u19 :: u20 :: u21 :: u22 :: u23 :: u24 :: u25 :: u26 :: u27 :: u28 :: u29 :: u30 :: u31 :: u32 :: u33 :: u34 :: u35 :: u36 :: u37 :: u38 :: u39 :: u40 :: u41 :: u42 :: u43 :: u44 :: u45 :: c46 :: c47 :: c48 :: c49 :: c50 :: c51 :: c52 :: c53 :: c54 :: c55 :: []), []⟩ (W'.setCells g 0 [V zeroR.a, V zeroR.b, V zeroR.c, V zeroR.d])))
    (HX : Hid (∀ (l : Value) (I : Int) (W' : World) (u17 u18 u19 u20 u21 u22 u23 u24 u25 u26 u27 u28 u29 u30 u31 u32 u33 u34 u35 u36 u37 u38 u39 u40 u41 u42 u43 u44 u45 : Value), OdS w0 d d.length l W' → Q (.exit 0) ⟨List.toArray (.string ⟨d.toArray⟩ :: c1 :: .pointer (some ⟨g, 0, none⟩) :: .bool false :: l :: .int .i64 I :: c6 :: c7 :: c8 :: c9 :: c10 :: c11 :: c12 :: c13 :: c14 :: c15 :: c16 :: u17 :: u18 :: u19 :: u20 :: u21 :: u22 :: u23 :: u24 :: u25 :: u26 :: u27 :: u28 :: u29 :: u30 :: u31 :: u32 :: u33 :: u34 :: u35 :: u36 :: u37 :: u38 :: u39 :: u40 :: u41 :: u42 :: u43 :: u44 :: u45 :: c46 :: c47 :: c48 :: c49 :: c50 :: c51 :: c52 :: c53 :: c54 :: c55 :: []), []⟩ W')) :
    Code.wp Tryd.prog (.loop odBody) Q ⟨List.toArray (.string ⟨d.toArray⟩ :: c1 :: .pointer (some ⟨g, 0, none⟩) :: .bool false :: l :: .int .i64 I :: c6 :: c7 :: c8 :: c9 :: c10 :: c11 :: c12 :: c13 :: c14 :: c15 :: c16 :: v17 :: v18 :: v19 :: v20 :: v21 :: v22 :: v23 :: v24 :: v25 :: v26 :: v27 :: v28 :: v29 :: v30 :: v31 :: v32 :: v33 :: v34 :: v35 :: v36 :: v37 :: v38 :: v39 :: v40 :: v41 :: v42 :: v43 :: v44 :: v45 :: c46 :: c47 :: c48 :: c49 :: c50 :: c51 :: c52 :: c53 :: c54 :: c55 :: []), []⟩ W := by
  refine wp_loop (OdI w0 d g c1 c6 c7 c8 c9 c10 c11 c12 c13 c14 c15 c16 c46 c47 c48 c49 c50 c51 c52 c53 c54 c55) (muOd d.length) ?_ ?_
  · exact ⟨v17, v18, v19, v20, v21, v22, v23, v24, v25, v26, v27, v28, v29, v30, v31, v32, v33, v34, v35, v36, v37, v38, v39, v40, v41, v42, v43, v44, v45, i, l, I, hI, H, rfl⟩
  · intro A W1 hI
    obtain ⟨u17, hI⟩ := hI
    obtain ⟨u18, hI⟩ := hI
    obtain ⟨u19, hI⟩ := hI
    obtain ⟨u20, hI⟩ := hI
    obtain ⟨u21, hI⟩ := hI
    obtain ⟨u22, hI⟩ := hI
    obtain ⟨u23, hI⟩ := hI
    obtain ⟨u24, hI⟩ := hI
    obtain ⟨u25, hI⟩ := hI
    obtain ⟨u26, hI⟩ := hI
    obtain ⟨u27, hI⟩ := hI
    obtain ⟨u28, hI⟩ := hI
    obtain ⟨u29, hI⟩ := hI
    obtain ⟨u30, hI⟩ := hI
    obtain ⟨u31, hI⟩ := hI
    obtain ⟨u32, hI⟩ := hI
    obtain ⟨u33, hI⟩ := hI
    obtain ⟨u34, hI⟩ := hI
    obtain ⟨u35, hI⟩ := hI
    obtain ⟨u36, hI⟩ := hI
    obtain ⟨u37, hI⟩ := hI
    obtain ⟨u38, hI⟩ := hI
    obtain ⟨u39, hI⟩ := hI
    obtain ⟨u40, hI⟩ := hI
    obtain ⟨u41, hI⟩ := hI
    obtain ⟨u42, hI⟩ := hI
    obtain ⟨u43, hI⟩ := hI
    obtain ⟨u44, hI⟩ := hI
    obtain ⟨u45, hI⟩ := hI
    obtain ⟨i, l, I, rfl, H, rfl⟩ := hI
    refine od_round w0 d g i l W1 _ c1 c6 c7 c8 c9 c10 c11 c12 c13 c14 c15 c16 c46 c47 c48 c49 c50 c51 c52 c53 c54 c55 _ _ _ _ _ _ _ _ _ _ _ _ _ _ _ _ _ _ _ _ _ _ _ _ _ _ _ _ _ H hmax hth ?_ ?_ ?_
    · show ∀ _, _
      intro l2 I2 W2 u17 u18 u19 u20 u21 u22 u23 u24 u25 u26 u27 u28 u29 u30 u31 u32 u33 u34 u35 u36 u37 u38 u39 u40 u41 u42 u43 u44 u45 hlt hI2 HW
      refine ⟨⟨u17, u18, u19, u20, u21, u22, u23, u24, u25, u26, u27, u28, u29, u30, u31, u32, u33, u34, u35, u36, u37, u38, u39, u40, u41, u42, u43, u44, u45, i + 1, l2, I2, hI2, HW, rfl⟩, ?_⟩
      show ((d.length : Int) - RowKit.intOf (.int .i64 I2)).toNat < ((d.length : Int) - RowKit.intOf (.int .i64 (i : Int))).toNat
      simp only [RowKit.intOf]
      omega
    · show ∀ _, _
      intro I2 W2 u17 u18 u19 u20 u21 u22 u23 u24 u25 u26 u27 u28 u29 u30 u31 u32 u33 u34 u35 u36 u37 u38 u39 u40 u41 u42 u43 u44 u45 hnd hb
      exact HB.out _ _ _ u17 u18 u19 u20 u21 u22 u23 u24 u25 u26 u27 u28 u29 u30 u31 u32 u33 u34 u35 u36 u37 u38 u39 u40 u41 u42 u43 u44 u45 hnd hb
    · show ∀ _, _
      intro I2 W2 u17 u18 u19 u20 u21 u22 u23 u24 u25 u26 u27 u28 u29 u30 u31 u32 u33 u34 u35 u36 u37 u38 u39 u40 u41 u42 u43 u44 u45 hi HW
      rw [hi] at HW
      exact HX.out _ _ _ u17 u18 u19 u20 u21 u22 u23 u24 u25 u26 u27 u28 u29 u30 u31 u32 u33 u34 u35 u36 u37 u38 u39 u40 u41 u42 u43 u44 u45 HW
end Go.Proofs.YtfaocjcpnjmfiaaDoor

set_option linter.unusedVariables false
set_option linter.unusedSimpArgs false
namespace Go.Proofs.YtfaocjcpnjmfiaaDoor
open Go.RowKit
theorem od_get (u : List UInt8) (p : Nat) (h : p < (⟨u.toArray⟩ : ByteArray).size) : u[p]? = some ((⟨u.toArray⟩ : ByteArray)[p]'h) := by
  show u[p]? = some (u.toArray[p]'h)
  rw [List.getElem_toArray]
  exact List.getElem?_eq_getElem _
set_option maxHeartbeats 16000000 in
set_option maxRecDepth 20000 in
theorem ofDecimal_any (s : List UInt8) (w : World) (hmax : s.length ≤ 65536) : Calls Tryd.prog 7 #[.string ⟨s.toArray⟩] w fun e w' => Below w.heap.size w w' ∧
    ((DecOk s ∧ e = .returned (.tuple #[(ofN (dv (unplus s))).v, .bool true])) ∨ (¬ DecOk s ∧ e = .returned (.tuple #[zeroR.v, .bool false]))) := by
  have hth := thereR_z w
  rcases hs0 : s[0]? with _ | c0
  · obtain rfl : s = [] := by
      rcases s with _ | ⟨x, s⟩
      · rfl
      · cases hs0
    have HU : Hid (unplus ([] : List UInt8) = []) := by show _ = _; rfl
    have hul : ([] : List UInt8).length ≤ 65536 := by simp
    clear hs0
    go_enter Tryd.func7, Tryd.ntmps7
    go_wp2_with fail
    have OS : Hid (OdS (((w.alloc Z4R).alloc (.cells #[] 3))) [] 0 (.slice (some ⟨w.heap.size + 1, 0, none⟩) 0 0) (((w.alloc Z4R).alloc (.cells #[] 3)))) := by
      refine ⟨Nat.zero_le _, (fun c hc => by simp at hc), ⟨0, ⟨[], ⟨some ⟨w.heap.size + 1, 0, none⟩, 0, rfl, Nat.le_refl _, fun i d hd => by simp at hd⟩, (fun d hd => by simp at hd), rfl, Nat.zero_le _⟩, .inl ⟨Nat.two_pow_pos 256, by rw [List.take_zero, dv_nil]⟩⟩, bel_refl _⟩
    have hth1 : ((((w.alloc Z4R).alloc (.cells #[] 3)))).there w.heap.size 0 4 := thereR_bel hth (by omega) (bel_alloc (bel_refl _) _)
    have bel1 : Below w.heap.size w ((((w.alloc Z4R).alloc (.cells #[] 3)))) := bel_alloc (bel_alloc (bel_refl w) _) _
    have BEL1 := Lib.hid bel1
    have HTH1 := Lib.hid hth1
    clear bel1 hth1 hth
    generalize (((w.alloc Z4R).alloc (.cells #[] 3))) = W1 at *
    refine od_loop W1 [] w.heap.size 0 _ 0 W1 _ _ _ _ _ _ _ _ _ _ _ _ _ _ _ _ _ _ _ _ _ _ _ _ _ _ _ _ _ _ _ _ _ _ _ _ _ _ _ _ _ _ _ _ _ _ _ _ _ _ _ _ OS.out rfl (by omega) HTH1.out ?_ ?_
    · show ∀ _, _
      intro l I W' u17 u18 u19 u20 u21 u22 u23 u24 u25 u26 u27 u28 u29 u30 u31 u32 u33 u34 u35 u36 u37 u38 u39 u40 u41 u42 u43 u44 u45 hnd hb
      have HNOT : Hid (¬ DecOk []) := fun k => hnd (HU.out ▸ k.2.1)
      have HB := Lib.hid (bel_trans BEL1.out hb)
      have hthF := thereR_bel HTH1.out (by omega) hb
      clear hnd hb
      go_wp2
      refine bodyPost_ret (v := .tuple #[zeroR.v, .bool false]) (resultsR_slot rfl _ _ w.heap.size [V zeroR.a, V zeroR.b, V zeroR.c, V zeroR.d] _ rfl (World.rangeAt_setCells_same _ _ 0 _ hthF) Tryd.underlying24 rfl (by kernel_rfl) rfl) rfl ⟨?_, ?_⟩
      · exact setCellsR_bel HB.out (Nat.le_refl _)
      · exact .inr ⟨HNOT.out, rfl⟩
    · show ∀ _, _
      intro l I W' u17 u18 u19 u20 u21 u22 u23 u24 u25 u26 u27 u28 u29 u30 u31 u32 u33 u34 u35 u36 u37 u38 u39 u40 u41 u42 u43 u44 u45 HW
      have HB := Lib.hid (bel_trans BEL1.out HW.bel)
      have hthF := thereR_bel HTH1.out (by omega) HW.bel
      obtain ⟨n, hdg, hn⟩ := HW.dg
      have hdd := HW.decs
      rw [List.take_length] at hn hdd
      have HDG := Lib.hid hdg
      have HDD := Lib.hid hdd
      clear hdg HW hdd
      have HNOT : Hid (¬ DecOk []) := fun k => k.1 HU.out
      clear hn
      go_wp2_with (show wpList _ _ _ (⟨none, Op.store 24 _ _, _, _, _, _⟩ :: _) _ _; refine wpList_store_mid (op := ⟨none, Op.store 24 (.tmp 2) (.tmp 53), _, _, _, _⟩) rfl 24 _ _ rfl w.heap.size 0 [V zeroR.a, V zeroR.b, V zeroR.c, V zeroR.d].toArray rfl rfl hthF (by kernel_rfl) (by simp [Value.oneCell']) ?_)
      refine bodyPost_ret (v := .tuple #[zeroR.v, .bool false]) (resultsR_slot rfl _ _ w.heap.size [V zeroR.a, V zeroR.b, V zeroR.c, V zeroR.d] _ rfl (World.rangeAt_setCells_same _ _ 0 _ hthF) Tryd.underlying24 rfl (by kernel_rfl) rfl) rfl ⟨?_, ?_⟩
      · exact setCellsR_bel HB.out (Nat.le_refl _)
      · exact .inr ⟨HNOT.out, rfl⟩
  · have hsl : 0 < s.length := (List.getElem?_eq_some_iff.1 hs0).1
    by_cases h43 : c0 = 43
    · obtain ⟨u, hu⟩ : ∃ u, u = s.drop 1 := ⟨_, rfl⟩
      have HU : Hid (unplus s = u) := by show _ = _; unfold unplus; rw [if_pos (by rw [hs0, h43]), hu]
      have hul : u.length ≤ 65536 := by rw [hu, List.length_drop]; omega
      obtain ⟨S, hS⟩ : ∃ S : ByteArray, S = ⟨s.toArray⟩ := ⟨_, rfl⟩
      have hSz : S.size = s.length := by rw [hS]; rfl
      have hSi : (0 : Int) < (S.size : Int) := by omega
      have hS1 : (1 : Int) ≤ (S.size : Int) := by omega
      have hg0 : ∀ h, S[0]'h = c0 := by subst hS; exact fun h => (Option.some.inj ((od_get s 0 h).symm.trans hs0))
      have c43 : ((c0.toNat : Int) == 43) = true := by rw [h43]; rfl
      have hext : S.extract 1 S.size = ⟨u.toArray⟩ := by
        apply ByteArray.ext
        rw [ByteArray.data_extract, hSz, hS, hu]
        simp
        exact List.take_of_length_le (by simp)
      rw [← hS]
      clear hs0 h43 hsl hSz hS hu hmax
      by_cases hu0 : u = []
      · have q : u.isEmpty = true := by rw [hu0]; rfl
        have q2 : (u == []) = true := by rw [hu0]; rfl
        rw [hu0] at HU
        have HU2 : Hid (unplus s = u) := by show _ = _; rw [HU.out, hu0]
        clear hu0
        go_enter Tryd.func7, Tryd.ntmps7
        go_wp2_with fail
        have OS : Hid (OdS (((w.alloc Z4R).alloc (.cells #[] 3))) u 0 (.slice (some ⟨w.heap.size + 1, 0, none⟩) 0 0) (((w.alloc Z4R).alloc (.cells #[] 3)))) := by
          refine ⟨Nat.zero_le _, (fun c hc => by simp at hc), ⟨0, ⟨[], ⟨some ⟨w.heap.size + 1, 0, none⟩, 0, rfl, Nat.le_refl _, fun i d hd => by simp at hd⟩, (fun d hd => by simp at hd), rfl, Nat.zero_le _⟩, .inl ⟨Nat.two_pow_pos 256, by rw [List.take_zero, dv_nil]⟩⟩, bel_refl _⟩
        have hth1 : ((((w.alloc Z4R).alloc (.cells #[] 3)))).there w.heap.size 0 4 := thereR_bel hth (by omega) (bel_alloc (bel_refl _) _)
        have bel1 : Below w.heap.size w ((((w.alloc Z4R).alloc (.cells #[] 3)))) := bel_alloc (bel_alloc (bel_refl w) _) _
        have BEL1 := Lib.hid bel1
        have HTH1 := Lib.hid hth1
        clear bel1 hth1 hth
        generalize (((w.alloc Z4R).alloc (.cells #[] 3))) = W1 at *
        refine od_loop W1 u w.heap.size 0 _ 0 W1 _ _ _ _ _ _ _ _ _ _ _ _ _ _ _ _ _ _ _ _ _ _ _ _ _ _ _ _ _ _ _ _ _ _ _ _ _ _ _ _ _ _ _ _ _ _ _ _ _ _ _ _ OS.out rfl (by omega) HTH1.out ?_ ?_
        · show ∀ _, _
          intro l I W' u17 u18 u19 u20 u21 u22 u23 u24 u25 u26 u27 u28 u29 u30 u31 u32 u33 u34 u35 u36 u37 u38 u39 u40 u41 u42 u43 u44 u45 hnd hb
          have HNOT : Hid (¬ DecOk s) := fun k => hnd (HU2.out ▸ k.2.1)
          have HB := Lib.hid (bel_trans BEL1.out hb)
          have hthF := thereR_bel HTH1.out (by omega) hb
          clear hnd hb
          go_wp2
          refine bodyPost_ret (v := .tuple #[zeroR.v, .bool false]) (resultsR_slot rfl _ _ w.heap.size [V zeroR.a, V zeroR.b, V zeroR.c, V zeroR.d] _ rfl (World.rangeAt_setCells_same _ _ 0 _ hthF) Tryd.underlying24 rfl (by kernel_rfl) rfl) rfl ⟨?_, ?_⟩
          · exact setCellsR_bel HB.out (Nat.le_refl _)
          · exact .inr ⟨HNOT.out, rfl⟩
        · show ∀ _, _
          intro l I W' u17 u18 u19 u20 u21 u22 u23 u24 u25 u26 u27 u28 u29 u30 u31 u32 u33 u34 u35 u36 u37 u38 u39 u40 u41 u42 u43 u44 u45 HW
          have HB := Lib.hid (bel_trans BEL1.out HW.bel)
          have hthF := thereR_bel HTH1.out (by omega) HW.bel
          obtain ⟨n, hdg, hn⟩ := HW.dg
          have hdd := HW.decs
          rw [List.take_length] at hn hdd
          have HDG := Lib.hid hdg
          have HDD := Lib.hid hdd
          clear hdg HW hdd
          have HNOT : Hid (¬ DecOk s) := fun k => k.1 HU.out
          clear hn
          go_wp2_with (show wpList _ _ _ (⟨none, Op.store 24 _ _, _, _, _, _⟩ :: _) _ _; refine wpList_store_mid (op := ⟨none, Op.store 24 (.tmp 2) (.tmp 53), _, _, _, _⟩) rfl 24 _ _ rfl w.heap.size 0 [V zeroR.a, V zeroR.b, V zeroR.c, V zeroR.d].toArray rfl rfl hthF (by kernel_rfl) (by simp [Value.oneCell']) ?_)
          refine bodyPost_ret (v := .tuple #[zeroR.v, .bool false]) (resultsR_slot rfl _ _ w.heap.size [V zeroR.a, V zeroR.b, V zeroR.c, V zeroR.d] _ rfl (World.rangeAt_setCells_same _ _ 0 _ hthF) Tryd.underlying24 rfl (by kernel_rfl) rfl) rfl ⟨?_, ?_⟩
          · exact setCellsR_bel HB.out (Nat.le_refl _)
          · exact .inr ⟨HNOT.out, rfl⟩
      · have q : u.isEmpty = false := by simp [hu0]
        have HU0 : Hid (u ≠ []) := hu0
        clear hu0
        go_enter Tryd.func7, Tryd.ntmps7
        go_wp2_with fail
        have OS : Hid (OdS (((w.alloc Z4R).alloc (.cells #[] 3))) u 0 (.slice (some ⟨w.heap.size + 1, 0, none⟩) 0 0) (((w.alloc Z4R).alloc (.cells #[] 3)))) := by
          refine ⟨Nat.zero_le _, (fun c hc => by simp at hc), ⟨0, ⟨[], ⟨some ⟨w.heap.size + 1, 0, none⟩, 0, rfl, Nat.le_refl _, fun i d hd => by simp at hd⟩, (fun d hd => by simp at hd), rfl, Nat.zero_le _⟩, .inl ⟨Nat.two_pow_pos 256, by rw [List.take_zero, dv_nil]⟩⟩, bel_refl _⟩
        have hth1 : ((((w.alloc Z4R).alloc (.cells #[] 3)))).there w.heap.size 0 4 := thereR_bel hth (by omega) (bel_alloc (bel_refl _) _)
        have bel1 : Below w.heap.size w ((((w.alloc Z4R).alloc (.cells #[] 3)))) := bel_alloc (bel_alloc (bel_refl w) _) _
        have BEL1 := Lib.hid bel1
        have HTH1 := Lib.hid hth1
        clear bel1 hth1 hth
        generalize (((w.alloc Z4R).alloc (.cells #[] 3))) = W1 at *
        refine od_loop W1 u w.heap.size 0 _ 0 W1 _ _ _ _ _ _ _ _ _ _ _ _ _ _ _ _ _ _ _ _ _ _ _ _ _ _ _ _ _ _ _ _ _ _ _ _ _ _ _ _ _ _ _ _ _ _ _ _ _ _ _ _ OS.out rfl (by omega) HTH1.out ?_ ?_
        · show ∀ _, _
          intro l I W' u17 u18 u19 u20 u21 u22 u23 u24 u25 u26 u27 u28 u29 u30 u31 u32 u33 u34 u35 u36 u37 u38 u39 u40 u41 u42 u43 u44 u45 hnd hb
          have HNOT : Hid (¬ DecOk s) := fun k => hnd (HU.out ▸ k.2.1)
          have HB := Lib.hid (bel_trans BEL1.out hb)
          have hthF := thereR_bel HTH1.out (by omega) hb
          clear hnd hb
          go_wp2
          refine bodyPost_ret (v := .tuple #[zeroR.v, .bool false]) (resultsR_slot rfl _ _ w.heap.size [V zeroR.a, V zeroR.b, V zeroR.c, V zeroR.d] _ rfl (World.rangeAt_setCells_same _ _ 0 _ hthF) Tryd.underlying24 rfl (by kernel_rfl) rfl) rfl ⟨?_, ?_⟩
          · exact setCellsR_bel HB.out (Nat.le_refl _)
          · exact .inr ⟨HNOT.out, rfl⟩
        · show ∀ _, _
          intro l I W' u17 u18 u19 u20 u21 u22 u23 u24 u25 u26 u27 u28 u29 u30 u31 u32 u33 u34 u35 u36 u37 u38 u39 u40 u41 u42 u43 u44 u45 HW
          have HB := Lib.hid (bel_trans BEL1.out HW.bel)
          have hthF := thereR_bel HTH1.out (by omega) HW.bel
          obtain ⟨n, hdg, hn⟩ := HW.dg
          have hdd := HW.decs
          rw [List.take_length] at hn hdd
          have HDG := Lib.hid hdg
          have HDD := Lib.hid hdd
          clear hdg HW hdd
          have FI := Lib.hid (fits_big l n _ W' HDG.out (by omega))
          rcases hn with ⟨hn1, hn2⟩ | ⟨hn1, hn2⟩
          · rw [decide_eq_true hn1] at FI
            have HOK : Hid (DecOk s) := ⟨by rw [HU.out]; exact HU0.out, by rw [HU.out]; exact HDD.out, by rw [HU.out, ← hn2]; exact hn1⟩
            have CU := Lib.hid (cut_big l n _ W' HDG.out (by omega))
            rw [hn2, ← HU.out] at CU
            obtain ⟨x, hx⟩ : ∃ x, x = ofN (dv (unplus s)) := ⟨_, rfl⟩
            rw [← hx] at CU
            have HXX := Lib.hid hx
            clear hn1 hn2 hx
            go_wp2_with (go_at_call 15; refine FI.out.mono ?_; rintro e w1 ⟨rfl, hw1⟩; subst hw1)
            refine CU.out.mono ?_
            rintro e w3 ⟨rfl, hb3⟩
            have HB3 := Lib.hid (bel_trans HB.out hb3)
            have hthG := thereR_bel hthF (by omega) hb3
            clear hb3
            go_wp2_with (show wpList _ _ _ (⟨none, Op.store 24 _ _, _, _, _, _⟩ :: _) _ _; refine wpList_store_mid (op := ⟨none, Op.store 24 (.tmp 2) (.tmp 55), _, _, _, _⟩) rfl 24 _ _ rfl w.heap.size 0 [V x.a, V x.b, V x.c, V x.d].toArray rfl rfl hthG (by kernel_rfl) (by simp [Value.oneCell']) ?_)
            refine bodyPost_ret (v := .tuple #[x.v, .bool true]) (resultsR_slot rfl _ _ w.heap.size [V x.a, V x.b, V x.c, V x.d] _ rfl (World.rangeAt_setCells_same _ _ 0 _ hthG) Tryd.underlying24 rfl (by kernel_rfl) rfl) rfl ⟨?_, ?_⟩
            · exact setCellsR_bel HB3.out (Nat.le_refl _)
            · exact .inl ⟨HOK.out, by rw [HXX.out]⟩
          · rw [decide_eq_false hn1] at FI
            have HNOT : Hid (¬ DecOk s) := fun k => hn2 (HU.out ▸ k.2.2)
            clear hn1 hn2
            go_wp2_with (first | (go_at_call 15; refine FI.out.mono ?_; rintro e w1 ⟨rfl, hw1⟩; subst hw1) | (show wpList _ _ _ (⟨none, Op.store 24 _ _, _, _, _, _⟩ :: _) _ _; refine wpList_store_mid (op := ⟨none, Op.store 24 (.tmp 2) (.tmp 53), _, _, _, _⟩) rfl 24 _ _ rfl w.heap.size 0 [V zeroR.a, V zeroR.b, V zeroR.c, V zeroR.d].toArray rfl rfl hthF (by kernel_rfl) (by simp [Value.oneCell']) ?_))
            refine bodyPost_ret (v := .tuple #[zeroR.v, .bool false]) (resultsR_slot rfl _ _ w.heap.size [V zeroR.a, V zeroR.b, V zeroR.c, V zeroR.d] _ rfl (World.rangeAt_setCells_same _ _ 0 _ hthF) Tryd.underlying24 rfl (by kernel_rfl) rfl) rfl ⟨?_, ?_⟩
            · exact setCellsR_bel HB.out (Nat.le_refl _)
            · exact .inr ⟨HNOT.out, rfl⟩
    · obtain ⟨u, hu⟩ : ∃ u, u = s := ⟨_, rfl⟩
      have HU : Hid (unplus s = u) := by show _ = _; unfold unplus; rw [if_neg (by rw [hs0]; simpa using h43), hu]
      have hul : u.length ≤ 65536 := by rw [hu]; exact hmax
      have c43 : ((c0.toNat : Int) == 43) = false := by
        have : c0.toNat ≠ 43 := fun e => h43 (UInt8.toNat.inj e)
        simp; omega
      have hu0 : u ≠ [] := by
        intro e
        rw [e] at hu
        rw [← hu] at hsl
        simp at hsl
      have q : u.isEmpty = false := by simp [hu0]
      have HU0 : Hid (u ≠ []) := hu0
      rw [← hu] at hs0 hsl ⊢
      have hsli : (0 : Int) < (u.length : Int) := by omega
      have hg0 : ∀ h, (⟨u.toArray⟩ : ByteArray)[0]'h = c0 := fun h => (Option.some.inj ((od_get u 0 h).symm.trans hs0))
      rw [← hu] at HU
      clear h43 hu hs0 hsl hu0 hmax
      go_enter Tryd.func7, Tryd.ntmps7
      go_wp2_with fail
      have OS : Hid (OdS (((w.alloc Z4R).alloc (.cells #[] 3))) u 0 (.slice (some ⟨w.heap.size + 1, 0, none⟩) 0 0) (((w.alloc Z4R).alloc (.cells #[] 3)))) := by
        refine ⟨Nat.zero_le _, (fun c hc => by simp at hc), ⟨0, ⟨[], ⟨some ⟨w.heap.size + 1, 0, none⟩, 0, rfl, Nat.le_refl _, fun i d hd => by simp at hd⟩, (fun d hd => by simp at hd), rfl, Nat.zero_le _⟩, .inl ⟨Nat.two_pow_pos 256, by rw [List.take_zero, dv_nil]⟩⟩, bel_refl _⟩
      have hth1 : ((((w.alloc Z4R).alloc (.cells #[] 3)))).there w.heap.size 0 4 := thereR_bel hth (by omega) (bel_alloc (bel_refl _) _)
      have bel1 : Below w.heap.size w ((((w.alloc Z4R).alloc (.cells #[] 3)))) := bel_alloc (bel_alloc (bel_refl w) _) _
      have BEL1 := Lib.hid bel1
      have HTH1 := Lib.hid hth1
      clear bel1 hth1 hth
      generalize (((w.alloc Z4R).alloc (.cells #[] 3))) = W1 at *
      refine od_loop W1 u w.heap.size 0 _ 0 W1 _ _ _ _ _ _ _ _ _ _ _ _ _ _ _ _ _ _ _ _ _ _ _ _ _ _ _ _ _ _ _ _ _ _ _ _ _ _ _ _ _ _ _ _ _ _ _ _ _ _ _ _ OS.out rfl (by omega) HTH1.out ?_ ?_
      · show ∀ _, _
        intro l I W' u17 u18 u19 u20 u21 u22 u23 u24 u25 u26 u27 u28 u29 u30 u31 u32 u33 u34 u35 u36 u37 u38 u39 u40 u41 u42 u43 u44 u45 hnd hb
        have HNOT : Hid (¬ DecOk u) := fun k => hnd (HU.out ▸ k.2.1)
        have HB := Lib.hid (bel_trans BEL1.out hb)
        have hthF := thereR_bel HTH1.out (by omega) hb
        clear hnd hb
        go_wp2
        refine bodyPost_ret (v := .tuple #[zeroR.v, .bool false]) (resultsR_slot rfl _ _ w.heap.size [V zeroR.a, V zeroR.b, V zeroR.c, V zeroR.d] _ rfl (World.rangeAt_setCells_same _ _ 0 _ hthF) Tryd.underlying24 rfl (by kernel_rfl) rfl) rfl ⟨?_, ?_⟩
        · exact setCellsR_bel HB.out (Nat.le_refl _)
        · exact .inr ⟨HNOT.out, rfl⟩
      · show ∀ _, _
        intro l I W' u17 u18 u19 u20 u21 u22 u23 u24 u25 u26 u27 u28 u29 u30 u31 u32 u33 u34 u35 u36 u37 u38 u39 u40 u41 u42 u43 u44 u45 HW
        have HB := Lib.hid (bel_trans BEL1.out HW.bel)
        have hthF := thereR_bel HTH1.out (by omega) HW.bel
        obtain ⟨n, hdg, hn⟩ := HW.dg
        have hdd := HW.decs
        rw [List.take_length] at hn hdd
        have HDG := Lib.hid hdg
        have HDD := Lib.hid hdd
        clear hdg HW hdd
        have FI := Lib.hid (fits_big l n _ W' HDG.out (by omega))
        rcases hn with ⟨hn1, hn2⟩ | ⟨hn1, hn2⟩
        · rw [decide_eq_true hn1] at FI
          have HOK : Hid (DecOk u) := ⟨by rw [HU.out]; exact HU0.out, by rw [HU.out]; exact HDD.out, by rw [HU.out, ← hn2]; exact hn1⟩
          have CU := Lib.hid (cut_big l n _ W' HDG.out (by omega))
          rw [hn2, ← HU.out] at CU
          obtain ⟨x, hx⟩ : ∃ x, x = ofN (dv (unplus u)) := ⟨_, rfl⟩
          rw [← hx] at CU
          have HXX := Lib.hid hx
          clear hn1 hn2 hx
          go_wp2_with (go_at_call 15; refine FI.out.mono ?_; rintro e w1 ⟨rfl, hw1⟩; subst hw1)
          refine CU.out.mono ?_
          rintro e w3 ⟨rfl, hb3⟩
          have HB3 := Lib.hid (bel_trans HB.out hb3)
          have hthG := thereR_bel hthF (by omega) hb3
          clear hb3
          go_wp2_with (show wpList _ _ _ (⟨none, Op.store 24 _ _, _, _, _, _⟩ :: _) _ _; refine wpList_store_mid (op := ⟨none, Op.store 24 (.tmp 2) (.tmp 55), _, _, _, _⟩) rfl 24 _ _ rfl w.heap.size 0 [V x.a, V x.b, V x.c, V x.d].toArray rfl rfl hthG (by kernel_rfl) (by simp [Value.oneCell']) ?_)
          refine bodyPost_ret (v := .tuple #[x.v, .bool true]) (resultsR_slot rfl _ _ w.heap.size [V x.a, V x.b, V x.c, V x.d] _ rfl (World.rangeAt_setCells_same _ _ 0 _ hthG) Tryd.underlying24 rfl (by kernel_rfl) rfl) rfl ⟨?_, ?_⟩
          · exact setCellsR_bel HB3.out (Nat.le_refl _)
          · exact .inl ⟨HOK.out, by rw [HXX.out]⟩
        · rw [decide_eq_false hn1] at FI
          have HNOT : Hid (¬ DecOk u) := fun k => hn2 (HU.out ▸ k.2.2)
          clear hn1 hn2
          go_wp2_with (first | (go_at_call 15; refine FI.out.mono ?_; rintro e w1 ⟨rfl, hw1⟩; subst hw1) | (show wpList _ _ _ (⟨none, Op.store 24 _ _, _, _, _, _⟩ :: _) _ _; refine wpList_store_mid (op := ⟨none, Op.store 24 (.tmp 2) (.tmp 53), _, _, _, _⟩) rfl 24 _ _ rfl w.heap.size 0 [V zeroR.a, V zeroR.b, V zeroR.c, V zeroR.d].toArray rfl rfl hthF (by kernel_rfl) (by simp [Value.oneCell']) ?_))
          refine bodyPost_ret (v := .tuple #[zeroR.v, .bool false]) (resultsR_slot rfl _ _ w.heap.size [V zeroR.a, V zeroR.b, V zeroR.c, V zeroR.d] _ rfl (World.rangeAt_setCells_same _ _ 0 _ hthF) Tryd.underlying24 rfl (by kernel_rfl) rfl) rfl ⟨?_, ?_⟩
          · exact setCellsR_bel HB.out (Nat.le_refl _)
          · exact .inr ⟨HNOT.out, rfl⟩
end Go.Proofs.YtfaocjcpnjmfiaaDoor
