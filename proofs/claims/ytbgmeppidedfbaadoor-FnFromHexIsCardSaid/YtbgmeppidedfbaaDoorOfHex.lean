/-
  The reference's OfHex.
-/
import Derived.Test.YtbgmeppidedfbaaDoorHexSpec
import Derived.Test.YtbgmeppidedfbaaDoorCellR
import Derived.Test.YtbgmeppidedfbaaDoorDig6
import Derived.Test.YtbgmeppidedfbaaDoorByt
import Derived.Deep.DeepCutAuto
import Derived.Deep.CutBlock
set_option linter.unusedVariables false
set_option linter.unusedSimpArgs false
namespace Go.Proofs.YtbgmeppidedfbaaDoor
open Go.RowKit
/-- The loops' bodies in a code, not those within them. -/
def loopsOH : Code → List Code
  | .loop c => [c]
  | .seq a b => loopsOH a ++ loopsOH b
  | .block _ c => loopsOH c
  | .scope c => loopsOH c
  | .cond _ a b => loopsOH a ++ loopsOH b
  | _ => []
noncomputable def ohBody : Code := ((Tryd.f11.body.map loopsOH).getD []).headD .skip
theorem dgOne (w : World) (n : Nat) (hn : n < 65536) : Dg (w.alloc (.cells #[.int .i64 (n : Int)] 3)) (.slice (some ⟨w.heap.size, 0, none⟩) 1 1) n 1 := by
  refine ⟨[n], ⟨some ⟨w.heap.size, 0, none⟩, 1, rfl, Nat.le_refl _, fun i d hd => ?_⟩, (fun d hd => by simp at hd; omega), by simp [val, vlow, dig], Nat.le_refl _⟩
  match i, hd with
  | 0, hd => simp at hd; subst hd; exact ⟨_, _, rfl, by simp [go_sem]⟩
  | i + 1, hd => simp at hd
/-- What holds at the loop's head: i digits are read. -/
structure OhS (w0 : World) (d : List UInt8) (i : Nat) (l : Value) (syn : Bool) (W : World) : Prop where
  ile : i ≤ d.length
  syn : syn = !decide (Nibs (d.take i))
  dg : d.length ≤ 64 → ∃ n, Dg W l n (3 * i) ∧ (Nibs (d.take i) → n = hv (d.take i))
  bel : Below w0.heap.size w0 W
theorem take_snoc (d : List UInt8) (i : Nat) (c : UInt8) (h : d[i]? = some c) : d.take (i + 1) = d.take i ++ [c] := by rw [List.take_add_one, h]; rfl
theorem nibs_snoc (l : List UInt8) (c : UInt8) : Nibs (l ++ [c]) ↔ Nibs l ∧ nibOf c < 16 :=
  ⟨fun h => ⟨fun x hx => h x (List.mem_append_left _ hx), h c (by simp)⟩, fun h => h.1.snoc h.2⟩
set_option maxHeartbeats 4000000 in
set_option maxRecDepth 20000 in
theorem oh_round (w0 : World) (d : List UInt8) (i : Nat) (l nn : Value) (syn : Bool) (W : World) (Q : Exit → Act → World → Prop) (c0 c1 c2 c3 c5 c10 c11 c12 c13 c14 c15 c16 c17 c18 c19 c20 c21 c22 c23 c24 c25 c26 c48 c49 c50 c51 c52 c53 c54 c55 c56 c57 c58 c59 c60 c61 c62 c63 c64 c65 c66 c67 c68 c69 c70 c71 c72 c73 c74 c75 v27 v28 v29 v30 v31 v32 v33 v34 v35 v36 v37 v38 v39 v40 v41 v42 v43 v44 v45 v46 v47 : Value)
    (H : OhS w0 d i l syn W) (hmax : d.length ≤ 100000)
    (HN : Hid (∀ (l nn : Value) (I : Int) (syn : Bool) (W' : World) (u27 u28 u29 u30 u31 u32 u33 u34 u35 u36 u37 u38 u39 u40 u41 u42 u43 u44 u45 u46 u47 : Value), i < d.length → I = ((i + 1 : Nat) : Int) → OhS w0 d (i + 1) l syn W' → Q .normal ⟨List.toArray (c0 :: c1 :: c2 :: c3 :: .string ⟨d.toArray⟩ :: c5 :: l :: .bool syn :: .int .i64 I :: nn :: c10 :: c11 :: c12 :: c13 :: c14 :: c15 :: c16 :: c17 :: c18 :: c19 :: c20 :: c21 :: c22 :: c23 :: c24 :: c25 :: c26 :: u27 :: u28 :: u29 :: u30 :: u31 :: u32 :: u33 :: u34 :: u35 :: u36 :: u37 :: u38 :: u39 :: u40 :: u41 :: u42 :: u43 :: u44 :: u45 :: u46 :: u47 :: c48 :: c49 :: c50 :: c51 :: c52 :: c53 :: c54 :: c55 :: c56 :: c57 :: c58 :: c59 :: c60 :: c61 :: c62 :: c63 :: c64 :: c65 :: c66 :: c67 :: c68 :: c69 :: c70 :: c71 :: c72 :: c73 :: c74 :: c75 :: []), []⟩ W'))
    (HX : Hid (∀ (nn : Value) (I : Int) (W' : World) (u27 u28 u29 u30 u31 u32 u33 u34 u35 u36 u37 u38 u39 u40 u41 u42 u43 u44 u45 u46 u47 : Value), i = d.length → OhS w0 d i l syn W' → Q (.exit 0) ⟨List.toArray (c0 :: c1 :: c2 :: c3 :: .string ⟨d.toArray⟩ :: c5 :: l :: .bool syn :: .int .i64 I :: nn :: c10 :: c11 :: c12 :: c13 :: c14 :: c15 :: c16 :: c17 :: c18 :: c19 :: c20 :: c21 :: c22 :: c23 :: c24 :: c25 :: c26 :: u27 :: u28 :: u29 :: u30 :: u31 :: u32 :: u33 :: u34 :: u35 :: u36 :: u37 :: u38 :: u39 :: u40 :: u41 :: u42 :: u43 :: u44 :: u45 :: u46 :: u47 :: c48 :: c49 :: c50 :: c51 :: c52 :: c53 :: c54 :: c55 :: c56 :: c57 :: c58 :: c59 :: c60 :: c61 :: c62 :: c63 :: c64 :: c65 :: c66 :: c67 :: c68 :: c69 :: c70 :: c71 :: c72 :: c73 :: c74 :: c75 :: []), []⟩ W')) :
    Code.wp Tryd.prog ohBody Q ⟨List.toArray (c0 :: c1 :: c2 :: c3 :: .string ⟨d.toArray⟩ :: c5 :: l :: .bool syn :: .int .i64 (i : Int) :: nn :: c10 :: c11 :: c12 :: c13 :: c14 :: c15 :: c16 :: c17 :: c18 :: c19 :: c20 :: c21 :: c22 :: c23 :: c24 :: c25 :: c26 :: v27 :: v28 :: v29 :: v30 :: v31 :: v32 :: v33 :: v34 :: v35 :: v36 :: v37 :: v38 :: v39 :: v40 :: v41 :: v42 :: v43 :: v44 :: v45 :: v46 :: v47 :: c48 :: c49 :: c50 :: c51 :: c52 :: c53 :: c54 :: c55 :: c56 :: c57 :: c58 :: c59 :: c60 :: c61 :: c62 :: c63 :: c64 :: c65 :: c66 :: c67 :: c68 :: c69 :: c70 :: c71 :: c72 :: c73 :: c74 :: c75 :: []), []⟩ W := by
  rcases Nat.eq_or_lt_of_le H.ile with h0 | h0
  · have HH := Lib.hid H
    have hni : ¬ (i : Int) < (d.length : Int) := by omega
    clear H
    conv => arg 2; whnf
    go_wp2
    exact HX.out _ _ _ _ _ _ _ _ _ _ _ _ _ _ _ _ _ _ _ _ _ _ _ _ h0 HH.out
  · obtain ⟨c, hc⟩ : ∃ c, d[i]? = some c := ⟨_, List.getElem?_eq_getElem h0⟩
    have hgd : ∀ h, (⟨d.toArray⟩ : ByteArray)[i]'h = c := by
      intro h
      show (d.toArray[i]'h) = c
      rw [List.getElem_toArray]
      exact (List.getElem?_eq_some_iff.1 hc).2
    have hil : (i : Int) < (d.length : Int) := by omega
    have HTK := Lib.hid (take_snoc d i c hc)
    have HH := Lib.hid H
    have HD := Lib.hid (hexDigit_any c)
    clear H hc
    by_cases hn : nibOf c < 16
    · have hdv : digV c = (nibOf c : Int) := by unfold digV; rw [if_pos hn]
      rw [hdv] at HD
      have hsyn : Hid (syn = !decide (Nibs (d.take (i + 1)))) := by
        show _ = _
        rw [HTK.out, HH.out.syn]
        congr 1
        rw [decide_eq_decide, nibs_snoc]
        exact ⟨fun h => ⟨h, hn⟩, fun h => h.1⟩
      clear hdv
      have hn0 : ¬ (nibOf c : Int) < 0 := by omega
      by_cases h64 : d.length ≤ 64
      · have h64i : (d.length : Int) ≤ 64 := by omega
        obtain ⟨n, hdg, hnv⟩ := HH.out.dg h64
        have HDG := Lib.hid hdg
        have HNV := Lib.hid hnv
        have hnn : Hid (Nibs (d.take (i + 1)) → n * 16 + nibOf c = hv (d.take (i + 1))) := fun h => by
          rw [HTK.out] at h ⊢
          rw [hv_snoc, hnv ((nibs_snoc _ _).1 h).1, Nat.mul_comm]
        clear hdg hnv
        generalize nibOf c = v at *
        have hi64 : i < 64 := by omega
        conv => arg 2; whnf
        go_wp2_with (first
          | (go_at_call 27; refine (HD.out _).mono ?_; rintro e w1 ⟨rfl, hw1⟩; have hw1 := hw1.symm; subst hw1)
          | (go_at_call 29; refine (times_dg _ _ n 16 (3 * i) 1 _ (HDG.out.bel (bel_alloc (bel_refl _) _)) (dgOne _ 16 (by omega)) (by omega) (by omega)).mono ?_; rintro e w2 ⟨v2, rfl, dg2, hb2⟩; have DG2 := Lib.hid dg2; have HB2 := Lib.hid (bel_trans (bel_alloc (bel_refl _) _) hb2); clear dg2 hb2)
          | (go_at_call 28; refine (plus_dg _ _ (n * 16) v (3 * i + 1 + 1) 1 _ (DG2.out.bel (bel_alloc (bel_refl _) _)) (dgOne _ v (by omega)) (by omega) (by omega)).mono ?_; rintro e w3 ⟨v3, rfl, dg3, hb3⟩; have DG3 := Lib.hid dg3; have HB3 := Lib.hid (bel_trans HB2.out (bel_trans (bel_alloc (bel_refl _) _) hb3)); clear dg3 hb3))
        exact HN.out _ _ _ _ _ _ _ _ _ _ _ _ _ _ _ _ _ _ _ _ _ _ _ _ _ _ h0 (by omega) ⟨by omega, hsyn.out, fun _ => ⟨_, DG3.out.le (by omega), hnn.out⟩, bel_trans HH.out.bel HB3.out⟩
      · have h64i : ¬ (d.length : Int) ≤ 64 := by omega
        generalize nibOf c = v at *
        conv => arg 2; whnf
        go_wp2_with (go_at_call 27; refine (HD.out _).mono ?_; rintro e w1 ⟨rfl, hw1⟩; have hw1 := hw1.symm; subst hw1)
        exact HN.out _ _ _ _ _ _ _ _ _ _ _ _ _ _ _ _ _ _ _ _ _ _ _ _ _ _ h0 (by omega) ⟨by omega, hsyn.out, fun h => absurd h h64, HH.out.bel⟩
    · have hdv : digV c = -1 := by unfold digV; rw [if_neg hn]
      rw [hdv] at HD
      have hnot : Hid (¬ Nibs (d.take (i + 1))) := fun h => by rw [HTK.out] at h; exact hn ((nibs_snoc _ _).1 h).2
      clear hdv hn
      conv => arg 2; whnf
      go_wp2_with (go_at_call 27; refine (HD.out _).mono ?_; rintro e w1 ⟨rfl, hw1⟩; have hw1 := hw1.symm; subst hw1)
      refine HN.out _ _ _ _ _ _ _ _ _ _ _ _ _ _ _ _ _ _ _ _ _ _ _ _ _ _ h0 (by omega) ⟨by omega, by rw [decide_eq_false hnot.out]; rfl, fun h => ?_, HH.out.bel⟩
      obtain ⟨n, hdg, _⟩ := HH.out.dg h
      exact ⟨n, hdg.le (by omega), fun k => absurd k hnot.out⟩
/-- The loop. -/
def OhI (w0 : World) (d : List UInt8) (c0 c1 c2 c3 c5 c10 c11 c12 c13 c14 c15 c16 c17 c18 c19 c20 c21 c22 c23 c24 c25 c26 c48 c49 c50 c51 c52 c53 c54 c55 c56 c57 c58 c59 c60 c61 c62 c63 c64 c65 c66 c67 c68 c69 c70 c71 c72 c73 c74 c75 : Value) (a : Act) (W : World) : Prop :=
  ∃ (u27 u28 u29 u30 u31 u32 u33 u34 u35 u36 u37 u38 u39 u40 u41 u42 u43 u44 u45 u46 u47 : Value), ∃ (i : Nat) (l nn : Value) (I : Int) (syn : Bool), I = (i : Int) ∧ OhS w0 d i l syn W ∧ a = ⟨List.toArray (c0 :: c1 :: c2 :: c3 :: .string ⟨d.toArray⟩ :: c5 :: l :: .bool syn :: .int .i64 I :: nn :: c10 :: c11 :: c12 :: c13 :: c14 :: c15 :: c16 :: c17 :: c18 :: c19 :: c20 :: c21 :: c22 :: c23 :: c24 :: c25 :: c26 :: u27 :: u28 :: u29 :: u30 :: u31 :: u32 :: u33 :: u34 :: u35 :: u36 :: u37 :: u38 :: u39 :: u40 :: u41 :: u42 :: u43 :: u44 :: u45 :: u46 :: u47 :: c48 :: c49 :: c50 :: c51 :: c52 :: c53 :: c54 :: c55 :: c56 :: c57 :: c58 :: c59 :: c60 :: c61 :: c62 :: c63 :: c64 :: c65 :: c66 :: c67 :: c68 :: c69 :: c70 :: c71 :: c72 :: c73 :: c74 :: c75 :: []), []⟩
def muOh (n : Nat) (a : Act) (_ : World) : Nat := ((n : Int) - RowKit.intOf (a.tmps[8]?.getD undef)).toNat
set_option maxHeartbeats 4000000 in
set_option maxRecDepth 20000 in
theorem oh_loop (w0 : World) (d : List UInt8) (i : Nat) (l nn : Value) (I : Int) (syn : Bool) (W : World) (Q : Exit → Act → World → Prop) (c0 c1 c2 c3 c5 c10 c11 c12 c13 c14 c15 c16 c17 c18 c19 c20 c21 c22 c23 c24 c25 c26 c48 c49 c50 c51 c52 c53 c54 c55 c56 c57 c58 c59 c60 c61 c62 c63 c64 c65 c66 c67 c68 c69 c70 c71 c72 c73 c74 c75 v27 v28 v29 v30 v31 v32 v33 v34 v35 v36 v37 v38 v39 v40 v41 v42 v43 v44 v45 v46 v47 : Value)
    (H : OhS w0 d i l syn W) (hmax : d.length ≤ 100000) (hI : I = (i : Int))
    (HX : Hid (∀ (l nn : Value) (I : Int) (syn : Bool) (W' : World) (u27 u28 u29 u30 u31 u32 u33 u34 u35 u36 u37 u38 u39 u40 u41 u42 u43 u44 u45 u46 u47 : Value), OhS w0 d d.length l syn W' → Q (.exit 0) ⟨List.toArray (c0 :: c1 :: c2 :: c3 :: .string ⟨d.toArray⟩ :: c5 :: l :: .bool syn :: .int .i64 I :: nn :: c10 :: c11 :: c12 :: c13 :: c14 :: c15 :: c16 :: c17 :: c18 :: c19 :: c20 :: c21 :: c22 :: c23 :: c24 :: c25 :: c26 :: u27 :: u28 :: u29 :: u30 :: u31 :: u32 :: u33 :: u34 :: u35 :: u36 :: u37 :: u38 :: u39 :: u40 :: u41 :: u42 :: u43 :: u44 :: u45 :: u46 :: u47 :: c48 :: c49 :: c50 :: c51 :: c52 :: c53 :: c54 :: c55 :: c56 :: c57 :: c58 :: c59 :: c60 :: c61 :: c62 :: c63 :: c64 :: c65 :: c66 :: c67 :: c68 :: c69 :: c70 :: c71 :: c72 :: c73 :: c74 :: c75 :: []), []⟩ W')) :
    Code.wp Tryd.prog (.loop ohBody) Q ⟨List.toArray (c0 :: c1 :: c2 :: c3 :: .string ⟨d.toArray⟩ :: c5 :: l :: .bool syn :: .int .i64 I :: nn :: c10 :: c11 :: c12 :: c13 :: c14 :: c15 :: c16 :: c17 :: c18 :: c19 :: c20 :: c21 :: c22 :: c23 :: c24 :: c25 :: c26 :: v27 :: v28 :: v29 :: v30 :: v31 :: v32 :: v33 :: v34 :: v35 :: v36 :: v37 :: v38 :: v39 :: v40 :: v41 :: v42 :: v43 :: v44 :: v45 :: v46 :: v47 :: c48 :: c49 :: c50 :: c51 :: c52 :: c53 :: c54 :: c55 :: c56 :: c57 :: c58 :: c59 :: c60 :: c61 :: c62 :: c63 :: c64 :: c65 :: c66 :: c67 :: c68 :: c69 :: c70 :: c71 :: c72 :: c73 :: c74 :: c75 :: []), []⟩ W := by
  refine wp_loop (OhI w0 d c0 c1 c2 c3 c5 c10 c11 c12 c13 c14 c15 c16 c17 c18 c19 c20 c21 c22 c23 c24 c25 c26 c48 c49 c50 c51 c52 c53 c54 c55 c56 c57 c58 c59 c60 c61 c62 c63 c64 c65 c66 c67 c68 c69 c70 c71 c72 c73 c74 c75) (muOh d.length) ?_ ?_
  · exact ⟨v27, v28, v29, v30, v31, v32, v33, v34, v35, v36, v37, v38, v39, v40, v41, v42, v43, v44, v45, v46, v47, i, l, nn, I, syn, hI, H, rfl⟩
  · intro A W1 hI
    obtain ⟨u27, hI⟩ := hI
    obtain ⟨u28, hI⟩ := hI
    obtain ⟨u29, hI⟩ := hI
    obtain ⟨u30, hI⟩ := hI
    obtain ⟨u31, hI⟩ := hI
    obtain ⟨u32, hI⟩ := hI
    obtain ⟨u33, hI⟩ := hI
    obtain ⟨u34, hI⟩ := hI
    obtain ⟨u35, hI⟩ := hI
    obtain ⟨u36, hI⟩ := hI
    obtain ⟨u37, hI⟩ := hI
    obtain ⟨u38, hI⟩ := hI
    obtain ⟨u39, hI⟩ := hI
    obtain ⟨u40, hI⟩ := hI
    obtain ⟨u41, hI⟩ := hI
    obtain ⟨u42, hI⟩ := hI
    obtain ⟨u43, hI⟩ := hI
    obtain ⟨u44, hI⟩ := hI
    obtain ⟨u45, hI⟩ := hI
    obtain ⟨u46, hI⟩ := hI
    obtain ⟨u47, hI⟩ := hI
    obtain ⟨i, l, nn, I, syn, rfl, H, rfl⟩ := hI
    refine oh_round w0 d i l nn syn W1 _ c0 c1 c2 c3 c5 c10 c11 c12 c13 c14 c15 c16 c17 c18 c19 c20 c21 c22 c23 c24 c25 c26 c48 c49 c50 c51 c52 c53 c54 c55 c56 c57 c58 c59 c60 c61 c62 c63 c64 c65 c66 c67 c68 c69 c70 c71 c72 c73 c74 c75 _ _ _ _ _ _ _ _ _ _ _ _ _ _ _ _ _ _ _ _ _ H hmax ?_ ?_
    · show ∀ _, _
      intro l2 nn2 I2 syn2 W2 u27 u28 u29 u30 u31 u32 u33 u34 u35 u36 u37 u38 u39 u40 u41 u42 u43 u44 u45 u46 u47 hlt hI2 HW
      refine ⟨⟨u27, u28, u29, u30, u31, u32, u33, u34, u35, u36, u37, u38, u39, u40, u41, u42, u43, u44, u45, u46, u47, i + 1, l2, nn2, I2, syn2, hI2, HW, rfl⟩, ?_⟩
      show ((d.length : Int) - RowKit.intOf (.int .i64 I2)).toNat < ((d.length : Int) - RowKit.intOf (.int .i64 (i : Int))).toNat
      simp only [RowKit.intOf]
      omega
    · show ∀ _, _
      intro nn2 I2 W2 u27 u28 u29 u30 u31 u32 u33 u34 u35 u36 u37 u38 u39 u40 u41 u42 u43 u44 u45 u46 u47 hi HW
      rw [hi] at HW
      exact HX.out _ _ _ _ W2 u27 u28 u29 u30 u31 u32 u33 u34 u35 u36 u37 u38 u39 u40 u41 u42 u43 u44 u45 u46 u47 HW
/-- The faults of a text, as the reference lists them. -/
def specFaults (s : List UInt8) : List Nat :=
  if s = [] then [1] else if isPre s = false then [3] else if s.drop 2 = [] then [4] else
    (if Nibs (s.drop 2) then [] else [2]) ++ (if 1 < (s.drop 2).length ∧ (s.drop 2)[0]? = some 48 then [5] else []) ++ (if 64 < (s.drop 2).length then [6] else [])
theorem ownR_bel {w w' : World} {B n gb cap : Nat} {e : TypeId} {xs : List Value} (h : w.ownsRow B e 1 (.slice (some ⟨gb, 0, none⟩) n cap) n xs) (hb : Below w.heap.size w w') : w'.ownsRow B e 1 (.slice (some ⟨gb, 0, none⟩) n cap) n xs := by
  obtain ⟨h1, h2⟩ := h
  refine ⟨h1, .inr ?_⟩
  rcases h2 with ⟨h3, _⟩ | ⟨g', cap', cur, h3, h4, h5, h6, h7, h8, h9⟩
  · cases h3
  · cases h3
    exact ⟨gb, cap, cur, rfl, h4, by rw [hb.block gb (Array.getElem?_eq_some_iff.1 h5).1]; exact h5, h6, h7, h8, h9⟩
theorem thereR_keep {w w' : World} {b o n B : Nat} (h : w.there b o n) (k : Below B w w') (hb : b < B) : w'.there b o n := fun j hj => by
  have := h j hj
  rw [k.cell (p := ⟨b, o + j, none⟩) hb, k.frozen (p := ⟨b, o + j, none⟩) hb]
  exact this
theorem slOfR {w : World} {B : Nat} {e : TypeId} {v : Value} {l : List Nat} (h : w.ownsRow B e 1 v l.length (ints l)) : Sl w v l := by
  obtain ⟨h1, h2⟩ := h
  rcases h2 with ⟨rfl, h3⟩ | ⟨g, cap, cur, rfl, h4, h5, h6, h7, h8, h9⟩
  · have : l = [] := List.length_eq_zero_iff.1 h3
    subst this
    exact Sl.nil w
  · refine ⟨some ⟨g, 0, none⟩, cap, rfl, h6, fun i d hd => ⟨g, 0, rfl, ?_⟩⟩
    have hi := (List.getElem?_eq_some_iff.1 hd).1
    have hc : cur[i]? = some (.int .i64 (d : Int)) := by
      have : (cur.toList.take (l.length * 1))[i]? = some (.int .i64 (d : Int)) := by rw [h9]; simp [ints, hd]
      rw [List.getElem?_take_of_lt (by omega)] at this
      simpa using this
    rw [Nat.zero_add]
    simp [World.cell?, h5, hc]
end Go.Proofs.YtbgmeppidedfbaaDoor
