/-
  The reference's OfDecimal.
-/
import Derived.Test.YtfaocjcpnjmfiaaDoorDecRdLaw
import Derived.Test.YtfaocjcpnjmfiaaDoorDigBig
import Derived.Test.YtfaocjcpnjmfiaaDoorCellR
import Derived.Test.YtfaocjcpnjmfiaaDoorByt
import Derived.Deep.DeepCutAuto
import Derived.Deep.CutBlock
import Derived.BigRegion
set_option linter.unusedVariables false
set_option linter.unusedSimpArgs false
namespace Go.Proofs.YtfaocjcpnjmfiaaDoor
open Go.RowKit
/-- The loops' bodies in a code, not those within them. -/
def loopsOD : Code → List Code
  | .loop c => [c]
  | .seq a b => loopsOD a ++ loopsOD b
  | .block _ c => loopsOD c
  | .scope c => loopsOD c
  | .cond _ a b => loopsOD a ++ loopsOD b
  | _ => []
noncomputable def odBody : Code := ((Tryd.f7.body.map loopsOD).getD []).headD .skip
/-- A region of a code by its number. -/
def regOD (n : Nat) : Code → Option Code
  | .region id ops dr => if id = n then some (.region id ops dr) else none
  | .loop c => regOD n c
  | .seq a b => (regOD n a).or (regOD n b)
  | .block _ c => regOD n c
  | .scope c => regOD n c
  | .cond _ a b => (regOD n a).or (regOD n b)
  | _ => none
noncomputable def odStep : Code := (regOD 10 odBody).getD .skip
theorem dgOneD (w : World) (n : Nat) (hn : n < 65536) : Dg (w.alloc (.cells #[.int .i64 (n : Int)] 3)) (.slice (some ⟨w.heap.size, 0, none⟩) 1 1) n 1 := by
  refine ⟨[n], ⟨some ⟨w.heap.size, 0, none⟩, 1, rfl, Nat.le_refl _, fun i d hd => ?_⟩, (fun d hd => by simp at hd; omega), by simp [val, vlow, dig], Nat.le_refl _⟩
  match i, hd with
  | 0, hd => simp at hd; subst hd; exact ⟨_, _, rfl, by simp [go_sem]⟩
  | i + 1, hd => simp at hd
theorem dgCell (w : World) (g k : Nat) (hk : k < 65536) (h : w.cell? ⟨g, 0, none⟩ = some (.int .i64 (k : Int))) : Dg w (.slice (some ⟨g, 0, none⟩) 1 1) k 1 := by
  refine ⟨[k], ⟨some ⟨g, 0, none⟩, 1, rfl, Nat.le_refl _, fun i d hd => ?_⟩, (fun d hd => by simp at hd; omega), by simp [val, vlow, dig], Nat.le_refl _⟩
  match i, hd with
  | 0, hd => simp at hd; subst hd; exact ⟨_, _, rfl, h⟩
  | i + 1, hd => simp at hd
set_option maxHeartbeats 4000000 in
set_option maxRecDepth 20000 in
theorem od_step (d : List UInt8) (g i n L v : Nat) (c : UInt8) (l : Value) (W : World) (Q : Exit → Act → World → Prop) (c1 c6 c7 c8 c9 c10 c11 c12 c13 c14 c15 c16 c46 c47 c48 c49 c50 c51 c52 c53 c54 c55 v17 v18 v19 v20 v21 v22 v23 v24 v25 v26 v27 v28 v29 v30 v31 v32 v33 v34 v35 v36 v37 v38 v39 v40 v41 v42 v43 v44 v45 : Value)
    (hdg : Dg W l n L) (hL : L ≤ 200000) (hi : d[i]? = some c) (hc1 : 48 ≤ c.toNat) (hc2 : c.toNat ≤ 57) (hv : v = c.toNat - 48)
    (HN : Hid (∀ (l2 : Value) (W' : World) (u17 u18 u19 u20 u21 u22 u23 u24 u25 u26 u27 u28 u29 u30 u31 u32 u33 u34 u35 u36 u37 u38 u39 u40 u41 u42 u43 u44 u45 : Value), Dg W' l2 (n * 10 + v) (L + 3) → Below W.heap.size W W' → Q .normal ⟨List.toArray (.string ⟨d.toArray⟩ :: c1 :: .pointer (some ⟨g, 0, none⟩) :: .bool false :: l2 :: .int .i64 (i : Int) :: c6 :: c7 :: c8 :: c9 :: c10 :: c11 :: c12 :: c13 :: c14 :: c15 :: c16 :: u17 :: u18 :: u19 :: u20 :: u21 :: u22 :: u23 :: u24 :: u25 :: u26 :: u27 :: u28 :: u29 :: u30 :: u31 :: u32 :: u33 :: u34 :: u35 :: u36 :: u37 :: u38 :: u39 :: u40 :: u41 :: u42 :: u43 :: u44 :: u45 :: c46 :: c47 :: c48 :: c49 :: c50 :: c51 :: c52 :: c53 :: c54 :: c55 :: []), []⟩ W')) :
    Code.wp Tryd.prog odStep Q ⟨List.toArray (.string ⟨d.toArray⟩ :: c1 :: .pointer (some ⟨g, 0, none⟩) :: .bool false :: l :: .int .i64 (i : Int) :: c6 :: c7 :: c8 :: c9 :: c10 :: c11 :: c12 :: c13 :: c14 :: c15 :: c16 :: v17 :: v18 :: v19 :: v20 :: v21 :: v22 :: v23 :: v24 :: v25 :: v26 :: v27 :: v28 :: v29 :: v30 :: v31 :: v32 :: v33 :: v34 :: v35 :: v36 :: v37 :: v38 :: v39 :: v40 :: v41 :: v42 :: v43 :: v44 :: v45 :: c46 :: c47 :: c48 :: c49 :: c50 :: c51 :: c52 :: c53 :: c54 :: c55 :: []), []⟩ W := by
  have hgd : ∀ h, (⟨d.toArray⟩ : ByteArray)[i]'h = c := fun h => by
    show (d.toArray[i]'h) = c
    rw [List.getElem_toArray]
    exact (List.getElem?_eq_some_iff.1 hi).2
  have hil : (i : Int) < (d.length : Int) := by have := (List.getElem?_eq_some_iff.1 hi).1; omega
  have a3 : IntKind.u8.wrap ((c.toNat : Int) - 48) = (v : Int) := by simp [IntKind.wrap, IntKind.bits, IntKind.signed]; omega
  have a4 : IntKind.i64.wrap (v : Int) = (v : Int) := IntWalk.i64_in _ (by omega)
  have HD := Lib.hid hdg
  have hv9 : Hid (v ≤ 9) := by show v ≤ 9; omega
  clear hdg hi hv hc1 hc2
  conv => arg 2; whnf
  refine wp_region_noPanic ?_
  go_region_with (first
    | (go_at_call 17; refine (times_dg _ _ n 10 L 1 _ (HD.out.bel (by repeat (first | exact bel_refl _ | refine bel_drew ?_ | refine bel_alloc ?_ _))) (dgCell _ _ 10 (by omega) (by simp [go_sem])) (by omega) (by omega)).mono ?_; rintro e w2 ⟨v2, rfl, dg2, hb2⟩; have DG2 := Lib.hid dg2; have HR2 := Lib.hid hb2; have HB2 := Lib.hid (bel_trans (show Below W.heap.size W _ by repeat (first | exact bel_refl _ | refine bel_drew ?_ | refine bel_alloc ?_ _)) hb2); clear dg2 hb2)
    | (go_at_call 16; refine (plus_big _ _ (n * 10) v (L + 1 + 1) 1 _ (DG2.out.bel (by repeat (first | exact bel_refl _ | refine bel_drew ?_ | refine bel_alloc ?_ _))) (by first | exact dgCell _ _ v (by have := hv9.out; omega) (by simp [go_sem]) | exact (dgCell _ _ v (by have := hv9.out; omega) (by simp [go_sem])).bel HR2.out) (by omega) (by omega)).mono ?_; rintro e w3 ⟨v3, rfl, dg3, hb3⟩; have DG3 := Lib.hid dg3; have HB3 := Lib.hid (bel_trans HB2.out (bel_trans (by repeat (first | exact bel_refl _ | refine bel_drew ?_ | refine bel_alloc ?_ _)) hb3)); clear dg3 hb3))
  all_goals refine NoPanic.normal ?_
  all_goals exact HN.out _ _ _ _ _ _ _ _ _ _ _ _ _ _ _ _ _ _ _ _ _ _ _ _ _ _ _ _ _ _ _ (DG3.out.le (by omega)) HB3.out
theorem takeD_snoc (d : List UInt8) (i : Nat) (c : UInt8) (h : d[i]? = some c) : d.take (i + 1) = d.take i ++ [c] := by rw [List.take_add_one, h]; rfl
/-- What holds at the loop's head: i digits are read. -/
structure OdS (w0 : World) (d : List UInt8) (i : Nat) (l : Value) (W : World) : Prop where
  ile : i ≤ d.length
  decs : Decs (d.take i)
  dg : ∃ n, Dg W l n (3 * i) ∧ ((n < 2 ^ 256 ∧ n = dv (d.take i)) ∨ (¬ n < 2 ^ 256 ∧ ¬ dv (d.take i) < 2 ^ 256))
  bel : Below w0.heap.size w0 W
theorem OdS.step {w0 W W' : World} {d : List UInt8} {i n v : Nat} {l l2 : Value} {c : UInt8} (h : OdS w0 d i l W) (hi : d[i]? = some c) (hc1 : 48 ≤ c.toNat) (hc2 : c.toNat ≤ 57) (hv : v = c.toNat - 48) (hn : n = dv (d.take i)) (hd : Dg W' l2 (n * 10 + v) (3 * i + 3)) (hb : Below W.heap.size W W') : OdS w0 d (i + 1) l2 W' := by
  have hlt := (List.getElem?_eq_some_iff.1 hi).1
  have e : dv (d.take (i + 1)) = n * 10 + v := by rw [takeD_snoc d i c hi, dv_snoc, hn, hv, Nat.mul_comm]
  refine ⟨by omega, ?_, ⟨n * 10 + v, hd.le (by omega), ?_⟩, bel_trans h.bel hb⟩
  · rw [takeD_snoc d i c hi, decs_append]
    refine ⟨h.decs, fun x hx => ?_⟩
    simp at hx
    subst hx
    exact ⟨hc1, hc2⟩
  · rw [e]
    by_cases k : n * 10 + v < 2 ^ 256
    · exact .inl ⟨k, rfl⟩
    · exact .inr ⟨k, k⟩
theorem OdS.skip {w0 W : World} {d : List UInt8} {i n : Nat} {l : Value} {c : UInt8} (h : OdS w0 d i l W) (hi : d[i]? = some c) (hc1 : 48 ≤ c.toNat) (hc2 : c.toNat ≤ 57) (hd : Dg W l n (3 * i)) (hn : ¬ n < 2 ^ 256) (hd2 : ¬ dv (d.take i) < 2 ^ 256) : OdS w0 d (i + 1) l W := by
  have hlt := (List.getElem?_eq_some_iff.1 hi).1
  refine ⟨by omega, ?_, ⟨n, hd.le (by omega), .inr ⟨hn, ?_⟩⟩, h.bel⟩
  · rw [takeD_snoc d i c hi, decs_append]
    refine ⟨h.decs, fun x hx => ?_⟩
    simp at hx
    subst hx
    exact ⟨hc1, hc2⟩
  · rw [takeD_snoc d i c hi]
    have := dv_mono (d.take i) [c]
    omega
set_option maxHeartbeats 4000000 in
set_option maxRecDepth 20000 in
theorem od_round (w0 : World) (d : List UInt8) (g i : Nat) (l : Value) (W : World) (Q : Exit → Act → World → Prop) (c1 c6 c7 c8 c9 c10 c11 c12 c13 c14 c15 c16 c46 c47 c48 c49 c50 c51 c52 c53 c54 c55 v17 v18 v19 v20 v21 v22 v23 v24 v25 v26 v27 v28 v29 v30 v31 v32 v33 v34 v35 v36 v37 v38 v39 v40 v41 v42 v43 v44 v45 : Value)
    (H : OdS w0 d i l W) (hmax : d.length ≤ 65536) (hth : w0.there g 0 4)
    (HN : Hid (∀ (l : Value) (I : Int) (W' : World) (u17 u18 u19 u20 u21 u22 u23 u24 u25 u26 u27 u28 u29 u30 u31 u32 u33 u34 u35 u36 u37 u38 u39 u40 u41 u42 u43 u44 u45 : Value), i < d.length → I = ((i + 1 : Nat) : Int) → OdS w0 d (i + 1) l W' → Q .normal ⟨List.toArray (.string ⟨d.toArray⟩ :: c1 :: .pointer (some ⟨g, 0, none⟩) :: .bool false :: l :: .int .i64 I :: c6 :: c7 :: c8 :: c9 :: c10 :: c11 :: c12 :: c13 :: c14 :: c15 :: c16 :: u17 :: u18 :: u19 :: u20 :: u21 :: u22 :: u23 :: u24 :: u25 :: u26 :: u27 :: u28 :: u29 :: u30 :: u31 :: u32 :: u33 :: u34 :: u35 :: u36 :: u37 :: u38 :: u39 :: u40 :: u41 :: u42 :: u43 :: u44 :: u45 :: c46 :: c47 :: c48 :: c49 :: c50 :: c51 :: c52 :: c53 :: c54 :: c55 :: []), []⟩ W'))
    (HB : Hid (∀ (I : Int) (W' : World) (u17 u18 u19 u20 u21 u22 u23 u24 u25 u26 u27 u28 u29 u30 u31 u32 u33 u34 u35 u36 u37 u38 u39 u40 u41 u42 u43 u44 u45 : Value), ¬ Decs d → Below w0.heap.size w0 W' → Q .ret ⟨List.toArray (.string ⟨d.toArray⟩ :: c1 :: .pointer (some ⟨g, 0, none⟩) :: .bool false :: l :: .int .i64 I :: c6 :: c7 :: c8 :: c9 :: c10 :: c11 :: c12 :: c13 :: c14 :: c15 :: c16 :: u17 :: u18 :: u19 :: u20 :: u21 :: u22 :: u23 :: u24 :: u25 :: u26 :: u27 :: u28 :: u29 :: u30 :: u31 :: u32 :: u33 :: u34 :: u35 :: u36 :: u37 :: u38 :: u39 :: u40 :: u41 :: u42 :: u43 :: u44 :: u45 :: c46 :: c47 :: c48 :: c49 :: c50 :: c51 :: c52 :: c53 :: c54 :: c55 :: []), []⟩ (W'.setCells g 0 [V zeroR.a, V zeroR.b, V zeroR.c, V zeroR.d])))
    (HX : Hid (∀ (I : Int) (W' : World) (u17 u18 u19 u20 u21 u22 u23 u24 u25 u26 u27 u28 u29 u30 u31 u32 u33 u34 u35 u36 u37 u38 u39 u40 u41 u42 u43 u44 u45 : Value), i = d.length → OdS w0 d i l W' → Q (.exit 0) ⟨List.toArray (.string ⟨d.toArray⟩ :: c1 :: .pointer (some ⟨g, 0, none⟩) :: .bool false :: l :: .int .i64 I :: c6 :: c7 :: c8 :: c9 :: c10 :: c11 :: c12 :: c13 :: c14 :: c15 :: c16 :: u17 :: u18 :: u19 :: u20 :: u21 :: u22 :: u23 :: u24 :: u25 :: u26 :: u27 :: u28 :: u29 :: u30 :: u31 :: u32 :: u33 :: u34 :: u35 :: u36 :: u37 :: u38 :: u39 :: u40 :: u41 :: u42 :: u43 :: u44 :: u45 :: c46 :: c47 :: c48 :: c49 :: c50 :: c51 :: c52 :: c53 :: c54 :: c55 :: []), []⟩ W')) :
    Code.wp Tryd.prog odBody Q ⟨List.toArray (.string ⟨d.toArray⟩ :: c1 :: .pointer (some ⟨g, 0, none⟩) :: .bool false :: l :: .int .i64 (i : Int) :: c6 :: c7 :: c8 :: c9 :: c10 :: c11 :: c12 :: c13 :: c14 :: c15 :: c16 :: v17 :: v18 :: v19 :: v20 :: v21 :: v22 :: v23 :: v24 :: v25 :: v26 :: v27 :: v28 :: v29 :: v30 :: v31 :: v32 :: v33 :: v34 :: v35 :: v36 :: v37 :: v38 :: v39 :: v40 :: v41 :: v42 :: v43 :: v44 :: v45 :: c46 :: c47 :: c48 :: c49 :: c50 :: c51 :: c52 :: c53 :: c54 :: c55 :: []), []⟩ W := by
  rcases Nat.eq_or_lt_of_le H.ile with h0 | h0
  · have HH := Lib.hid H
    have HT := Lib.hid hth
    have hni : ¬ (i : Int) < (d.length : Int) := by omega
    clear H hth
    conv => arg 2; whnf
    go_wp2
    exact HX.out _ _ _ _ _ _ _ _ _ _ _ _ _ _ _ _ _ _ _ _ _ _ _ _ _ _ _ _ _ _ _ h0 HH.out
  · obtain ⟨c, hc⟩ : ∃ c, d[i]? = some c := ⟨_, List.getElem?_eq_getElem h0⟩
    have hgd : ∀ h, (⟨d.toArray⟩ : ByteArray)[i]'h = c := by
      intro h
      show (d.toArray[i]'h) = c
      rw [List.getElem_toArray]
      exact (List.getElem?_eq_some_iff.1 hc).2
    have hil : (i : Int) < (d.length : Int) := by omega
    have HLT := Lib.hid h0
    have HC := Lib.hid hc
    have hth2 := thereR_bel hth (by omega) H.bel
    have HH := Lib.hid H
    have hmem : c ∈ d := List.mem_of_getElem? hc
    clear H hth hc h0
    by_cases h1 : 48 ≤ c.toNat
    · have h1i : ¬ (c.toNat : Int) < 48 := by omega
      by_cases h2 : c.toNat ≤ 57
      · have h2i : ¬ (57 : Int) < (c.toNat : Int) := by omega
        obtain ⟨n, hdg, hn⟩ := HH.out.dg
        have HDG := Lib.hid hdg
        have FI := Lib.hid (fits_big l n _ W hdg (by omega))
        have HC1 := Lib.hid h1
        have HC2 := Lib.hid h2
        clear hdg h1 h2 hth2 hmem
        rcases hn with ⟨hn1, hn2⟩ | ⟨hn1, hn2⟩
        · rw [decide_eq_true hn1] at FI
          have HNE := Lib.hid hn2
          clear hn1 hn2
          conv => arg 2; whnf
          go_upto_region 10 with (go_at_call 15; refine FI.out.mono ?_; rintro e w1 ⟨rfl, hw1⟩; subst hw1)
          refine od_step d g i n _ _ c l W _ _ _ _ _ _ _ _ _ _ _ _ _ _ _ _ _ _ _ _ _ _ _ _ _ _ _ _ _ _ _ _ _ _ _ _ _ _ _ _ _ _ _ _ _ _ _ _ _ _ _ _ HDG.out (by omega) HC.out HC1.out HC2.out rfl ?_
          show ∀ _, _
          intro l2 W2 u17 u18 u19 u20 u21 u22 u23 u24 u25 u26 u27 u28 u29 u30 u31 u32 u33 u34 u35 u36 u37 u38 u39 u40 u41 u42 u43 u44 u45 hd2 hb2
          have HS := Lib.hid (HH.out.step HC.out HC1.out HC2.out rfl HNE.out hd2 hb2)
          clear hd2 hb2
          go_wp2
          exact HN.out _ _ _ _ _ _ _ _ _ _ _ _ _ _ _ _ _ _ _ _ _ _ _ _ _ _ _ _ _ _ _ _ HLT.out (by omega) HS.out
        · rw [decide_eq_false hn1] at FI
          have HS := Lib.hid (HH.out.skip HC.out HC1.out HC2.out HDG.out hn1 hn2)
          clear hn1 hn2
          conv => arg 2; whnf
          go_wp2_with (go_at_call 15; refine FI.out.mono ?_; rintro e w1 ⟨rfl, hw1⟩; subst hw1)
          exact HN.out _ _ _ _ _ _ _ _ _ _ _ _ _ _ _ _ _ _ _ _ _ _ _ _ _ _ _ _ _ _ _ _ HLT.out (by omega) HS.out
      · have h2i : (57 : Int) < (c.toNat : Int) := by omega
        have HND : Hid (¬ Decs d) := fun k => h2 (k c hmem).2
        clear hmem h1 h2
        conv => arg 2; whnf
        go_wp2_with (show wpList _ _ _ (⟨none, Op.store 24 _ _, _, _, _, _⟩ :: _) _ _; refine wpList_store_mid (op := ⟨none, Op.store 24 (.tmp 2) (.tmp 33), _, _, _, _⟩) rfl 24 _ _ rfl g 0 [V zeroR.a, V zeroR.b, V zeroR.c, V zeroR.d].toArray rfl rfl hth2 (by kernel_rfl) (by simp [Value.oneCell']) ?_)
        exact HB.out _ _ _ _ _ _ _ _ _ _ _ _ _ _ _ _ _ _ _ _ _ _ _ _ _ _ _ _ _ _ _ HND.out HH.out.bel
    · have h1i : (c.toNat : Int) < 48 := by omega
      have HND : Hid (¬ Decs d) := fun k => h1 (k c hmem).1
      clear hmem h1
      conv => arg 2; whnf
      go_wp2_with (show wpList _ _ _ (⟨none, Op.store 24 _ _, _, _, _, _⟩ :: _) _ _; refine wpList_store_mid (op := ⟨none, Op.store 24 (.tmp 2) (.tmp 33), _, _, _, _⟩) rfl 24 _ _ rfl g 0 [V zeroR.a, V zeroR.b, V zeroR.c, V zeroR.d].toArray rfl rfl hth2 (by kernel_rfl) (by simp [Value.oneCell']) ?_)
      exact HB.out _ _ _ _ _ _ _ _ _ _ _ _ _ _ _ _ _ _ _ _ _ _ _ _ _ _ _ _ _ _ _ HND.out HH.out.bel
/-- The loop. -/
def OdI (w0 : World) (d : List UInt8) (g : Nat) (c1 c6 c7 c8 c9 c10 c11 c12 c13 c14 c15 c16 c46 c47 c48 c49 c50 c51 c52 c53 c54 c55 : Value) (a : Act) (W : World) : Prop :=
  ∃ (u17 u18 u19 u20 u21 u22 u23 u24 u25 u26 u27 u28 u29 u30 u31 u32 u33 u34 u35 u36 u37 u38 u39 u40 u41 u42 u43 u44 u45 : Value), ∃ (i : Nat) (l : Value) (I : Int), I = (i : Int) ∧ OdS w0 d i l W ∧ a = ⟨List.toArray (.string ⟨d.toArray⟩ :: c1 :: .pointer (some ⟨g, 0, none⟩) :: .bool false :: l :: .int .i64 I :: c6 :: c7 :: c8 :: c9 :: c10 :: c11 :: c12 :: c13 :: c14 :: c15 :: c16 :: u17 :: u18 :: u19 :: u20 :: u21 :: u22 :: u23 :: u24 :: u25 :: u26 :: u27 :: u28 :: u29 :: u30 :: u31 :: u32 :: u33 :: u34 :: u35 :: u36 :: u37 :: u38 :: u39 :: u40 :: u41 :: u42 :: u43 :: u44 :: u45 :: c46 :: c47 :: c48 :: c49 :: c50 :: c51 :: c52 :: c53 :: c54 :: c55 :: []), []⟩
def muOd (n : Nat) (a : Act) (_ : World) : Nat := ((n : Int) - RowKit.intOf (a.tmps[5]?.getD undef)).toNat
set_option maxHeartbeats 4000000 in
set_option maxRecDepth 20000 in
theorem od_loop (w0 : World) (d : List UInt8) (g i : Nat) (l : Value) (I : Int) (W : World) (Q : Exit → Act → World → Prop) (c1 c6 c7 c8 c9 c10 c11 c12 c13 c14 c15 c16 c46 c47 c48 c49 c50 c51 c52 c53 c54 c55 v17 v18 v19 v20 v21 v22 v23 v24 v25 v26 v27 v28 v29 v30 v31 v32 v33 v34 v35 v36 v37 v38 v39 v40 v41 v42 v43 v44 v45 : Value)
    (H : OdS w0 d i l W) (hI : I = (i : Int)) (hmax : d.length ≤ 65536) (hth : w0.there g 0 4)
    (HB : Hid (∀ (l : Value) (I : Int) (W' : World) (u17 u18 u19 u20 u21 u22 u23 u24 u25 u26 u27 u28 u29 u30 u31 u32 u33 u34 u35 u36 u37 u38 u39 u40 u41 u42 u43 u44 u45 : Value), ¬ Decs d → Below w0.heap.size w0 W' → Q .ret ⟨List.toArray (.string ⟨d.toArray⟩ :: c1 :: .pointer (some ⟨g, 0, none⟩) :: .bool false :: l :: .int .i64 I :: c6 :: c7 :: c8 :: c9 :: c10 :: c11 :: c12 :: c13 :: c14 :: c15 :: c16 :: u17 :: u18 :: u19 :: u20 :: u21 :: u22 :: u23 :: u24 :: u25 :: u26 :: u27 :: u28 :: u29 :: u30 :: u31 :: u32 :: u33 :: u34 :: u35 :: u36 :: u37 :: u38 :: u39 :: u40 :: u41 :: u42 :: u43 :: u44 :: u45 :: c46 :: c47 :: c48 :: c49 :: c50 :: c51 :: c52 :: c53 :: c54 :: c55 :: []), []⟩ (W'.setCells g 0 [V zeroR.a, V zeroR.b, V zeroR.c, V zeroR.d])))
    (HX : Hid (∀ (l : Value) (I : Int) (W' : World) (u17 u18 u19 u20 u21 u22 u23 u24 u25 u26 u27 u28 u29 u30 u31 u32 u33 u34 u35 u36 u37 u38 u39 u40 u41 u42 u43 u44 u45 : Value), OdS w0 d d.length l W' → Q (.exit 0) ⟨List.toArray (.string ⟨d.toArray⟩ :: c1 :: .pointer (some ⟨g, 0, none⟩) :: .bool false :: l :: .int .i64 I :: c6 :: c7 :: c8 :: c9 :: c10 :: c11 :: c12 :: c13 :: c14 :: c15 :: c16 :: u17 :: u18 :: u19 :: u20 :: u21 :: u22 :: u23 :: u24 :: u25 :: u26 :: u27 :: u28 :: u29 :: u30 :: u31 :: u32 :: u33 :: u34 :: u35 :: u36 :: u37 :: u38 :: u39 :: u40 :: u41 :: u42 :: u43 :: u44 :: u45 :: c46 :: c47 :: c48 :: c49 :: c50 :: c51 :: c52 :: c53 :: c54 :: c55 :: []), []⟩ W')) :
    Code.wp Tryd.prog (.loop odBody) Q ⟨List.toArray (.string ⟨d.toArray⟩ :: c1 :: .pointer (some ⟨g, 0, none⟩) :: .bool false :: l :: .int .i64 I :: c6 :: c7 :: c8 :: c9 :: c10 :: c11 :: c12 :: c13 :: c14 :: c15 :: c16 :: v17 :: v18 :: v19 :: v20 :: v21 :: v22 :: v23 :: v24 :: v25 :: v26 :: v27 :: v28 :: v29 :: v30 :: v31 :: v32 :: v33 :: v34 :: v35 :: v36 :: v37 :: v38 :: v39 :: v40 :: v41 :: v42 :: v43 :: v44 :: v45 :: c46 :: c47 :: c48 :: c49 :: c50 :: c51 :: c52 :: c53 :: c54 :: c55 :: []), []⟩ W := by
  refine wp_loop (OdI w0 d g c1 c6 c7 c8 c9 c10 c11 c12 c13 c14 c15 c16 c46 c47 c48 c49 c50 c51 c52 c53 c54 c55) (muOd d.length) ?_ ?_
  · exact ⟨v17, v18, v19, v20, v21, v22, v23, v24, v25, v26, v27, v28, v29, v30, v31, v32, v33, v34, v35, v36, v37, v38, v39, v40, v41, v42, v43, v44, v45, i, l, I, hI, H, rfl⟩
  · intro A W1 hI
    obtain ⟨u17, hI⟩ := hI
    obtain ⟨u18, hI⟩ := hI
    obtain ⟨u19, hI⟩ := hI
    obtain ⟨u20, hI⟩ := hI
    obtain ⟨u21, hI⟩ := hI
    obtain ⟨u22, hI⟩ := hI
    obtain ⟨u23, hI⟩ := hI
    obtain ⟨u24, hI⟩ := hI
    obtain ⟨u25, hI⟩ := hI
    obtain ⟨u26, hI⟩ := hI
    obtain ⟨u27, hI⟩ := hI
    obtain ⟨u28, hI⟩ := hI
    obtain ⟨u29, hI⟩ := hI
    obtain ⟨u30, hI⟩ := hI
    obtain ⟨u31, hI⟩ := hI
    obtain ⟨u32, hI⟩ := hI
    obtain ⟨u33, hI⟩ := hI
    obtain ⟨u34, hI⟩ := hI
    obtain ⟨u35, hI⟩ := hI
    obtain ⟨u36, hI⟩ := hI
    obtain ⟨u37, hI⟩ := hI
    obtain ⟨u38, hI⟩ := hI
    obtain ⟨u39, hI⟩ := hI
    obtain ⟨u40, hI⟩ := hI
    obtain ⟨u41, hI⟩ := hI
    obtain ⟨u42, hI⟩ := hI
    obtain ⟨u43, hI⟩ := hI
    obtain ⟨u44, hI⟩ := hI
    obtain ⟨u45, hI⟩ := hI
    obtain ⟨i, l, I, rfl, H, rfl⟩ := hI
    refine od_round w0 d g i l W1 _ c1 c6 c7 c8 c9 c10 c11 c12 c13 c14 c15 c16 c46 c47 c48 c49 c50 c51 c52 c53 c54 c55 _ _ _ _ _ _ _ _ _ _ _ _ _ _ _ _ _ _ _ _ _ _ _ _ _ _ _ _ _ H hmax hth ?_ ?_ ?_
    · show ∀ _, _
      intro l2 I2 W2 u17 u18 u19 u20 u21 u22 u23 u24 u25 u26 u27 u28 u29 u30 u31 u32 u33 u34 u35 u36 u37 u38 u39 u40 u41 u42 u43 u44 u45 hlt hI2 HW
      refine ⟨⟨u17, u18, u19, u20, u21, u22, u23, u24, u25, u26, u27, u28, u29, u30, u31, u32, u33, u34, u35, u36, u37, u38, u39, u40, u41, u42, u43, u44, u45, i + 1, l2, I2, hI2, HW, rfl⟩, ?_⟩
      show ((d.length : Int) - RowKit.intOf (.int .i64 I2)).toNat < ((d.length : Int) - RowKit.intOf (.int .i64 (i : Int))).toNat
      simp only [RowKit.intOf]
      omega
    · show ∀ _, _
      intro I2 W2 u17 u18 u19 u20 u21 u22 u23 u24 u25 u26 u27 u28 u29 u30 u31 u32 u33 u34 u35 u36 u37 u38 u39 u40 u41 u42 u43 u44 u45 hnd hb
      exact HB.out _ _ _ u17 u18 u19 u20 u21 u22 u23 u24 u25 u26 u27 u28 u29 u30 u31 u32 u33 u34 u35 u36 u37 u38 u39 u40 u41 u42 u43 u44 u45 hnd hb
    · show ∀ _, _
      intro I2 W2 u17 u18 u19 u20 u21 u22 u23 u24 u25 u26 u27 u28 u29 u30 u31 u32 u33 u34 u35 u36 u37 u38 u39 u40 u41 u42 u43 u44 u45 hi HW
      rw [hi] at HW
      exact HX.out _ _ _ u17 u18 u19 u20 u21 u22 u23 u24 u25 u26 u27 u28 u29 u30 u31 u32 u33 u34 u35 u36 u37 u38 u39 u40 u41 u42 u43 u44 u45 HW
end Go.Proofs.YtfaocjcpnjmfiaaDoor
