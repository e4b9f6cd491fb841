/-
  uint256's fromDecimal.
-/
import Derived.Test.YtfaocjcpnjmfiaaDoorDecRdLaw
import Derived.Test.YtfaocjcpnjmfiaaDoorShelf
import Derived.Test.YtfaocjcpnjmfiaaDoorMul
import Derived.Test.YtfaocjcpnjmfiaaDoorRow
import Derived.Test.YtfaocjcpnjmfiaaDoorDiv6
import Derived.Test.YtfaocjcpnjmfiaaDoorImpl0
import Derived.Deep.DeepCutAuto
import Derived.Deep.CutBlock
set_option linter.unusedVariables false
set_option linter.unusedSimpArgs false
namespace Go.Proofs.YtfaocjcpnjmfiaaDoor
open Go.RowKit
/-- An error that is there. -/
def IsErr (v : Value) : Prop := ∃ t u, v = .iface t u
/-- What strconv.ErrSyntax holds. -/
def SynE (w : World) : Prop := ∃ t u, w.cell? ⟨8, 0, none⟩ = some (.iface t u)
theorem SynE.bel {w w' : World} (h : SynE w) (k : Below w.heap.size w w') : SynE w' := by
  obtain ⟨t, u, h⟩ := h
  exact ⟨t, u, bel_cell k h⟩
theorem SynE.but {w w' : World} {b : Nat} (h : SynE w) (k : But [b] w w') (hb : 8 < b) : SynE w' := by
  obtain ⟨t, u, h⟩ := h
  exact ⟨t, u, k.cell (by simp; omega) h⟩
theorem parseGrp (l : List UInt8) (h0 : l ≠ []) (hl : l.length ≤ 19) (w : World) (he : SynE w) :
    Calls Tryd.prog 41 #[.string ⟨l.toArray⟩, .int .i64 10, .int .i64 64] w fun e w' => Below w.heap.size w w' ∧
      ((Decs l ∧ e = .returned (.tuple #[V (BitVec.ofNat 64 (dv l)), .nilIface])) ∨ (¬ Decs l ∧ ∃ t u, e = .returned (.tuple #[.int .u64 0, .iface t u]))) := by
  obtain ⟨h1, h2⟩ := parse_group l h0 hl
  by_cases hd : Decs l
  · refine (Tryd.strconv_ParseUint_10_at64_ok ⟨l.toArray⟩ (by show l.length ≤ _; omega) (dv l) (h1 hd) w).mono ?_
    rintro e w' ⟨rfl, hw⟩
    refine ⟨?_, .inl ⟨hd, ?_⟩⟩
    · rcases hw with rfl | rfl
      · exact bel_refl _
      · exact Lib.bytesWorld_below _ _ _
    · have hv : (BitVec.ofNat 64 (dv l)).toNat = dv l := by
        rw [BitVec.toNat_ofNat, Nat.mod_eq_of_lt]
        have k := dv_lt l hd
        have k2 : 10 ^ l.length ≤ 10 ^ 19 := Nat.pow_le_pow_right (by omega) hl
        have k3 : (10 : Nat) ^ 19 < 2 ^ 64 := by decide
        omega
      show _ = Ending.returned (.tuple #[.int .u64 (U (BitVec.ofNat 64 (dv l))), .nilIface])
      unfold U
      rw [hv]
  · obtain ⟨t, u, hc⟩ := he
    refine (Tryd.strconv_ParseUint_10_at64_bad ⟨l.toArray⟩ (by show l.length ≤ _; omega) (h2 hd) _ w hc (.inr ⟨t, u, rfl⟩)).mono ?_
    rintro e w' ⟨N, rfl, _, _, hb⟩
    exact ⟨hb, .inr ⟨hd, _, _, rfl⟩⟩
/-- The table of multipliers. -/
structure MulT (a : Nat → Addr) (w : World) : Prop where
  c0 : w.cell? ⟨3, 0, none⟩ = some (.pointer none)
  cp : ∀ j, 1 ≤ j → j ≤ 4 → w.cell? ⟨3, j, none⟩ = some (.pointer (some ⟨(a j).block, (a j).off, none⟩))
  at4 : ∀ j, 1 ≤ j → j ≤ 4 → At4 w (a j).block (a j).off (ofN (10 ^ (19 * j)))
theorem MulT.bel {a : Nat → Addr} {w w' : World} (h : MulT a w) (k : Below w.heap.size w w') : MulT a w' :=
  ⟨bel_cell k h.c0, fun j h1 h2 => bel_cell k (h.cp j h1 h2), fun j h1 h2 => (h.at4 j h1 h2).bel k⟩
noncomputable def mulMS (a : Nat → Addr) : Array Value := #[.pointer none, .pointer (some ⟨(a 1).block, (a 1).off, none⟩), .pointer (some ⟨(a 2).block, (a 2).off, none⟩), .pointer (some ⟨(a 3).block, (a 3).off, none⟩), .pointer (some ⟨(a 4).block, (a 4).off, none⟩)]
/-- What holds at the head of round j. -/
structure FdS (w0 : World) (b : Nat) (s : List UInt8) (j : Nat) (W : World) : Prop where
  at4 : At4 W b 0 (ofN (dv (tailD s j)))
  free : Free4 W b 0
  but : But [b] w0 W
  decs : Decs (tailD s j)
/-- The loops' bodies in a code, not those within them. -/
def loopsFD : Code → List Code
  | .loop c => [c]
  | .seq a b => loopsFD a ++ loopsFD b
  | .block _ c => loopsFD c
  | .scope c => loopsFD c
  | .cond _ a b => loopsFD a ++ loopsFD b
  | _ => []
noncomputable def fdBody : Code := ((Tryd.f38.body.map loopsFD).getD []).headD .skip
theorem grp_sub (s : List UInt8) (j : Nat) (h : Decs s) : Decs (grpD s j) := fun c hc => h c (by
  unfold grpD headD at hc
  exact List.mem_of_mem_take (List.mem_of_mem_drop hc))
theorem fd_add (g j t : Nat) (hg : g < 10 ^ 19) : ((ofN t).add ((⟨BitVec.ofNat 64 g, 0#64, 0#64, 0#64⟩ : N4).mul (ofN (10 ^ (19 * j))))) = ofN (g * 10 ^ (19 * j) + t) := by
  have h64 : g < 2 ^ 64 := Nat.lt_trans hg (by decide)
  have e1 : (⟨BitVec.ofNat 64 g, 0#64, 0#64, 0#64⟩ : N4) = ofN g := (ofN_small g _ (by rw [BitVec.toNat_ofNat, Nat.mod_eq_of_lt h64])).symm
  apply toNat_inj
  rw [add_toNat, mul_toNat, e1, ofN_toNat, ofN_toNat, ofN_toNat, ofN_toNat, ← Nat.mul_mod, Nat.add_mod, Nat.mod_mod, Nat.mod_mod, ← Nat.add_mod, Nat.add_comm]
theorem fds_next0 {w0 : World} {b j : Nat} {s : List UInt8} {W w1 w2 : World} {X : W64} {n : Nat} (hj : j = 0) (H : FdS w0 b s j W) (h1 : Below W.heap.size W w1) (h2 : w2 = (put4 w1 b 0 ⟨X, 0#64, 0#64, 0#64⟩).drewN n) (hX : X = BitVec.ofNat 64 (dv (grpD s j))) (hd : Decs (grpD s j)) (hl : 19 * j < s.length) : FdS w0 b s (j + 1) w2 := by
  subst hj
  subst h2
  have hlt := H.at4.lt
  have hg : dv (grpD s 0) < 2 ^ 64 := by
    have k := dv_lt _ hd
    have k2 : 10 ^ (grpD s 0).length ≤ 10 ^ 19 := Nat.pow_le_pow_right (by omega) (by rw [grpD_length]; omega)
    have k3 : (10 : Nat) ^ 19 < 2 ^ 64 := by decide
    omega
  refine ⟨?_, ?_, ?_, ?_⟩
  · rw [dv_tail s 0 (by omega), tailD_zero, dv_nil, Nat.mul_zero, Nat.pow_zero, Nat.mul_one, Nat.add_zero, ofN_small (dv (grpD s 0)) X (by rw [hX, BitVec.toNat_ofNat, Nat.mod_eq_of_lt hg])]
    exact At4.drewN (put4_at _ _ _ _ _ (H.at4.bel h1)) _
  · exact Free4.drewN (Free4.put _ (H.free.bel hlt h1)) _
  · exact ((H.but.trans (But.of_bel h1)).put4 (.inl (by simp)) _ _).drewN _
  · rw [tailD_succ, decs_append]
    exact ⟨hd, H.decs⟩
theorem fds_mult {w0 : World} {b : Nat} {s : List UInt8} {j g o B : Nat} {W w1 w2 : World} {x y : N4} (H : FdS w0 b s j W) (hm : At4 w0 g o x) (hg : g ≠ b) (h1 : Below W.heap.size W w1) (h2 : New4 w1 w2 B y) : At4 w2 g o x :=
  ((hm.but H.but (by simpa using hg)).bel h1).bel h2.bel
theorem fds_ne {w0 : World} {b : Nat} {s : List UInt8} {j B : Nat} {W w1 w2 : World} {y : N4} (H : FdS w0 b s j W) (h1 : Below W.heap.size W w1) (h2 : New4 w1 w2 B y) : b < B := by
  have := H.at4.lt
  have := h1.size
  have := h2.ge
  omega
theorem fds_z {w0 : World} {b : Nat} {s : List UInt8} {j B n : Nat} {W w1 w2 w3 : World} {y v : N4} (H : FdS w0 b s j W) (h1 : Below W.heap.size W w1) (h2 : New4 w1 w2 B y) (h3 : w3 = (put4 w2 B 0 v).drewN n) : At4 w3 b 0 (ofN (dv (tailD s j))) := by
  subst h3
  have := fds_ne H h1 h2
  exact At4.drewN (put4_far ((H.at4.bel h1).bel h2.bel) (fun e => absurd e (by omega))) _
theorem fds_zf {w0 : World} {b : Nat} {s : List UInt8} {j B n : Nat} {W w1 w2 w3 : World} {y v : N4} (H : FdS w0 b s j W) (h1 : Below W.heap.size W w1) (h2 : New4 w1 w2 B y) (h3 : w3 = (put4 w2 B 0 v).drewN n) : Free4 w3 b 0 := by
  subst h3
  have h4 := H.at4.lt
  have h5 := h1.size
  exact Free4.drewN (Free4.put _ ((H.free.bel h4 h1).bel (by omega) h2.bel)) _
theorem fds_base {B n : Nat} {w1 w2 w3 : World} {y v : N4} (h2 : New4 w1 w2 B y) (h3 : w3 = (put4 w2 B 0 v).drewN n) : At4 w3 B 0 v := by
  subst h3
  exact At4.drewN (put4_at _ _ _ _ _ h2.at4) _
theorem fds_sep (b : Nat) : Sep b 0 b 0 := Sep.rfl' b 0
theorem fds_sep2 {w0 : World} {b : Nat} {s : List UInt8} {j B : Nat} {W w1 w2 : World} {y : N4} (H : FdS w0 b s j W) (h1 : Below W.heap.size W w1) (h2 : New4 w1 w2 B y) : Sep b 0 B 0 := Sep.blocks (by have := fds_ne H h1 h2; omega)
theorem fds_next {w0 : World} {b : Nat} {s : List UInt8} {j B n3 n4 : Nat} {W w1 w2 w3 w4 : World} {X : W64} (H : FdS w0 b s j W) (h1 : Below W.heap.size W w1) (h2 : New4 w1 w2 B ⟨X, 0#64, 0#64, 0#64⟩) (h3 : w3 = (put4 w2 B 0 ((⟨X, 0#64, 0#64, 0#64⟩ : N4).mul (ofN (10 ^ (19 * j))))).drewN n3)
    (h4 : w4 = (put4 w3 b 0 ((ofN (dv (tailD s j))).add ((⟨X, 0#64, 0#64, 0#64⟩ : N4).mul (ofN (10 ^ (19 * j)))))).drewN n4) (hX : X = BitVec.ofNat 64 (dv (grpD s j))) (hd : Decs (grpD s j)) (hl : 19 * j < s.length) : FdS w0 b s (j + 1) w4 := by
  have hz := fds_z H h1 h2 h3
  have hzf := fds_zf H h1 h2 h3
  have hne := fds_ne H h1 h2
  have hg : dv (grpD s j) < 10 ^ 19 := by
    have k := dv_lt _ hd
    have k2 : 10 ^ (grpD s j).length ≤ 10 ^ 19 := Nat.pow_le_pow_right (by omega) (by rw [grpD_length]; omega)
    omega
  subst h4
  refine ⟨?_, ?_, ?_, ?_⟩
  · rw [dv_tail s j (by omega), ← fd_add _ j _ hg, ← hX]
    exact At4.drewN (put4_at _ _ _ _ _ hz) _
  · exact Free4.drewN (Free4.put _ hzf) _
  · refine But.drewN (But.put4 ?_ (.inl (by simp)) _ _) _
    subst h3
    have k1 : But [b] W w2 := (But.of_bel h1).trans (But.of_bel h2.bel)
    have k2 := H.but.trans k1
    have hs := k2.size
    refine But.drewN (But.put4 k2 (.inr ?_) _ _) _
    have := H.but.size
    have := h1.size
    have := h2.ge
    omega
  · rw [tailD_succ, decs_append]
    exact ⟨hd, H.decs⟩
theorem idxMul (a : Nat → Addr) (j : Nat) (hj : j ≤ 4) : ∃ Mv, (∀ w, (Instr.index 58 (.agg (mulMS a)) (.int .i64 (j : Int))).run Tryd.prog w = .ok Mv w) ∧ (j ≠ 0 → Mv = .pointer (some ⟨(a j).block, (a j).off, none⟩)) := by
  rcases (by omega : j = 0 ∨ j = 1 ∨ j = 2 ∨ j = 3 ∨ j = 4) with rfl | rfl | rfl | rfl | rfl
  · exact ⟨.pointer none, fun w => by unfold mulMS; kernel_rfl, fun h => absurd rfl h⟩
  · exact ⟨_, fun w => by unfold mulMS; kernel_rfl, fun _ => rfl⟩
  · exact ⟨_, fun w => by unfold mulMS; kernel_rfl, fun _ => rfl⟩
  · exact ⟨_, fun w => by unfold mulMS; kernel_rfl, fun _ => rfl⟩
  · exact ⟨_, fun w => by unfold mulMS; kernel_rfl, fun _ => rfl⟩
set_option maxHeartbeats 4000000 in
set_option maxRecDepth 20000 in
/-- A round that reads a group. -/
theorem fd_round (w0 : World) (b : Nat) (s L G T : List UInt8) (j : Nat) (MS : Array Value) (Mv : Value) (W : World) (Q : Exit → Act → World → Prop) (c2 c3 c11 c12 c13 c14 c15 c16 c17 v5 v6 v8 v9 v10 v20 v21 v22 v23 v24 v25 v26 v27 v28 v29 v30 v31 v32 v33 v34 v35 v36 v37 v38 v39 v40 v41 v42 v43 v44 v45 v46 v47 v48 v49 v50 v51 v52 v53 v54 v55 v56 v57 v58 v59 v60 v61 v62 v63 v64 v65 v66 : Value)
    (H : FdS w0 b s j W) (hL : L = headD s j) (hG : G = grpD s j) (hT : T = headD s (j + 1)) (hj : j ≤ 4) (hlt : 19 * j < s.length) (hs : s.length ≤ 78) (hes : SynE w0) (hbe : 8 < b)
    (hidx : ∀ w, (Instr.index 58 (.agg MS) (.int .i64 (j : Int))).run Tryd.prog w = .ok Mv w)
    (hM : j ≠ 0 → ∃ g o, Mv = .pointer (some ⟨g, o, none⟩) ∧ At4 w0 g o (ofN (10 ^ (19 * j))) ∧ g ≠ b)
    (HN : Hid (∀ (J I : Int) (B : ByteArray) (W' : World) (u5 u6 u8 u9 u10 u20 u21 u22 u23 u24 u25 u26 u27 u28 u29 u30 u31 u32 u33 u34 u35 u36 u37 u38 u39 u40 u41 u42 u43 u44 u45 u46 u47 u48 u49 u50 u51 u52 u53 u54 u55 u56 u57 u58 u59 u60 u61 u62 u63 u64 u65 u66 : Value), J = ((j + 1 : Nat) : Int) → I = (s.length : Int) - 19 * J → (19 * (j + 1) < s.length → B = ⟨T.toArray⟩) → FdS w0 b s (j + 1) W' → Q .normal ⟨List.toArray (.pointer (some ⟨b, 0, none⟩) :: .string B :: c2 :: c3 :: .nilIface :: u5 :: u6 :: .int .i64 I :: u8 :: u9 :: u10 :: c11 :: c12 :: c13 :: c14 :: c15 :: c16 :: c17 :: .agg MS :: .int .i64 J :: u20 :: u21 :: u22 :: u23 :: u24 :: u25 :: u26 :: u27 :: u28 :: u29 :: u30 :: u31 :: u32 :: u33 :: u34 :: u35 :: u36 :: u37 :: u38 :: u39 :: u40 :: u41 :: u42 :: u43 :: u44 :: u45 :: u46 :: u47 :: u48 :: u49 :: u50 :: u51 :: u52 :: u53 :: u54 :: u55 :: u56 :: u57 :: u58 :: u59 :: u60 :: u61 :: u62 :: u63 :: u64 :: u65 :: u66 :: []), []⟩ W'))
    (HB : Hid (∀ (ev : Value) (J I : Int) (B : ByteArray) (W' : World) (u5 u6 u8 u9 u10 u20 u21 u22 u23 u24 u25 u26 u27 u28 u29 u30 u31 u32 u33 u34 u35 u36 u37 u38 u39 u40 u41 u42 u43 u44 u45 u46 u47 u48 u49 u50 u51 u52 u53 u54 u55 u56 u57 u58 u59 u60 u61 u62 u63 u64 u65 u66 : Value), ¬ Decs s → IsErr ev → But [b] w0 W' → Q .ret ⟨List.toArray (.pointer (some ⟨b, 0, none⟩) :: .string B :: c2 :: c3 :: ev :: u5 :: u6 :: .int .i64 I :: u8 :: u9 :: u10 :: c11 :: c12 :: c13 :: c14 :: c15 :: c16 :: c17 :: .agg MS :: .int .i64 J :: u20 :: u21 :: u22 :: u23 :: u24 :: u25 :: u26 :: u27 :: u28 :: u29 :: u30 :: u31 :: u32 :: u33 :: u34 :: u35 :: u36 :: u37 :: u38 :: u39 :: u40 :: u41 :: u42 :: u43 :: u44 :: u45 :: u46 :: u47 :: u48 :: u49 :: u50 :: u51 :: u52 :: u53 :: u54 :: u55 :: u56 :: u57 :: u58 :: u59 :: u60 :: u61 :: u62 :: u63 :: u64 :: u65 :: u66 :: []), []⟩ W')) :
    Code.wp Tryd.prog fdBody Q ⟨List.toArray (.pointer (some ⟨b, 0, none⟩) :: .string ⟨L.toArray⟩ :: c2 :: c3 :: .nilIface :: v5 :: v6 :: .int .i64 (L.length : Int) :: v8 :: v9 :: v10 :: c11 :: c12 :: c13 :: c14 :: c15 :: c16 :: c17 :: .agg MS :: .int .i64 (j : Int) :: v20 :: v21 :: v22 :: v23 :: v24 :: v25 :: v26 :: v27 :: v28 :: v29 :: v30 :: v31 :: v32 :: v33 :: v34 :: v35 :: v36 :: v37 :: v38 :: v39 :: v40 :: v41 :: v42 :: v43 :: v44 :: v45 :: v46 :: v47 :: v48 :: v49 :: v50 :: v51 :: v52 :: v53 :: v54 :: v55 :: v56 :: v57 :: v58 :: v59 :: v60 :: v61 :: v62 :: v63 :: v64 :: v65 :: v66 :: []), []⟩ W := by
  have hLl : L.length = s.length - 19 * j := by rw [hL, headD_length]
  have hGl : G.length = min 19 L.length := by rw [hG, grpD_length, hLl]
  have hG0 : G ≠ [] := by rw [hG]; exact grpD_ne s j hlt
  have PG := Lib.hid (parseGrp G hG0 (by omega) W (hes.but H.but hbe))
  have HH := Lib.hid H
  have hj5 : (j : Int) < 5 := by omega
  have hL0 : ¬ (L.length : Int) ≤ 0 := by omega
  have hLm : (L.length : Int) ≤ 78 := by omega
  have hne : ¬ L = [] := by
    intro e
    rw [e] at hLl
    simp at hLl
    omega
  have HI : Hid ((L.length : Int) = (s.length : Int) - 19 * (j : Int)) := by show (_ : Int) = _; omega
  have HLT : Hid (19 * j < s.length) := hlt
  have hGe : Hid (L.drop (L.length - 19) = G) := by show _ = _; rw [hG, hL, headD_length]; rfl
  have hTe : Hid (19 < L.length → L.take (L.length - 19) = T) := fun _ => by rw [hT, hL, headD_length, headD_succ]
  have hGL : Hid (L.length ≤ 19 → G = L) := fun h => by rw [hG, hL]; exact headD_last s j (by omega)
  have hGb : Hid (G = grpD s j) := hG
  obtain ⟨X, hX⟩ : ∃ X, X = BitVec.ofNat 64 (dv G) := ⟨_, rfl⟩
  have HX := Lib.hid hX
  rw [← hX] at PG
  clear H hes hL hG hT hLl hGl hlt hX hG0
  by_cases h19 : 19 < L.length
  · have h19i : (19 : Int) < (L.length : Int) := by omega
    have hx1 : (⟨L.toArray⟩ : ByteArray).extract (L.length - 19) L.length = ⟨G.toArray⟩ := by
      apply ByteArray.ext
      rw [ByteArray.data_extract, ← hGe.out]
      simp
      exact List.take_of_length_le (by rw [List.length_drop]; omega)
    have hx2 : (⟨L.toArray⟩ : ByteArray).extract 0 (L.length - 19) = ⟨T.toArray⟩ := by
      apply ByteArray.ext
      rw [ByteArray.data_extract, ← hTe.out h19]
      simp
    have HNEXT : Hid ((L.length : Int) - 19 = (s.length : Int) - 19 * ((j + 1 : Nat) : Int)) := by show (_ : Int) = _; have := HI.out; omega
    have hGL2 : Hid (¬ L.length ≤ 19) := by show ¬ _; omega
    by_cases hd : Decs G
    · have PGo : Hid (Calls Tryd.prog 41 #[.string ⟨G.toArray⟩, .int .i64 10, .int .i64 64] W fun e w' => Below W.heap.size W w' ∧ e = .returned (.tuple #[V X, .nilIface])) := PG.out.mono fun e w' ⟨h1, h2⟩ => ⟨h1, by
        rcases h2 with ⟨_, h2⟩ | ⟨h2, _⟩
        · exact h2
        · exact absurd hd h2⟩
      have HD := Lib.hid hd
      clear PG hd
      by_cases hj0 : j = 0
      · have HJ0 := Lib.hid hj0
        have hj0i : ((j : Int) == 0) = true := by simp; omega
        clear hM hj0
        conv => arg 2; whnf
        go_wp2_with (first
          | (go_at_call 41; refine PGo.out.mono ?_; rintro e w1 ⟨hb1, rfl⟩; have HB1 := Lib.hid hb1; clear hb1)
          | (go_at_call 42; refine (setUint64_any b 0 (ofN (dv (tailD s j))) X _ (HH.out.at4.bel HB1.out) (HH.out.free.bel HH.out.at4.lt HB1.out)).mono ?_; rintro e w2 ⟨rfl, n2, hw2⟩; have HW2 := Lib.hid hw2; clear hw2))
        exact HN.out _ _ _ _ _ _ _ _ _ _ _ _ _ _ _ _ _ _ _ _ _ _ _ _ _ _ _ _ _ _ _ _ _ _ _ _ _ _ _ _ _ _ _ _ _ _ _ _ _ _ _ _ _ _ _ _ (by omega) (by have := HNEXT.out; omega) (fun _ => hx2) (fds_next0 HJ0.out HH.out HB1.out HW2.out (by rw [HX.out, hGb.out]) (hGb.out ▸ HD.out) HLT.out)
      · obtain ⟨g, o, rfl, hm4, hgb⟩ := hM hj0
        have HM4 := Lib.hid hm4
        have HGB := Lib.hid hgb
        have HJ0 := Lib.hid hj0
        have hj0i : ((j : Int) == 0) = false := by simp; omega
        clear hm4 hgb hM hj0
        conv => arg 2; whnf
        go_wp2_with (first
          | (go_at_call 41; refine PGo.out.mono ?_; rintro e w1 ⟨hb1, rfl⟩; have HB1 := Lib.hid hb1; clear hb1)
          | (go_at_call 43; refine (newInt_any X _).mono ?_; rintro e w2 ⟨B2, rfl, m2⟩; have HM2 := Lib.hid m2; clear m2)
          | (go_at_call 45; refine (mulInt_any B2 0 B2 0 g o _ ⟨X, 0#64, 0#64, 0#64⟩ (ofN (10 ^ (19 * j))) _ HM2.out.at4 HM2.out.free HM2.out.at4 (fds_mult HH.out HM4.out HGB.out HB1.out HM2.out)).mono ?_; rintro e w3 ⟨rfl, n3, hw3⟩; have HW3 := Lib.hid hw3; clear hw3)
          | (go_at_call 44; refine (add_any b 0 b 0 B2 0 (ofN (dv (tailD s j))) (ofN (dv (tailD s j))) ((⟨X, 0#64, 0#64, 0#64⟩ : N4).mul (ofN (10 ^ (19 * j)))) _ (fds_z HH.out HB1.out HM2.out HW3.out) (fds_zf HH.out HB1.out HM2.out HW3.out) (fds_z HH.out HB1.out HM2.out HW3.out) (fds_base HM2.out HW3.out) (fds_sep b) (fds_sep2 HH.out HB1.out HM2.out)).mono ?_; rintro e w4 ⟨rfl, n4, hw4⟩; have HW4 := Lib.hid hw4; clear hw4))
        exact HN.out _ _ _ _ _ _ _ _ _ _ _ _ _ _ _ _ _ _ _ _ _ _ _ _ _ _ _ _ _ _ _ _ _ _ _ _ _ _ _ _ _ _ _ _ _ _ _ _ _ _ _ _ _ _ _ _ (by omega) (by have := HNEXT.out; omega) (fun _ => hx2) (fds_next HH.out HB1.out HM2.out HW3.out HW4.out (by rw [HX.out, hGb.out]) (hGb.out ▸ HD.out) HLT.out)
    · have PGb : Hid (Calls Tryd.prog 41 #[.string ⟨G.toArray⟩, .int .i64 10, .int .i64 64] W fun e w' => Below W.heap.size W w' ∧ ∃ t u, e = .returned (.tuple #[.int .u64 0, .iface t u])) := PG.out.mono fun e w' ⟨h1, h2⟩ => ⟨h1, by
        rcases h2 with ⟨h2, _⟩ | ⟨_, h2⟩
        · exact absurd h2 hd
        · exact h2⟩
      have HD := Lib.hid hd
      clear PG hd hM
      conv => arg 2; whnf
      go_wp2_with (go_at_call 41; refine PGb.out.mono ?_; rintro e w1 ⟨hb1, t, u, rfl⟩; have HB1 := Lib.hid hb1; clear hb1)
      exact HB.out _ _ _ _ _ _ _ _ _ _ _ _ _ _ _ _ _ _ _ _ _ _ _ _ _ _ _ _ _ _ _ _ _ _ _ _ _ _ _ _ _ _ _ _ _ _ _ _ _ _ _ _ _ _ _ _ _ (fun h => HD.out (hGb.out ▸ grp_sub s j h)) ⟨t, u, rfl⟩ (HH.out.but.trans (But.of_bel HB1.out))
  · have h19i : ¬ (19 : Int) < (L.length : Int) := by omega
    have hGq := hGL.out (by omega)
    have HLAST : Hid (¬ 19 * (j + 1) < s.length) := by show ¬ _; have := HI.out; omega
    have HNEXT : Hid ((L.length : Int) - 19 = (s.length : Int) - 19 * ((j + 1 : Nat) : Int)) := by show (_ : Int) = _; have := HI.out; omega
    subst hGq
    by_cases hd : Decs G
    · have PGo : Hid (Calls Tryd.prog 41 #[.string ⟨G.toArray⟩, .int .i64 10, .int .i64 64] W fun e w' => Below W.heap.size W w' ∧ e = .returned (.tuple #[V X, .nilIface])) := PG.out.mono fun e w' ⟨h1, h2⟩ => ⟨h1, by
        rcases h2 with ⟨_, h2⟩ | ⟨h2, _⟩
        · exact h2
        · exact absurd hd h2⟩
      have HD := Lib.hid hd
      clear PG hd
      by_cases hj0 : j = 0
      · have HJ0 := Lib.hid hj0
        have hj0i : ((j : Int) == 0) = true := by simp; omega
        clear hM hj0
        conv => arg 2; whnf
        go_wp2_with (first
          | (go_at_call 41; refine PGo.out.mono ?_; rintro e w1 ⟨hb1, rfl⟩; have HB1 := Lib.hid hb1; clear hb1)
          | (go_at_call 42; refine (setUint64_any b 0 (ofN (dv (tailD s j))) X _ (HH.out.at4.bel HB1.out) (HH.out.free.bel HH.out.at4.lt HB1.out)).mono ?_; rintro e w2 ⟨rfl, n2, hw2⟩; have HW2 := Lib.hid hw2; clear hw2))
        exact HN.out _ _ _ _ _ _ _ _ _ _ _ _ _ _ _ _ _ _ _ _ _ _ _ _ _ _ _ _ _ _ _ _ _ _ _ _ _ _ _ _ _ _ _ _ _ _ _ _ _ _ _ _ _ _ _ _ (by omega) (by have := HNEXT.out; omega) (fun h => absurd h HLAST.out) (fds_next0 HJ0.out HH.out HB1.out HW2.out (by rw [HX.out, hGb.out]) (hGb.out ▸ HD.out) HLT.out)
      · obtain ⟨g, o, rfl, hm4, hgb⟩ := hM hj0
        have HM4 := Lib.hid hm4
        have HGB := Lib.hid hgb
        have HJ0 := Lib.hid hj0
        have hj0i : ((j : Int) == 0) = false := by simp; omega
        clear hm4 hgb hM hj0
        conv => arg 2; whnf
        go_wp2_with (first
          | (go_at_call 41; refine PGo.out.mono ?_; rintro e w1 ⟨hb1, rfl⟩; have HB1 := Lib.hid hb1; clear hb1)
          | (go_at_call 43; refine (newInt_any X _).mono ?_; rintro e w2 ⟨B2, rfl, m2⟩; have HM2 := Lib.hid m2; clear m2)
          | (go_at_call 45; refine (mulInt_any B2 0 B2 0 g o _ ⟨X, 0#64, 0#64, 0#64⟩ (ofN (10 ^ (19 * j))) _ HM2.out.at4 HM2.out.free HM2.out.at4 (fds_mult HH.out HM4.out HGB.out HB1.out HM2.out)).mono ?_; rintro e w3 ⟨rfl, n3, hw3⟩; have HW3 := Lib.hid hw3; clear hw3)
          | (go_at_call 44; refine (add_any b 0 b 0 B2 0 (ofN (dv (tailD s j))) (ofN (dv (tailD s j))) ((⟨X, 0#64, 0#64, 0#64⟩ : N4).mul (ofN (10 ^ (19 * j)))) _ (fds_z HH.out HB1.out HM2.out HW3.out) (fds_zf HH.out HB1.out HM2.out HW3.out) (fds_z HH.out HB1.out HM2.out HW3.out) (fds_base HM2.out HW3.out) (fds_sep b) (fds_sep2 HH.out HB1.out HM2.out)).mono ?_; rintro e w4 ⟨rfl, n4, hw4⟩; have HW4 := Lib.hid hw4; clear hw4))
        exact HN.out _ _ _ _ _ _ _ _ _ _ _ _ _ _ _ _ _ _ _ _ _ _ _ _ _ _ _ _ _ _ _ _ _ _ _ _ _ _ _ _ _ _ _ _ _ _ _ _ _ _ _ _ _ _ _ _ (by omega) (by have := HNEXT.out; omega) (fun h => absurd h HLAST.out) (fds_next HH.out HB1.out HM2.out HW3.out HW4.out (by rw [HX.out, hGb.out]) (hGb.out ▸ HD.out) HLT.out)
    · have PGb : Hid (Calls Tryd.prog 41 #[.string ⟨G.toArray⟩, .int .i64 10, .int .i64 64] W fun e w' => Below W.heap.size W w' ∧ ∃ t u, e = .returned (.tuple #[.int .u64 0, .iface t u])) := PG.out.mono fun e w' ⟨h1, h2⟩ => ⟨h1, by
        rcases h2 with ⟨h2, _⟩ | ⟨_, h2⟩
        · exact absurd h2 hd
        · exact h2⟩
      have HD := Lib.hid hd
      clear PG hd hM
      conv => arg 2; whnf
      go_wp2_with (go_at_call 41; refine PGb.out.mono ?_; rintro e w1 ⟨hb1, t, u, rfl⟩; have HB1 := Lib.hid hb1; clear hb1)
      exact HB.out _ _ _ _ _ _ _ _ _ _ _ _ _ _ _ _ _ _ _ _ _ _ _ _ _ _ _ _ _ _ _ _ _ _ _ _ _ _ _ _ _ _ _ _ _ _ _ _ _ _ _ _ _ _ _ _ _ (fun h => HD.out (hGb.out ▸ grp_sub s j h)) ⟨t, u, rfl⟩ (HH.out.but.trans (But.of_bel HB1.out))
set_option maxHeartbeats 4000000 in
set_option maxRecDepth 20000 in
/-- A round behind the last group. -/
theorem fd_done (w0 : World) (b : Nat) (s : List UInt8) (j : Nat) (I : Int) (B : ByteArray) (MS : Array Value) (Mv : Value) (W : World) (Q : Exit → Act → World → Prop) (c2 c3 c11 c12 c13 c14 c15 c16 c17 v5 v6 v8 v9 v10 v20 v21 v22 v23 v24 v25 v26 v27 v28 v29 v30 v31 v32 v33 v34 v35 v36 v37 v38 v39 v40 v41 v42 v43 v44 v45 v46 v47 v48 v49 v50 v51 v52 v53 v54 v55 v56 v57 v58 v59 v60 v61 v62 v63 v64 v65 v66 : Value)
    (H : FdS w0 b s j W) (hj : j ≤ 4) (hI : I ≤ 0) (hle : s.length ≤ 19 * j)
    (hidx : ∀ w, (Instr.index 58 (.agg MS) (.int .i64 (j : Int))).run Tryd.prog w = .ok Mv w)
    (HD : Hid (∀ (J I : Int) (B : ByteArray) (W' : World) (u5 u6 u8 u9 u10 u20 u21 u22 u23 u24 u25 u26 u27 u28 u29 u30 u31 u32 u33 u34 u35 u36 u37 u38 u39 u40 u41 u42 u43 u44 u45 u46 u47 u48 u49 u50 u51 u52 u53 u54 u55 u56 u57 u58 u59 u60 u61 u62 u63 u64 u65 u66 : Value), FdS w0 b s j W' → Q .ret ⟨List.toArray (.pointer (some ⟨b, 0, none⟩) :: .string B :: c2 :: c3 :: .nilIface :: u5 :: u6 :: .int .i64 I :: u8 :: u9 :: u10 :: c11 :: c12 :: c13 :: c14 :: c15 :: c16 :: c17 :: .agg MS :: .int .i64 J :: u20 :: u21 :: u22 :: u23 :: u24 :: u25 :: u26 :: u27 :: u28 :: u29 :: u30 :: u31 :: u32 :: u33 :: u34 :: u35 :: u36 :: u37 :: u38 :: u39 :: u40 :: u41 :: u42 :: u43 :: u44 :: u45 :: u46 :: u47 :: u48 :: u49 :: u50 :: u51 :: u52 :: u53 :: u54 :: u55 :: u56 :: u57 :: u58 :: u59 :: u60 :: u61 :: u62 :: u63 :: u64 :: u65 :: u66 :: []), []⟩ W')) :
    Code.wp Tryd.prog fdBody Q ⟨List.toArray (.pointer (some ⟨b, 0, none⟩) :: .string B :: c2 :: c3 :: .nilIface :: v5 :: v6 :: .int .i64 I :: v8 :: v9 :: v10 :: c11 :: c12 :: c13 :: c14 :: c15 :: c16 :: c17 :: .agg MS :: .int .i64 (j : Int) :: v20 :: v21 :: v22 :: v23 :: v24 :: v25 :: v26 :: v27 :: v28 :: v29 :: v30 :: v31 :: v32 :: v33 :: v34 :: v35 :: v36 :: v37 :: v38 :: v39 :: v40 :: v41 :: v42 :: v43 :: v44 :: v45 :: v46 :: v47 :: v48 :: v49 :: v50 :: v51 :: v52 :: v53 :: v54 :: v55 :: v56 :: v57 :: v58 :: v59 :: v60 :: v61 :: v62 :: v63 :: v64 :: v65 :: v66 :: []), []⟩ W := by
  have HH := Lib.hid H
  have hj5 : (j : Int) < 5 := by omega
  clear H
  conv => arg 2; whnf
  go_wp2
  exact HD.out _ _ _ _ _ _ _ _ _ _ _ _ _ _ _ _ _ _ _ _ _ _ _ _ _ _ _ _ _ _ _ _ _ _ _ _ _ _ _ _ _ _ _ _ _ _ _ _ _ _ _ _ _ _ _ _ HH.out
set_option maxHeartbeats 4000000 in
set_option maxRecDepth 20000 in
theorem fd_exit (w0 : World) (b : Nat) (s : List UInt8) (I : Int) (B : ByteArray) (MS : Array Value) (W : World) (Q : Exit → Act → World → Prop) (c2 c3 c11 c12 c13 c14 c15 c16 c17 v5 v6 v8 v9 v10 v20 v21 v22 v23 v24 v25 v26 v27 v28 v29 v30 v31 v32 v33 v34 v35 v36 v37 v38 v39 v40 v41 v42 v43 v44 v45 v46 v47 v48 v49 v50 v51 v52 v53 v54 v55 v56 v57 v58 v59 v60 v61 v62 v63 v64 v65 v66 : Value)
    (H : FdS w0 b s 5 W)
    (HX : Hid (∀ (J I : Int) (B : ByteArray) (W' : World) (u5 u6 u8 u9 u10 u20 u21 u22 u23 u24 u25 u26 u27 u28 u29 u30 u31 u32 u33 u34 u35 u36 u37 u38 u39 u40 u41 u42 u43 u44 u45 u46 u47 u48 u49 u50 u51 u52 u53 u54 u55 u56 u57 u58 u59 u60 u61 u62 u63 u64 u65 u66 : Value), FdS w0 b s 5 W' → Q (.exit 0) ⟨List.toArray (.pointer (some ⟨b, 0, none⟩) :: .string B :: c2 :: c3 :: .nilIface :: u5 :: u6 :: .int .i64 I :: u8 :: u9 :: u10 :: c11 :: c12 :: c13 :: c14 :: c15 :: c16 :: c17 :: .agg MS :: .int .i64 J :: u20 :: u21 :: u22 :: u23 :: u24 :: u25 :: u26 :: u27 :: u28 :: u29 :: u30 :: u31 :: u32 :: u33 :: u34 :: u35 :: u36 :: u37 :: u38 :: u39 :: u40 :: u41 :: u42 :: u43 :: u44 :: u45 :: u46 :: u47 :: u48 :: u49 :: u50 :: u51 :: u52 :: u53 :: u54 :: u55 :: u56 :: u57 :: u58 :: u59 :: u60 :: u61 :: u62 :: u63 :: u64 :: u65 :: u66 :: []), []⟩ W')) :
    Code.wp Tryd.prog fdBody Q ⟨List.toArray (.pointer (some ⟨b, 0, none⟩) :: .string B :: c2 :: c3 :: .nilIface :: v5 :: v6 :: .int .i64 I :: v8 :: v9 :: v10 :: c11 :: c12 :: c13 :: c14 :: c15 :: c16 :: c17 :: .agg MS :: .int .i64 5 :: v20 :: v21 :: v22 :: v23 :: v24 :: v25 :: v26 :: v27 :: v28 :: v29 :: v30 :: v31 :: v32 :: v33 :: v34 :: v35 :: v36 :: v37 :: v38 :: v39 :: v40 :: v41 :: v42 :: v43 :: v44 :: v45 :: v46 :: v47 :: v48 :: v49 :: v50 :: v51 :: v52 :: v53 :: v54 :: v55 :: v56 :: v57 :: v58 :: v59 :: v60 :: v61 :: v62 :: v63 :: v64 :: v65 :: v66 :: []), []⟩ W := by
  have HH := Lib.hid H
  clear H
  conv => arg 2; whnf
  go_wp2
  exact HX.out _ _ _ _ _ _ _ _ _ _ _ _ _ _ _ _ _ _ _ _ _ _ _ _ _ _ _ _ _ _ _ _ _ _ _ _ _ _ _ _ _ _ _ _ _ _ _ _ _ _ _ _ _ _ _ _ HH.out
/-- The loop. -/
def FdI (w0 : World) (b : Nat) (s : List UInt8) (MS : Array Value) (c2 c3 c11 c12 c13 c14 c15 c16 c17 : Value) (a : Act) (W : World) : Prop :=
  ∃ (u5 u6 u8 u9 u10 u20 u21 u22 u23 u24 u25 u26 u27 u28 u29 u30 u31 u32 u33 u34 u35 u36 u37 u38 u39 u40 u41 u42 u43 u44 u45 u46 u47 u48 u49 u50 u51 u52 u53 u54 u55 u56 u57 u58 u59 u60 u61 u62 u63 u64 u65 u66 : Value), ∃ (j : Nat) (J I : Int) (B : ByteArray), J = (j : Int) ∧ I = (s.length : Int) - 19 * (j : Int) ∧ (19 * j < s.length → B = ⟨(headD s j).toArray⟩) ∧ j ≤ 5 ∧ FdS w0 b s j W ∧ a = ⟨List.toArray (.pointer (some ⟨b, 0, none⟩) :: .string B :: c2 :: c3 :: .nilIface :: u5 :: u6 :: .int .i64 I :: u8 :: u9 :: u10 :: c11 :: c12 :: c13 :: c14 :: c15 :: c16 :: c17 :: .agg MS :: .int .i64 J :: u20 :: u21 :: u22 :: u23 :: u24 :: u25 :: u26 :: u27 :: u28 :: u29 :: u30 :: u31 :: u32 :: u33 :: u34 :: u35 :: u36 :: u37 :: u38 :: u39 :: u40 :: u41 :: u42 :: u43 :: u44 :: u45 :: u46 :: u47 :: u48 :: u49 :: u50 :: u51 :: u52 :: u53 :: u54 :: u55 :: u56 :: u57 :: u58 :: u59 :: u60 :: u61 :: u62 :: u63 :: u64 :: u65 :: u66 :: []), []⟩
def muFd (a : Act) (_ : World) : Nat := (5 - RowKit.intOf (a.tmps[19]?.getD undef)).toNat
set_option maxHeartbeats 4000000 in
set_option maxRecDepth 20000 in
theorem fd_loop (w0 : World) (a : Nat → Addr) (b : Nat) (s : List UInt8) (MS : Array Value) (J I : Int) (B : ByteArray) (W : World) (Q : Exit → Act → World → Prop) (c2 c3 c11 c12 c13 c14 c15 c16 c17 v5 v6 v8 v9 v10 v20 v21 v22 v23 v24 v25 v26 v27 v28 v29 v30 v31 v32 v33 v34 v35 v36 v37 v38 v39 v40 v41 v42 v43 v44 v45 v46 v47 v48 v49 v50 v51 v52 v53 v54 v55 v56 v57 v58 v59 v60 v61 v62 v63 v64 v65 v66 : Value)
    (H : FdS w0 b s 0 W) (hJ : J = 0) (hI : I = (s.length : Int)) (hB : B = ⟨s.toArray⟩) (hMS : MS = mulMS a) (hs : s.length ≤ 78) (hes : SynE w0) (hbe : 8 < b) (hT : MulT a w0) (hab : ∀ j, 1 ≤ j → j ≤ 4 → (a j).block ≠ b)
    (HB : Hid (∀ (ev : Value) (J I : Int) (B : ByteArray) (W' : World) (u5 u6 u8 u9 u10 u20 u21 u22 u23 u24 u25 u26 u27 u28 u29 u30 u31 u32 u33 u34 u35 u36 u37 u38 u39 u40 u41 u42 u43 u44 u45 u46 u47 u48 u49 u50 u51 u52 u53 u54 u55 u56 u57 u58 u59 u60 u61 u62 u63 u64 u65 u66 : Value), ¬ Decs s → IsErr ev → But [b] w0 W' → Q .ret ⟨List.toArray (.pointer (some ⟨b, 0, none⟩) :: .string B :: c2 :: c3 :: ev :: u5 :: u6 :: .int .i64 I :: u8 :: u9 :: u10 :: c11 :: c12 :: c13 :: c14 :: c15 :: c16 :: c17 :: .agg MS :: .int .i64 J :: u20 :: u21 :: u22 :: u23 :: u24 :: u25 :: u26 :: u27 :: u28 :: u29 :: u30 :: u31 :: u32 :: u33 :: u34 :: u35 :: u36 :: u37 :: u38 :: u39 :: u40 :: u41 :: u42 :: u43 :: u44 :: u45 :: u46 :: u47 :: u48 :: u49 :: u50 :: u51 :: u52 :: u53 :: u54 :: u55 :: u56 :: u57 :: u58 :: u59 :: u60 :: u61 :: u62 :: u63 :: u64 :: u65 :: u66 :: []), []⟩ W'))
    (HD : Hid (∀ (J I : Int) (B : ByteArray) (W' : World) (u5 u6 u8 u9 u10 u20 u21 u22 u23 u24 u25 u26 u27 u28 u29 u30 u31 u32 u33 u34 u35 u36 u37 u38 u39 u40 u41 u42 u43 u44 u45 u46 u47 u48 u49 u50 u51 u52 u53 u54 u55 u56 u57 u58 u59 u60 u61 u62 u63 u64 u65 u66 : Value), Decs s → At4 W' b 0 (ofN (dv s)) → Free4 W' b 0 → But [b] w0 W' → Q .ret ⟨List.toArray (.pointer (some ⟨b, 0, none⟩) :: .string B :: c2 :: c3 :: .nilIface :: u5 :: u6 :: .int .i64 I :: u8 :: u9 :: u10 :: c11 :: c12 :: c13 :: c14 :: c15 :: c16 :: c17 :: .agg MS :: .int .i64 J :: u20 :: u21 :: u22 :: u23 :: u24 :: u25 :: u26 :: u27 :: u28 :: u29 :: u30 :: u31 :: u32 :: u33 :: u34 :: u35 :: u36 :: u37 :: u38 :: u39 :: u40 :: u41 :: u42 :: u43 :: u44 :: u45 :: u46 :: u47 :: u48 :: u49 :: u50 :: u51 :: u52 :: u53 :: u54 :: u55 :: u56 :: u57 :: u58 :: u59 :: u60 :: u61 :: u62 :: u63 :: u64 :: u65 :: u66 :: []), []⟩ W'))
    (HX : Hid (∀ (J I : Int) (B : ByteArray) (W' : World) (u5 u6 u8 u9 u10 u20 u21 u22 u23 u24 u25 u26 u27 u28 u29 u30 u31 u32 u33 u34 u35 u36 u37 u38 u39 u40 u41 u42 u43 u44 u45 u46 u47 u48 u49 u50 u51 u52 u53 u54 u55 u56 u57 u58 u59 u60 u61 u62 u63 u64 u65 u66 : Value), Decs s → At4 W' b 0 (ofN (dv s)) → Free4 W' b 0 → But [b] w0 W' → Q (.exit 0) ⟨List.toArray (.pointer (some ⟨b, 0, none⟩) :: .string B :: c2 :: c3 :: .nilIface :: u5 :: u6 :: .int .i64 I :: u8 :: u9 :: u10 :: c11 :: c12 :: c13 :: c14 :: c15 :: c16 :: c17 :: .agg MS :: .int .i64 J :: u20 :: u21 :: u22 :: u23 :: u24 :: u25 :: u26 :: u27 :: u28 :: u29 :: u30 :: u31 :: u32 :: u33 :: u34 :: u35 :: u36 :: u37 :: u38 :: u39 :: u40 :: u41 :: u42 :: u43 :: u44 :: u45 :: u46 :: u47 :: u48 :: u49 :: u50 :: u51 :: u52 :: u53 :: u54 :: u55 :: u56 :: u57 :: u58 :: u59 :: u60 :: u61 :: u62 :: u63 :: u64 :: u65 :: u66 :: []), []⟩ W')) :
    Code.wp Tryd.prog (.loop fdBody) Q ⟨List.toArray (.pointer (some ⟨b, 0, none⟩) :: .string B :: c2 :: c3 :: .nilIface :: v5 :: v6 :: .int .i64 I :: v8 :: v9 :: v10 :: c11 :: c12 :: c13 :: c14 :: c15 :: c16 :: c17 :: .agg MS :: .int .i64 J :: v20 :: v21 :: v22 :: v23 :: v24 :: v25 :: v26 :: v27 :: v28 :: v29 :: v30 :: v31 :: v32 :: v33 :: v34 :: v35 :: v36 :: v37 :: v38 :: v39 :: v40 :: v41 :: v42 :: v43 :: v44 :: v45 :: v46 :: v47 :: v48 :: v49 :: v50 :: v51 :: v52 :: v53 :: v54 :: v55 :: v56 :: v57 :: v58 :: v59 :: v60 :: v61 :: v62 :: v63 :: v64 :: v65 :: v66 :: []), []⟩ W := by
  refine wp_loop (FdI w0 b s MS c2 c3 c11 c12 c13 c14 c15 c16 c17) muFd ?_ ?_
  · exact ⟨v5, v6, v8, v9, v10, v20, v21, v22, v23, v24, v25, v26, v27, v28, v29, v30, v31, v32, v33, v34, v35, v36, v37, v38, v39, v40, v41, v42, v43, v44, v45, v46, v47, v48, v49, v50, v51, v52, v53, v54, v55, v56, v57, v58, v59, v60, v61, v62, v63, v64, v65, v66, 0, J, I, B, hJ, by rw [hI]; simp, fun _ => by rw [hB, headD_zero], by omega, H, rfl⟩
  · intro A W1 hI
    obtain ⟨u5, hI⟩ := hI
    obtain ⟨u6, hI⟩ := hI
    obtain ⟨u8, hI⟩ := hI
    obtain ⟨u9, hI⟩ := hI
    obtain ⟨u10, hI⟩ := hI
    obtain ⟨u20, hI⟩ := hI
    obtain ⟨u21, hI⟩ := hI
    obtain ⟨u22, hI⟩ := hI
    obtain ⟨u23, hI⟩ := hI
    obtain ⟨u24, hI⟩ := hI
    obtain ⟨u25, hI⟩ := hI
    obtain ⟨u26, hI⟩ := hI
    obtain ⟨u27, hI⟩ := hI
    obtain ⟨u28, hI⟩ := hI
    obtain ⟨u29, hI⟩ := hI
    obtain ⟨u30, hI⟩ := hI
    obtain ⟨u31, hI⟩ := hI
    obtain ⟨u32, hI⟩ := hI
    obtain ⟨u33, hI⟩ := hI
    obtain ⟨u34, hI⟩ := hI
    obtain ⟨u35, hI⟩ := hI
    obtain ⟨u36, hI⟩ := hI
    obtain ⟨u37, hI⟩ := hI
    obtain ⟨u38, hI⟩ := hI
    obtain ⟨u39, hI⟩ := hI
    obtain ⟨u40, hI⟩ := hI
    obtain ⟨u41, hI⟩ := hI
    obtain ⟨u42, hI⟩ := hI
    obtain ⟨u43, hI⟩ := hI
    obtain ⟨u44, hI⟩ := hI
    obtain ⟨u45, hI⟩ := hI
    obtain ⟨u46, hI⟩ := hI
    obtain ⟨u47, hI⟩ := hI
    obtain ⟨u48, hI⟩ := hI
    obtain ⟨u49, hI⟩ := hI
    obtain ⟨u50, hI⟩ := hI
    obtain ⟨u51, hI⟩ := hI
    obtain ⟨u52, hI⟩ := hI
    obtain ⟨u53, hI⟩ := hI
    obtain ⟨u54, hI⟩ := hI
    obtain ⟨u55, hI⟩ := hI
    obtain ⟨u56, hI⟩ := hI
    obtain ⟨u57, hI⟩ := hI
    obtain ⟨u58, hI⟩ := hI
    obtain ⟨u59, hI⟩ := hI
    obtain ⟨u60, hI⟩ := hI
    obtain ⟨u61, hI⟩ := hI
    obtain ⟨u62, hI⟩ := hI
    obtain ⟨u63, hI⟩ := hI
    obtain ⟨u64, hI⟩ := hI
    obtain ⟨u65, hI⟩ := hI
    obtain ⟨u66, hI⟩ := hI
    obtain ⟨j, J, I, B, rfl, hI2, hB, hj, H, rfl⟩ := hI
    rcases Nat.eq_or_lt_of_le hj with hj5 | hj5
    · subst hj5
      refine fd_exit w0 b s I B MS W1 _ c2 c3 c11 c12 c13 c14 c15 c16 c17 _ _ _ _ _ _ _ _ _ _ _ _ _ _ _ _ _ _ _ _ _ _ _ _ _ _ _ _ _ _ _ _ _ _ _ _ _ _ _ _ _ _ _ _ _ _ _ _ _ _ _ _ H ?_
      show ∀ _, _
      intro J I B W2 u5 u6 u8 u9 u10 u20 u21 u22 u23 u24 u25 u26 u27 u28 u29 u30 u31 u32 u33 u34 u35 u36 u37 u38 u39 u40 u41 u42 u43 u44 u45 u46 u47 u48 u49 u50 u51 u52 u53 u54 u55 u56 u57 u58 u59 u60 u61 u62 u63 u64 u65 u66 HW
      have hd := HW.decs
      have h4 := HW.at4
      rw [tailD_all s 5 (by omega)] at hd h4
      exact HX.out J I B W2 u5 u6 u8 u9 u10 u20 u21 u22 u23 u24 u25 u26 u27 u28 u29 u30 u31 u32 u33 u34 u35 u36 u37 u38 u39 u40 u41 u42 u43 u44 u45 u46 u47 u48 u49 u50 u51 u52 u53 u54 u55 u56 u57 u58 u59 u60 u61 u62 u63 u64 u65 u66 hd h4 HW.free HW.but
    · obtain ⟨Mv, hidx, hM⟩ := idxMul a j (by omega)
      have hidx2 : ∀ w, (Instr.index 58 (.agg MS) (.int .i64 (j : Int))).run Tryd.prog w = .ok Mv w := fun w => by rw [hMS]; exact hidx w
      by_cases hle : s.length ≤ 19 * j
      · refine fd_done w0 b s j I B MS Mv W1 _ c2 c3 c11 c12 c13 c14 c15 c16 c17 _ _ _ _ _ _ _ _ _ _ _ _ _ _ _ _ _ _ _ _ _ _ _ _ _ _ _ _ _ _ _ _ _ _ _ _ _ _ _ _ _ _ _ _ _ _ _ _ _ _ _ _ H (by omega) (by omega) hle hidx2 ?_
        show ∀ _, _
        intro J I B W2 u5 u6 u8 u9 u10 u20 u21 u22 u23 u24 u25 u26 u27 u28 u29 u30 u31 u32 u33 u34 u35 u36 u37 u38 u39 u40 u41 u42 u43 u44 u45 u46 u47 u48 u49 u50 u51 u52 u53 u54 u55 u56 u57 u58 u59 u60 u61 u62 u63 u64 u65 u66 HW
        have hd := HW.decs
        have h4 := HW.at4
        rw [tailD_all s j hle] at hd h4
        exact HD.out J I B W2 u5 u6 u8 u9 u10 u20 u21 u22 u23 u24 u25 u26 u27 u28 u29 u30 u31 u32 u33 u34 u35 u36 u37 u38 u39 u40 u41 u42 u43 u44 u45 u46 u47 u48 u49 u50 u51 u52 u53 u54 u55 u56 u57 u58 u59 u60 u61 u62 u63 u64 u65 u66 hd h4 HW.free HW.but
      · have hlt : 19 * j < s.length := by omega
        have hB2 := hB hlt
        subst hB2
        have hII : I = ((headD s j).length : Int) := by rw [headD_length]; omega
        subst hII
        refine fd_round w0 b s (headD s j) (grpD s j) (headD s (j + 1)) j MS Mv W1 _ c2 c3 c11 c12 c13 c14 c15 c16 c17 _ _ _ _ _ _ _ _ _ _ _ _ _ _ _ _ _ _ _ _ _ _ _ _ _ _ _ _ _ _ _ _ _ _ _ _ _ _ _ _ _ _ _ _ _ _ _ _ _ _ _ _ H rfl rfl rfl (by omega) hlt hs hes hbe hidx2 ?_ ?_ ?_
        · intro h0
          exact ⟨_, _, hM h0, hT.at4 j (by omega) (by omega), hab j (by omega) (by omega)⟩
        · show ∀ _, _
          intro J2 I2 B2 W2 u5 u6 u8 u9 u10 u20 u21 u22 u23 u24 u25 u26 u27 u28 u29 u30 u31 u32 u33 u34 u35 u36 u37 u38 u39 u40 u41 u42 u43 u44 u45 u46 u47 u48 u49 u50 u51 u52 u53 u54 u55 u56 u57 u58 u59 u60 u61 u62 u63 u64 u65 u66 hJ2 hI2 hB2 HW
          refine ⟨⟨u5, u6, u8, u9, u10, u20, u21, u22, u23, u24, u25, u26, u27, u28, u29, u30, u31, u32, u33, u34, u35, u36, u37, u38, u39, u40, u41, u42, u43, u44, u45, u46, u47, u48, u49, u50, u51, u52, u53, u54, u55, u56, u57, u58, u59, u60, u61, u62, u63, u64, u65, u66, j + 1, J2, I2, B2, hJ2, by rw [hI2, hJ2], hB2, by omega, HW, rfl⟩, ?_⟩
          show (5 - RowKit.intOf (.int .i64 J2)).toNat < (5 - RowKit.intOf (.int .i64 (j : Int))).toNat
          simp only [RowKit.intOf]
          omega
        · exact HB
theorem but_clear {w w2 : World} {b n : Nat} {z : N4} (h : w2 = (put4 w b 0 z).drewN n) : But [b] w w2 := by
  subst h
  exact ((But.refl [b] w).put4 (by simp) _ _).drewN _
theorem mulT_but {a : Nat → Addr} {w w2 : World} {b : Nat} (h : MulT a w) (k : But [b] w w2) (hab : ∀ j, 1 ≤ j → j ≤ 4 → (a j).block ≠ b) (hbm : 3 < b) : MulT a w2 :=
  ⟨k.cell (by simp; omega) h.c0, fun j h1 h2 => k.cell (by simp; omega) (h.cp j h1 h2), fun j h1 h2 => (h.at4 j h1 h2).but k (by simpa using hab j h1 h2)⟩
set_option maxHeartbeats 4000000 in
set_option maxRecDepth 20000 in
/-- fromDecimal: the number of the digits, or an error. -/
theorem fromDecimal_any (a : Nat → Addr) (b : Nat) (z : N4) (s : List UInt8) (w : World) (hz : At4 w b 0 z) (fz : Free4 w b 0) (hs : s.length ≤ 78) (hes : SynE w) (hbe : 8 < b) (hT : MulT a w) (hab : ∀ j, 1 ≤ j → j ≤ 4 → (a j).block ≠ b)
    (heof : ∃ t u, w.cell? ⟨2, 0, none⟩ = some (.iface t u)) (hbo : 2 < b) (hbm : 3 < b) :
    Calls Tryd.prog 38 #[.pointer (some ⟨b, 0, none⟩), .string ⟨s.toArray⟩] w fun e w' => But [b] w w' ∧ ((s ≠ [] ∧ Decs s ∧ e = .returned .nilIface ∧ At4 w' b 0 (ofN (dv s)) ∧ Free4 w' b 0) ∨ (¬ (s ≠ [] ∧ Decs s) ∧ ∃ v, e = .returned v ∧ IsErr v)) := by
  have hZ := clear_any b 0 z w hz fz
  by_cases h0 : s = []
  · subst h0
    obtain ⟨t, u, he⟩ := heof
    have e1 : ∀ n, ((put4 w b 0 ⟨0#64, 0#64, 0#64, 0#64⟩).drewN n).cell? ⟨2, 0, none⟩ = some (.iface t u) := fun n => by
      rw [World.cell?_drewN, put4_cell _ _ _ _ _ _ (fun e => by omega)]
      exact he
    have HZ := Lib.hid hZ
    clear hZ he hz fz hes hT hab
    go_enter Tryd.func38, Tryd.ntmps38
    go_wp2_with (go_at_call 40; refine HZ.out.mono ?_; rintro e w2 ⟨rfl, n2, rfl⟩; have e2 := e1 n2)
    go_ret
    exact ⟨((But.refl [b] w).put4 (by simp) _ _).drewN _, .inr ⟨fun h => h.1 rfl, _, rfl, _, _, rfl⟩⟩
  · have HZ := Lib.hid hZ
    have HZ4 := Lib.hid hz
    have HZF := Lib.hid fz
    have HES := Lib.hid hes
    have HT := Lib.hid hT
    have HS0 := Lib.hid h0
    have hl0 : ((s.length : Int) == 0) = false := by
      have : s.length ≠ 0 := fun e => h0 (List.length_eq_zero_iff.1 e)
      simp; omega
    clear hz fz hes hT h0 hZ heof
    go_enter Tryd.func38, Tryd.ntmps38
    go_wp2_with (go_at_call 40; refine HZ.out.mono ?_; rintro e w2 ⟨rfl, n2, hw2⟩; have HW2 := Lib.hid hw2; have hT2 := mulT_but HT.out (but_clear hw2) hab hbm; have g0 := hT2.c0; have g1 := hT2.cp 1 (by omega) (by omega); have g2 := hT2.cp 2 (by omega) (by omega); have g3 := hT2.cp 3 (by omega) (by omega); have g4 := hT2.cp 4 (by omega) (by omega); clear hw2 hT2)
    have hw2 := HW2.out
    have hb2 := but_clear hw2
    refine fd_loop w2 a b s (mulMS a) 0 _ _ w2 _ _ _ _ _ _ _ _ _ _ _ _ _ _ _ _ _ _ _ _ _ _ _ _ _ _ _ _ _ _ _ _ _ _ _ _ _ _ _ _ _ _ _ _ _ _ _ _ _ _ _ _ _ _ _ _ _ _ _ _ _ _ ⟨?_, ?_, But.refl _ _, ?_⟩ rfl rfl rfl rfl hs (HES.out.but hb2 hbe) hbe (mulT_but HT.out hb2 hab hbm) hab ?_ ?_ ?_
    · rw [tailD_zero, dv_nil, ofN_zero, hw2]
      exact (put4_at _ _ _ _ _ HZ4.out).drewN _
    · rw [hw2]
      exact (Free4.put _ HZF.out).drewN _
    · rw [tailD_zero]
      intro c hc
      cases hc
    · show ∀ _, _
      intro ev J I B W' u5 u6 u8 u9 u10 u20 u21 u22 u23 u24 u25 u26 u27 u28 u29 u30 u31 u32 u33 u34 u35 u36 u37 u38 u39 u40 u41 u42 u43 u44 u45 u46 u47 u48 u49 u50 u51 u52 u53 u54 u55 u56 u57 u58 u59 u60 u61 u62 u63 u64 u65 u66 hnd hev hbut
      have HN := Lib.hid (And.intro (hb2.trans hbut) hev)
      have HND := Lib.hid hnd
      clear hbut hnd hev hb2 hw2
      go_wp2
      go_ret
      exact ⟨HN.out.1, .inr ⟨fun h => HND.out h.2, _, rfl, HN.out.2⟩⟩
    · show ∀ _, _
      intro J I B W' u5 u6 u8 u9 u10 u20 u21 u22 u23 u24 u25 u26 u27 u28 u29 u30 u31 u32 u33 u34 u35 u36 u37 u38 u39 u40 u41 u42 u43 u44 u45 u46 u47 u48 u49 u50 u51 u52 u53 u54 u55 u56 u57 u58 u59 u60 u61 u62 u63 u64 u65 u66 hd h4 hf hbut
      have HN := Lib.hid (And.intro (hb2.trans hbut) (And.intro hd (And.intro h4 hf)))
      clear hbut hd h4 hf hb2 hw2
      go_wp2
      go_ret
      exact ⟨HN.out.1, .inl ⟨HS0.out, HN.out.2.1, rfl, HN.out.2.2.1, HN.out.2.2.2⟩⟩
    · show ∀ _, _
      intro J I B W' u5 u6 u8 u9 u10 u20 u21 u22 u23 u24 u25 u26 u27 u28 u29 u30 u31 u32 u33 u34 u35 u36 u37 u38 u39 u40 u41 u42 u43 u44 u45 u46 u47 u48 u49 u50 u51 u52 u53 u54 u55 u56 u57 u58 u59 u60 u61 u62 u63 u64 u65 u66 hd h4 hf hbut
      have HN := Lib.hid (And.intro (hb2.trans hbut) (And.intro hd (And.intro h4 hf)))
      clear hbut hd h4 hf hb2 hw2
      go_wp2
      go_ret
      exact ⟨HN.out.1, .inl ⟨HS0.out, HN.out.2.1, rfl, HN.out.2.2.1, HN.out.2.2.2⟩⟩
end Go.Proofs.YtfaocjcpnjmfiaaDoor
