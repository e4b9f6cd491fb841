/-
  uint256's SetFromDecimal.
-/
import Derived.Test.YtfaocjcpnjmfiaaDoorDecRd
import Derived.Laws.RangeString
import Derived.Laws.RangeAny
import Derived.Laws.Cover1
import Derived.Deep.DeepCutAuto
import Derived.Deep.CutBlock
set_option linter.unusedVariables false
set_option linter.unusedSimpArgs false
namespace Go.Proofs.YtfaocjcpnjmfiaaDoor
open Go.RowKit
theorem stripZ_at (u : List UInt8) (i : Nat) (h : i < u.length) (h1 : ∀ k, k < i → u[k]? = some 48) (h2 : i + 1 < u.length → u[i]? ≠ some 48) : stripZ u = u.drop i := by
  obtain ⟨n, e, hn, k1, k2⟩ := stripZ_drop u
  have hne : n = i := by
    rcases Nat.lt_trichotomy n i with k | k | k
    · exact absurd (h1 n k) (k2 (by omega))
    · exact k
    · exact absurd (k1 i k) (h2 (by omega))
  rw [e, hne]
theorem get_list (u : List UInt8) (p : Nat) (h : p < (⟨u.toArray⟩ : ByteArray).size) : u[p]? = some ((⟨u.toArray⟩ : ByteArray)[p]'h) := by
  show u[p]? = some (u.toArray[p]'h)
  rw [List.getElem_toArray]
  exact List.getElem?_eq_getElem _
theorem dec_48 (u : List UInt8) (p : Nat) (h : u[p]? = some 48) : Utf8.decode ⟨u.toArray⟩ p = (48, 1) := by
  have hp : p < (⟨u.toArray⟩ : ByteArray).size := (List.getElem?_eq_some_iff.1 h).1
  have e := get_list u p hp
  rw [h] at e
  have e2 : (⟨u.toArray⟩ : ByteArray)[p]'hp = 48 := (Option.some.inj e).symm
  rw [decode_ascii _ p hp (by rw [e2]; decide), e2]
  rfl
theorem dec_not (u : List UInt8) (p : Nat) (hp : p < u.length) (h : u[p]? ≠ some 48) : (Utf8.decode ⟨u.toArray⟩ p).1 ≠ 48 := by
  have hp2 : p < (⟨u.toArray⟩ : ByteArray).size := hp
  have e := get_list u p hp2
  by_cases ha : ((⟨u.toArray⟩ : ByteArray)[p]'hp2).toNat < 128
  · rw [decode_ascii _ p hp2 ha]
    intro k
    exact h (by rw [e]; congr 1; exact UInt8.toNat.inj k)
  · have := (decode_high _ p hp2 (by omega)).1
    omega
/-- Where the noughts ahead end. -/
def Lead (u : List UInt8) (i : Nat) : Prop := i < u.length ∧ (∀ k, k < i → u[k]? = some 48) ∧ (i + 1 < u.length → u[i]? ≠ some 48)
/-- The loops' bodies in a code, not those within them. -/
def loopsSD : Code → List Code
  | .loop c => [c]
  | .seq a b => loopsSD a ++ loopsSD b
  | .block _ c => loopsSD c
  | .scope c => loopsSD c
  | .cond _ a b => loopsSD a ++ loopsSD b
  | _ => []
noncomputable def sdBody : Code := ((Tryd.f31.body.map loopsSD).getD []).headD .skip
set_option maxHeartbeats 4000000 in
set_option maxRecDepth 20000 in
theorem sd_round (w : World) (u : List UInt8) (p : Nat) (I : Int) (Q : Exit → Act → World → Prop) (c0 c2 c3 c4 c7 c8 c9 c10 c11 c12 c13 c14 c15 c16 c17 c18 c19 c20 c21 c22 c23 c24 c25 c33 c34 c35 c36 c37 c38 c39 c40 c41 c42 c43 c44 c45 c46 c47 c48 c49 c50 c51 v6 v27 v28 v29 v30 v31 v32 : Value)
    (hp : p ≤ u.length) (hu : 0 < u.length) (hz : ∀ k, k < p → u[k]? = some 48) (hI : 0 < p → I = (p : Int) - 1)
    (HN : Hid (∀ (I2 : Int) (u6 u27 u28 u29 u30 u31 u32 : Value), p < u.length → u[p]? = some 48 → I2 = (p : Int) → Q .normal ⟨List.toArray (c0 :: .string ⟨u.toArray⟩ :: c2 :: c3 :: c4 :: .int .i64 I2 :: u6 :: c7 :: c8 :: c9 :: c10 :: c11 :: c12 :: c13 :: c14 :: c15 :: c16 :: c17 :: c18 :: c19 :: c20 :: c21 :: c22 :: c23 :: c24 :: c25 :: .pointer (some ⟨w.heap.size, 0, none⟩) :: u27 :: u28 :: u29 :: u30 :: u31 :: u32 :: c33 :: c34 :: c35 :: c36 :: c37 :: c38 :: c39 :: c40 :: c41 :: c42 :: c43 :: c44 :: c45 :: c46 :: c47 :: c48 :: c49 :: c50 :: c51 :: []), []⟩ (w.iter ⟨u.toArray⟩ (p + 1))))
    (HX : Hid (∀ (I2 : Int) (p' : Nat) (u6 u27 u28 u29 u30 u31 u32 : Value), (∃ i : Nat, I2 = (i : Int) ∧ Lead u i) → Q (.exit 0) ⟨List.toArray (c0 :: .string ⟨u.toArray⟩ :: c2 :: c3 :: c4 :: .int .i64 I2 :: u6 :: c7 :: c8 :: c9 :: c10 :: c11 :: c12 :: c13 :: c14 :: c15 :: c16 :: c17 :: c18 :: c19 :: c20 :: c21 :: c22 :: c23 :: c24 :: c25 :: .pointer (some ⟨w.heap.size, 0, none⟩) :: u27 :: u28 :: u29 :: u30 :: u31 :: u32 :: c33 :: c34 :: c35 :: c36 :: c37 :: c38 :: c39 :: c40 :: c41 :: c42 :: c43 :: c44 :: c45 :: c46 :: c47 :: c48 :: c49 :: c50 :: c51 :: []), []⟩ (w.iter ⟨u.toArray⟩ p'))) :
    Code.wp Tryd.prog sdBody Q ⟨List.toArray (c0 :: .string ⟨u.toArray⟩ :: c2 :: c3 :: c4 :: .int .i64 I :: v6 :: c7 :: c8 :: c9 :: c10 :: c11 :: c12 :: c13 :: c14 :: c15 :: c16 :: c17 :: c18 :: c19 :: c20 :: c21 :: c22 :: c23 :: c24 :: c25 :: .pointer (some ⟨w.heap.size, 0, none⟩) :: v27 :: v28 :: v29 :: v30 :: v31 :: v32 :: c33 :: c34 :: c35 :: c36 :: c37 :: c38 :: c39 :: c40 :: c41 :: c42 :: c43 :: c44 :: c45 :: c46 :: c47 :: c48 :: c49 :: c50 :: c51 :: []), []⟩ (w.iter ⟨u.toArray⟩ p) := by
  rcases Nat.eq_or_lt_of_le hp with h0 | h0
  · have hnx : ∀ ty, (Instr.next (.pointer (some ⟨w.heap.size, 0, none⟩)) true ty).run Tryd.prog (w.iter ⟨u.toArray⟩ p) = _ := fun ty => run_next_end (P := Tryd.prog) w ⟨u.toArray⟩ p ty (by show ¬ p < u.length; omega)
    have HII := Lib.hid (hI (by omega))
    have HZ := Lib.hid hz
    have HP := Lib.hid h0
    clear hz hI hp h0
    conv => arg 2; whnf
    go_wp2
    exact HX.out _ _ _ _ _ _ _ _ _ ⟨p - 1, by have := HII.out; have := HP.out; omega, by have := HP.out; omega, fun k hk => HZ.out k (by omega), fun h => by have := HP.out; omega⟩
  · have hnx : ∀ ty, (Instr.next (.pointer (some ⟨w.heap.size, 0, none⟩)) true ty).run Tryd.prog (w.iter ⟨u.toArray⟩ p) = _ := fun ty => run_next_any (P := Tryd.prog) w ⟨u.toArray⟩ p ty (by show p < u.length; omega)
    have HZ := Lib.hid hz
    have HLT := Lib.hid h0
    by_cases h48 : u[p]? = some 48
    · rw [dec_48 u p h48] at hnx
      have H48 := Lib.hid h48
      clear hz hI hp h0 h48
      conv => arg 2; whnf
      go_wp2
      exact HN.out _ _ _ _ _ _ _ _ HLT.out H48.out rfl
    · have hd := dec_not u p h0 h48
      have hdi : (((Utf8.decode ⟨u.toArray⟩ p).1 : Int) != 48) = true := by simp; omega
      have hle := decode_le ⟨u.toArray⟩ p
      have H48 := Lib.hid h48
      generalize Utf8.decode ⟨u.toArray⟩ p = d at *
      obtain ⟨d1, d2⟩ := d
      clear hz hI hp h0 h48 hd
      conv => arg 2; whnf
      go_wp2
      exact HX.out _ _ _ _ _ _ _ _ _ ⟨p, rfl, HLT.out, HZ.out, fun _ => H48.out⟩
/-- The loop. -/
def SdI (w : World) (u : List UInt8) (c0 c2 c3 c4 c7 c8 c9 c10 c11 c12 c13 c14 c15 c16 c17 c18 c19 c20 c21 c22 c23 c24 c25 c33 c34 c35 c36 c37 c38 c39 c40 c41 c42 c43 c44 c45 c46 c47 c48 c49 c50 c51 : Value) (a : Act) (W : World) : Prop :=
  ∃ (u6 u27 u28 u29 u30 u31 u32 : Value), ∃ (p : Nat) (I2 : Int), p ≤ u.length ∧ (∀ k, k < p → u[k]? = some 48) ∧ (0 < p → I2 = (p : Int) - 1) ∧ W = w.iter ⟨u.toArray⟩ p ∧ a = ⟨List.toArray (c0 :: .string ⟨u.toArray⟩ :: c2 :: c3 :: c4 :: .int .i64 I2 :: u6 :: c7 :: c8 :: c9 :: c10 :: c11 :: c12 :: c13 :: c14 :: c15 :: c16 :: c17 :: c18 :: c19 :: c20 :: c21 :: c22 :: c23 :: c24 :: c25 :: .pointer (some ⟨w.heap.size, 0, none⟩) :: u27 :: u28 :: u29 :: u30 :: u31 :: u32 :: c33 :: c34 :: c35 :: c36 :: c37 :: c38 :: c39 :: c40 :: c41 :: c42 :: c43 :: c44 :: c45 :: c46 :: c47 :: c48 :: c49 :: c50 :: c51 :: []), []⟩
def muSd (w : World) (n : Nat) (_ : Act) (W : World) : Nat := n - W.iterPos w.heap.size
set_option maxHeartbeats 4000000 in
set_option maxRecDepth 20000 in
theorem sd_loop (w : World) (u : List UInt8) (I : Int) (Q : Exit → Act → World → Prop) (c0 c2 c3 c4 c7 c8 c9 c10 c11 c12 c13 c14 c15 c16 c17 c18 c19 c20 c21 c22 c23 c24 c25 c33 c34 c35 c36 c37 c38 c39 c40 c41 c42 c43 c44 c45 c46 c47 c48 c49 c50 c51 v6 v27 v28 v29 v30 v31 v32 : Value) (hu : 0 < u.length)
    (HX : Hid (∀ (I2 : Int) (p' : Nat) (u6 u27 u28 u29 u30 u31 u32 : Value), (∃ i : Nat, I2 = (i : Int) ∧ Lead u i) → Q (.exit 0) ⟨List.toArray (c0 :: .string ⟨u.toArray⟩ :: c2 :: c3 :: c4 :: .int .i64 I2 :: u6 :: c7 :: c8 :: c9 :: c10 :: c11 :: c12 :: c13 :: c14 :: c15 :: c16 :: c17 :: c18 :: c19 :: c20 :: c21 :: c22 :: c23 :: c24 :: c25 :: .pointer (some ⟨w.heap.size, 0, none⟩) :: u27 :: u28 :: u29 :: u30 :: u31 :: u32 :: c33 :: c34 :: c35 :: c36 :: c37 :: c38 :: c39 :: c40 :: c41 :: c42 :: c43 :: c44 :: c45 :: c46 :: c47 :: c48 :: c49 :: c50 :: c51 :: []), []⟩ (w.iter ⟨u.toArray⟩ p'))) :
    Code.wp Tryd.prog (.loop sdBody) Q ⟨List.toArray (c0 :: .string ⟨u.toArray⟩ :: c2 :: c3 :: c4 :: .int .i64 I :: v6 :: c7 :: c8 :: c9 :: c10 :: c11 :: c12 :: c13 :: c14 :: c15 :: c16 :: c17 :: c18 :: c19 :: c20 :: c21 :: c22 :: c23 :: c24 :: c25 :: .pointer (some ⟨w.heap.size, 0, none⟩) :: v27 :: v28 :: v29 :: v30 :: v31 :: v32 :: c33 :: c34 :: c35 :: c36 :: c37 :: c38 :: c39 :: c40 :: c41 :: c42 :: c43 :: c44 :: c45 :: c46 :: c47 :: c48 :: c49 :: c50 :: c51 :: []), []⟩ (w.iter ⟨u.toArray⟩ 0) := by
  refine wp_loop (SdI w u c0 c2 c3 c4 c7 c8 c9 c10 c11 c12 c13 c14 c15 c16 c17 c18 c19 c20 c21 c22 c23 c24 c25 c33 c34 c35 c36 c37 c38 c39 c40 c41 c42 c43 c44 c45 c46 c47 c48 c49 c50 c51) (muSd w u.length) ?_ ?_
  · exact ⟨v6, v27, v28, v29, v30, v31, v32, 0, I, by omega, fun k hk => by omega, fun h => by omega, rfl, rfl⟩
  · intro A W1 hI
    obtain ⟨u6, hI⟩ := hI
    obtain ⟨u27, hI⟩ := hI
    obtain ⟨u28, hI⟩ := hI
    obtain ⟨u29, hI⟩ := hI
    obtain ⟨u30, hI⟩ := hI
    obtain ⟨u31, hI⟩ := hI
    obtain ⟨u32, hI⟩ := hI
    obtain ⟨p, I2, hp, hz, hI2, rfl, rfl⟩ := hI
    refine sd_round w u p I2 _ c0 c2 c3 c4 c7 c8 c9 c10 c11 c12 c13 c14 c15 c16 c17 c18 c19 c20 c21 c22 c23 c24 c25 c33 c34 c35 c36 c37 c38 c39 c40 c41 c42 c43 c44 c45 c46 c47 c48 c49 c50 c51 _ _ _ _ _ _ _ hp hu hz hI2 ?_ ?_
    · show ∀ _, _
      intro I3 u6 u27 u28 u29 u30 u31 u32 hlt h48 hI3
      refine ⟨⟨u6, u27, u28, u29, u30, u31, u32, p + 1, I3, by omega, fun k hk => ?_, fun _ => by rw [hI3]; omega, rfl, rfl⟩, ?_⟩
      · rcases Nat.eq_or_lt_of_le (Nat.le_of_lt_succ hk) with e | e
        · rw [e]; exact h48
        · exact hz k e
      · show u.length - (w.iter ⟨u.toArray⟩ (p + 1)).iterPos w.heap.size < u.length - (w.iter ⟨u.toArray⟩ p).iterPos w.heap.size
        rw [World.iterPos_iter, World.iterPos_iter]
        omega
    · exact HX
theorem stripZ_id (u : List UInt8) (h : 0 < u.length → u[0]? ≠ some 48) : stripZ u = u := by
  rcases Nat.eq_zero_or_pos u.length with h0 | h0
  · rw [List.length_eq_zero_iff.1 h0]; rfl
  · have := stripZ_at u 0 h0 (fun k hk => by omega) (fun _ => h h0)
    simpa using this
theorem cmp_big (t : List UInt8) : (!(Op.bytesLess t maxD || t == maxD)) = bigD t := rfl
/-- A number read from a text into the receiver, or an error. -/
def RetTxt (ok : Prop) (n b : Nat) (w : World) (e : Ending) (w' : World) : Prop :=
  ∃ v, e = .returned v ∧ But [b] w w' ∧ ((ok ∧ v = .nilIface ∧ At4 w' b 0 (ofN n) ∧ Free4 w' b 0) ∨ (¬ ok ∧ IsErr v))
/-- What the decimal readers ask of the memory. -/
structure DecE (a : Nat → Addr) (b : Nat) (w : World) : Prop where
  syn : SynE w
  mul : MulT a w
  far : ∀ j, 1 ≤ j → j ≤ 4 → (a j).block ≠ b
  eof : ∃ t u, w.cell? ⟨2, 0, none⟩ = some (.iface t u)
  big : ∃ t u, w.cell? ⟨0, 0, none⟩ = some (.iface t u)
  g1 : 8 < b
  g2 : 2 < b
  g3 : 3 < b
theorem DecE.bel {a : Nat → Addr} {b : Nat} {w w' : World} (h : DecE a b w) (k : Below w.heap.size w w') : DecE a b w' := by
  obtain ⟨h1, h2, h3, ⟨t, u, h4⟩, ⟨t2, u2, h5⟩, h6, h7, h8⟩ := h
  exact ⟨h1.bel k, h2.bel k, h3, ⟨t, u, bel_cell k h4⟩, ⟨t2, u2, bel_cell k h5⟩, h6, h7, h8⟩
theorem fd_tail (a : Nat → Addr) (b : Nat) (z : N4) (s t : List UInt8) (w W : World) (hz : At4 w b 0 z) (fz : Free4 w b 0) (hE : DecE a b w) (ht : t = stripZ (unplus s)) (hc : t.length < 78 ∨ (t.length = 78 ∧ bigD t = false)) (hb : Below w.heap.size w W) :
    Calls Tryd.prog 38 #[.pointer (some ⟨b, 0, none⟩), .string ⟨t.toArray⟩] W (RetTxt (DecOk s) (dv (unplus s)) b w) := by
  have hE2 := hE.bel hb
  refine (fromDecimal_any a b z t W (hz.bel hb) (fz.bel hz.lt hb) (by omega) hE2.syn hE2.g1 hE2.mul hE2.far hE2.eof hE2.g2 hE2.g3).mono ?_
  rintro e w' ⟨hbut, h⟩
  have hiff : (t ≠ [] ∧ Decs t) ↔ DecOk s := by
    rw [← fineD_iff s, ← ht]
    exact ⟨fun h => ⟨h.1, h.2, hc⟩, fun h => ⟨h.1, h.2.1⟩⟩
  have hdv : dv t = dv (unplus s) := by rw [ht, stripZ_dv]
  have hbb : But [b] w w' := (But.of_bel hb).trans hbut
  rw [← hdv]
  rcases h with ⟨h0, h1, rfl, h4, hf⟩ | ⟨h0, v, rfl, hv⟩
  · exact ⟨_, rfl, hbb, .inl ⟨hiff.1 ⟨h0, h1⟩, rfl, h4, hf⟩⟩
  · exact ⟨_, rfl, hbb, .inr ⟨fun h => h0 (hiff.2 h), hv⟩⟩
set_option maxHeartbeats 8000000 in
set_option maxRecDepth 20000 in
theorem setFromDecimal_any (a : Nat → Addr) (b : Nat) (z : N4) (s : List UInt8) (w : World) (hz : At4 w b 0 z) (fz : Free4 w b 0) (hE : DecE a b w) :
    Calls Tryd.prog 31 #[.pointer (some ⟨b, 0, none⟩), .string ⟨s.toArray⟩] w (RetTxt (DecOk s) (dv (unplus s)) b w) := by
  obtain ⟨ok, hok⟩ : ∃ ok, ok = DecOk s := ⟨_, rfl⟩
  obtain ⟨n, hn⟩ : ∃ n, n = dv (unplus s) := ⟨_, rfl⟩
  have FT : Hid (∀ t W, t = stripZ (unplus s) → (t.length < 78 ∨ (t.length = 78 ∧ bigD t = false)) → Below w.heap.size w W → Calls Tryd.prog 38 #[.pointer (some ⟨b, 0, none⟩), .string ⟨t.toArray⟩] W (RetTxt ok n b w)) := fun t W h1 h2 h3 => by
    rw [hok, hn]; exact fd_tail a b z s t w W hz fz hE h1 h2 h3
  have FN : Hid (∀ t, t = stripZ (unplus s) → ¬ (t.length < 78 ∨ (t.length = 78 ∧ bigD t = false)) → ¬ ok) := fun t h1 h2 => by
    rw [hok, ← fineD_iff s, ← h1]; exact fun h => h2 h.2.2
  obtain ⟨te, ue, hbig⟩ := hE.big
  have hbigI : ∀ S p, (w.iter S p).cell? ⟨0, 0, none⟩ = some (.iface te ue) := fun S p => bel_cell (bel_alloc (bel_refl w) _) hbig
  rw [← hok, ← hn]
  clear hz fz hE hok hn
  rcases hs0 : s[0]? with _ | c0
  · obtain rfl : s = [] := by
      rcases s with _ | ⟨x, s⟩
      · rfl
      · cases hs0
    have hstrip : Hid (([] : List UInt8) = stripZ (unplus [])) := by show _ = _; rfl
    clear hs0
    go_enter Tryd.func31, Tryd.ntmps31
    go_wp2_with (go_at_call 38; refine (FT.out [] _ hstrip.out (.inl (by simp)) (bel_refl w)).mono ?_; rintro e w1 ⟨v, rfl, hb, h⟩; have HP := Lib.hid (And.intro hb h); clear hb h)
    go_ret
    exact ⟨v, rfl, HP.out.1, HP.out.2⟩
  · by_cases h43 : c0 = 43
    · obtain ⟨u, hu⟩ : ∃ u, u = s.drop 1 := ⟨_, rfl⟩
      have HU : Hid (unplus s = u) := by show _ = _; unfold unplus; rw [if_pos (by rw [hs0, h43]), hu]
      obtain ⟨S, hS⟩ : ∃ S : ByteArray, S = ⟨s.toArray⟩ := ⟨_, rfl⟩
      have hsl : 0 < s.length := (List.getElem?_eq_some_iff.1 hs0).1
      have hSz : S.size = s.length := by rw [hS]; rfl
      have hSi : (0 : Int) < (S.size : Int) := by omega
      have hS1 : (1 : Int) ≤ (S.size : Int) := by omega
      have hg0 : ∀ h, S[0]'h = c0 := by subst hS; exact fun h => (Option.some.inj ((get_list s 0 h).symm.trans hs0))
      have c43 : ((c0.toNat : Int) == 43) = true := by rw [h43]; rfl
      have hext : S.extract 1 S.size = ⟨u.toArray⟩ := by
        apply ByteArray.ext
        rw [ByteArray.data_extract, hSz, hS, hu]
        simp
        exact List.take_of_length_le (by simp)
      rw [← hS]
      clear hs0 h43 hsl hSz hS hu
      rcases hu0 : u[0]? with _ | c
      · obtain rfl : u = [] := by
          rcases u with _ | ⟨x, u⟩
          · rfl
          · cases hu0
        have hstrip : Hid (([] : List UInt8) = stripZ (unplus s)) := by show _ = _; rw [HU.out]; rfl
        clear hu0
        go_enter Tryd.func31, Tryd.ntmps31
        go_wp2_with (go_at_call 38; refine (FT.out [] _ hstrip.out (.inl (by simp)) (bel_refl w)).mono ?_; rintro e w1 ⟨v, rfl, hb, h⟩; have HP := Lib.hid (And.intro hb h); clear hb h)
        go_ret
        exact ⟨v, rfl, HP.out.1, HP.out.2⟩
      · have hul : 0 < u.length := (List.getElem?_eq_some_iff.1 hu0).1
        have huli : (0 : Int) < (u.length : Int) := by omega
        have hgu0 : ∀ h, (⟨u.toArray⟩ : ByteArray)[0]'h = c := fun h => (Option.some.inj ((get_list u 0 h).symm.trans hu0))
        by_cases h48 : c = 48
        · have c48 : ((c.toNat : Int) == 48) = true := by rw [h48]; rfl
          clear hu0 h48
          go_enter Tryd.func31, Tryd.ntmps31
          go_wp2_with fail
          refine sd_loop w u 0 _ _ _ _ _ _ _ _ _ _ _ _ _ _ _ _ _ _ _ _ _ _ _ _ _ _ _ _ _ _ _ _ _ _ _ _ _ _ _ _ _ _ _ _ _ _ _ _ _ _ (by omega) ?_
          show ∀ _, _
          intro I2 p' u6 u27 u28 u29 u30 u31 u32 hI2
          obtain ⟨i, rfl, hld⟩ := hI2
          have hstrip : Hid (u.drop i = stripZ (unplus s)) := by show _ = _; rw [HU.out]; exact (stripZ_at u i hld.1 hld.2.1 hld.2.2).symm
          have hile : (i : Int) ≤ (u.length : Int) := by have := hld.1; omega
          have hext2 : (⟨u.toArray⟩ : ByteArray).extract i u.length = ⟨(u.drop i).toArray⟩ := by
            apply ByteArray.ext
            rw [ByteArray.data_extract]
            simp
            exact List.take_of_length_le (by rw [List.length_drop]; omega)
          obtain ⟨t, ht⟩ : ∃ t, t = u.drop i := ⟨_, rfl⟩
          rw [← ht] at hext2 hstrip
          clear ht hld
          by_cases c1 : t.length < 78
          · have c1i : (t.length : Int) < 78 := by omega
            have C := Lib.hid c1
            clear c1
            go_wp2_with (go_at_call 38; refine (FT.out t _ hstrip.out (.inl C.out) (bel_alloc (bel_refl w) _)).mono ?_; rintro e w1 ⟨v, rfl, hb, h⟩; have HP := Lib.hid (And.intro hb h); clear hb h)
            go_ret
            exact ⟨v, rfl, HP.out.1, HP.out.2⟩
          · have c1i : ¬ (t.length : Int) < 78 := by omega
            by_cases c2 : t.length = 78
            · have c2i : ((t.length : Int) == 78) = true := by simp; omega
              cases b1 : Op.bytesLess t maxD
              · cases b2 : (t == maxD)
                · have b1i : Op.bytesLess t [49, 49, 53, 55, 57, 50, 48, 56, 57, 50, 51, 55, 51, 49, 54, 49, 57, 53, 52, 50, 51, 53, 55, 48, 57, 56, 53, 48, 48, 56, 54, 56, 55, 57, 48, 55, 56, 53, 51, 50, 54, 57, 57, 56, 52, 54, 54, 53, 54, 52, 48, 53, 54, 52, 48, 51, 57, 52, 53, 55, 53, 56, 52, 48, 48, 55, 57, 49, 51, 49, 50, 57, 54, 51, 57, 57, 51, 53] = false := b1
                  have b2i : (t == ([49, 49, 53, 55, 57, 50, 48, 56, 57, 50, 51, 55, 51, 49, 54, 49, 57, 53, 52, 50, 51, 53, 55, 48, 57, 56, 53, 48, 48, 56, 54, 56, 55, 57, 48, 55, 56, 53, 51, 50, 54, 57, 57, 56, 52, 54, 54, 53, 54, 52, 48, 53, 54, 52, 48, 51, 57, 52, 53, 55, 53, 56, 52, 48, 48, 55, 57, 49, 51, 49, 50, 57, 54, 51, 57, 57, 51, 53] : List UInt8)) = false := b2
                  have c3 := cmp_big t
                  rw [b1, b2] at c3
                  have HNOT := Lib.hid (FN.out t hstrip.out (by rintro (h | ⟨_, h⟩); exact c1 h; rw [h] at c3; cases c3))
                  clear c1 c2 c3 b1 b2
                  go_wp2
                  go_ret
                  exact ⟨_, rfl, But.of_bel (bel_alloc (bel_refl w) _), .inr ⟨HNOT.out, _, _, rfl⟩⟩
                · have b1i : Op.bytesLess t [49, 49, 53, 55, 57, 50, 48, 56, 57, 50, 51, 55, 51, 49, 54, 49, 57, 53, 52, 50, 51, 53, 55, 48, 57, 56, 53, 48, 48, 56, 54, 56, 55, 57, 48, 55, 56, 53, 51, 50, 54, 57, 57, 56, 52, 54, 54, 53, 54, 52, 48, 53, 54, 52, 48, 51, 57, 52, 53, 55, 53, 56, 52, 48, 48, 55, 57, 49, 51, 49, 50, 57, 54, 51, 57, 57, 51, 53] = false := b1
                  have b2i : (t == ([49, 49, 53, 55, 57, 50, 48, 56, 57, 50, 51, 55, 51, 49, 54, 49, 57, 53, 52, 50, 51, 53, 55, 48, 57, 56, 53, 48, 48, 56, 54, 56, 55, 57, 48, 55, 56, 53, 51, 50, 54, 57, 57, 56, 52, 54, 54, 53, 54, 52, 48, 53, 54, 52, 48, 51, 57, 52, 53, 55, 53, 56, 52, 48, 48, 55, 57, 49, 51, 49, 50, 57, 54, 51, 57, 57, 51, 53] : List UInt8)) = true := b2
                  have c3 := cmp_big t
                  rw [b1, b2] at c3
                  have C := Lib.hid (And.intro c2 c3.symm)
                  clear c1 c2 c3 b1 b2
                  go_wp2_with (go_at_call 38; refine (FT.out t _ hstrip.out (.inr C.out) (bel_alloc (bel_refl w) _)).mono ?_; rintro e w1 ⟨v, rfl, hb, h⟩; have HP := Lib.hid (And.intro hb h); clear hb h)
                  go_ret
                  exact ⟨v, rfl, HP.out.1, HP.out.2⟩
              · have b1i : Op.bytesLess t [49, 49, 53, 55, 57, 50, 48, 56, 57, 50, 51, 55, 51, 49, 54, 49, 57, 53, 52, 50, 51, 53, 55, 48, 57, 56, 53, 48, 48, 56, 54, 56, 55, 57, 48, 55, 56, 53, 51, 50, 54, 57, 57, 56, 52, 54, 54, 53, 54, 52, 48, 53, 54, 52, 48, 51, 57, 52, 53, 55, 53, 56, 52, 48, 48, 55, 57, 49, 51, 49, 50, 57, 54, 51, 57, 57, 51, 53] = true := b1
                have c3 := cmp_big t
                rw [b1] at c3
                have C := Lib.hid (And.intro c2 c3.symm)
                clear c1 c2 c3 b1
                go_wp2_with (go_at_call 38; refine (FT.out t _ hstrip.out (.inr C.out) (bel_alloc (bel_refl w) _)).mono ?_; rintro e w1 ⟨v, rfl, hb, h⟩; have HP := Lib.hid (And.intro hb h); clear hb h)
                go_ret
                exact ⟨v, rfl, HP.out.1, HP.out.2⟩
            · have c2i : ((t.length : Int) == 78) = false := by simp; omega
              have HNOT := Lib.hid (FN.out t hstrip.out (by rintro (h | ⟨h, _⟩); exact c1 h; exact c2 h))
              clear c1 c2
              go_wp2
              go_ret
              exact ⟨_, rfl, But.of_bel (bel_alloc (bel_refl w) _), .inr ⟨HNOT.out, _, _, rfl⟩⟩
        · have c48 : ((c.toNat : Int) == 48) = false := by
            have : c.toNat ≠ 48 := fun e => h48 (UInt8.toNat.inj e)
            simp; omega
          have hstrip : Hid (u = stripZ (unplus s)) := by
            show _ = _
            rw [HU.out, stripZ_id u (fun _ => by rw [hu0]; simpa using h48)]
          clear hu0 h48
          go_enter Tryd.func31, Tryd.ntmps31
          by_cases c1 : u.length < 78
          · have c1i : (u.length : Int) < 78 := by omega
            have C := Lib.hid c1
            clear c1
            go_wp2_with (go_at_call 38; refine (FT.out u _ hstrip.out (.inl C.out) (bel_refl w)).mono ?_; rintro e w1 ⟨v, rfl, hb, h⟩; have HP := Lib.hid (And.intro hb h); clear hb h)
            go_ret
            exact ⟨v, rfl, HP.out.1, HP.out.2⟩
          · have c1i : ¬ (u.length : Int) < 78 := by omega
            by_cases c2 : u.length = 78
            · have c2i : ((u.length : Int) == 78) = true := by simp; omega
              cases b1 : Op.bytesLess u maxD
              · cases b2 : (u == maxD)
                · have b1i : Op.bytesLess u [49, 49, 53, 55, 57, 50, 48, 56, 57, 50, 51, 55, 51, 49, 54, 49, 57, 53, 52, 50, 51, 53, 55, 48, 57, 56, 53, 48, 48, 56, 54, 56, 55, 57, 48, 55, 56, 53, 51, 50, 54, 57, 57, 56, 52, 54, 54, 53, 54, 52, 48, 53, 54, 52, 48, 51, 57, 52, 53, 55, 53, 56, 52, 48, 48, 55, 57, 49, 51, 49, 50, 57, 54, 51, 57, 57, 51, 53] = false := b1
                  have b2i : (u == ([49, 49, 53, 55, 57, 50, 48, 56, 57, 50, 51, 55, 51, 49, 54, 49, 57, 53, 52, 50, 51, 53, 55, 48, 57, 56, 53, 48, 48, 56, 54, 56, 55, 57, 48, 55, 56, 53, 51, 50, 54, 57, 57, 56, 52, 54, 54, 53, 54, 52, 48, 53, 54, 52, 48, 51, 57, 52, 53, 55, 53, 56, 52, 48, 48, 55, 57, 49, 51, 49, 50, 57, 54, 51, 57, 57, 51, 53] : List UInt8)) = false := b2
                  have c3 := cmp_big u
                  rw [b1, b2] at c3
                  have HNOT := Lib.hid (FN.out u hstrip.out (by rintro (h | ⟨_, h⟩); exact c1 h; rw [h] at c3; cases c3))
                  clear c1 c2 c3 b1 b2
                  go_wp2
                  go_ret
                  exact ⟨_, rfl, But.of_bel (bel_refl w), .inr ⟨HNOT.out, _, _, rfl⟩⟩
                · have b1i : Op.bytesLess u [49, 49, 53, 55, 57, 50, 48, 56, 57, 50, 51, 55, 51, 49, 54, 49, 57, 53, 52, 50, 51, 53, 55, 48, 57, 56, 53, 48, 48, 56, 54, 56, 55, 57, 48, 55, 56, 53, 51, 50, 54, 57, 57, 56, 52, 54, 54, 53, 54, 52, 48, 53, 54, 52, 48, 51, 57, 52, 53, 55, 53, 56, 52, 48, 48, 55, 57, 49, 51, 49, 50, 57, 54, 51, 57, 57, 51, 53] = false := b1
                  have b2i : (u == ([49, 49, 53, 55, 57, 50, 48, 56, 57, 50, 51, 55, 51, 49, 54, 49, 57, 53, 52, 50, 51, 53, 55, 48, 57, 56, 53, 48, 48, 56, 54, 56, 55, 57, 48, 55, 56, 53, 51, 50, 54, 57, 57, 56, 52, 54, 54, 53, 54, 52, 48, 53, 54, 52, 48, 51, 57, 52, 53, 55, 53, 56, 52, 48, 48, 55, 57, 49, 51, 49, 50, 57, 54, 51, 57, 57, 51, 53] : List UInt8)) = true := b2
                  have c3 := cmp_big u
                  rw [b1, b2] at c3
                  have C := Lib.hid (And.intro c2 c3.symm)
                  clear c1 c2 c3 b1 b2
                  go_wp2_with (go_at_call 38; refine (FT.out u _ hstrip.out (.inr C.out) (bel_refl w)).mono ?_; rintro e w1 ⟨v, rfl, hb, h⟩; have HP := Lib.hid (And.intro hb h); clear hb h)
                  go_ret
                  exact ⟨v, rfl, HP.out.1, HP.out.2⟩
              · have b1i : Op.bytesLess u [49, 49, 53, 55, 57, 50, 48, 56, 57, 50, 51, 55, 51, 49, 54, 49, 57, 53, 52, 50, 51, 53, 55, 48, 57, 56, 53, 48, 48, 56, 54, 56, 55, 57, 48, 55, 56, 53, 51, 50, 54, 57, 57, 56, 52, 54, 54, 53, 54, 52, 48, 53, 54, 52, 48, 51, 57, 52, 53, 55, 53, 56, 52, 48, 48, 55, 57, 49, 51, 49, 50, 57, 54, 51, 57, 57, 51, 53] = true := b1
                have c3 := cmp_big u
                rw [b1] at c3
                have C := Lib.hid (And.intro c2 c3.symm)
                clear c1 c2 c3 b1
                go_wp2_with (go_at_call 38; refine (FT.out u _ hstrip.out (.inr C.out) (bel_refl w)).mono ?_; rintro e w1 ⟨v, rfl, hb, h⟩; have HP := Lib.hid (And.intro hb h); clear hb h)
                go_ret
                exact ⟨v, rfl, HP.out.1, HP.out.2⟩
            · have c2i : ((u.length : Int) == 78) = false := by simp; omega
              have HNOT := Lib.hid (FN.out u hstrip.out (by rintro (h | ⟨h, _⟩); exact c1 h; exact c2 h))
              clear c1 c2
              go_wp2
              go_ret
              exact ⟨_, rfl, But.of_bel (bel_refl w), .inr ⟨HNOT.out, _, _, rfl⟩⟩
    · obtain ⟨u, hu⟩ : ∃ u, u = s := ⟨_, rfl⟩
      have HU : Hid (unplus s = u) := by show _ = _; unfold unplus; rw [if_neg (by rw [hs0]; simpa using h43), hu]
      have hsl : 0 < s.length := (List.getElem?_eq_some_iff.1 hs0).1
      have c43 : ((c0.toNat : Int) == 43) = false := by
        have : c0.toNat ≠ 43 := fun e => h43 (UInt8.toNat.inj e)
        simp; omega
      rw [← hu] at hs0 hsl ⊢
      clear h43 hu
      rcases hu0 : u[0]? with _ | c
      · exfalso
        rw [hu0] at hs0
        cases hs0
      · obtain rfl : c0 = c := by rw [hu0] at hs0; exact (Option.some.inj hs0).symm
        have hul : 0 < u.length := (List.getElem?_eq_some_iff.1 hu0).1
        have huli : (0 : Int) < (u.length : Int) := by omega
        have hgu0 : ∀ h, (⟨u.toArray⟩ : ByteArray)[0]'h = c0 := fun h => (Option.some.inj ((get_list u 0 h).symm.trans hu0))
        by_cases h48 : c0 = 48
        · have c48 : ((c0.toNat : Int) == 48) = true := by rw [h48]; rfl
          clear hu0 hs0 h48
          go_enter Tryd.func31, Tryd.ntmps31
          go_wp2_with fail
          refine sd_loop w u 0 _ _ _ _ _ _ _ _ _ _ _ _ _ _ _ _ _ _ _ _ _ _ _ _ _ _ _ _ _ _ _ _ _ _ _ _ _ _ _ _ _ _ _ _ _ _ _ _ _ _ (by omega) ?_
          show ∀ _, _
          intro I2 p' u6 u27 u28 u29 u30 u31 u32 hI2
          obtain ⟨i, rfl, hld⟩ := hI2
          have hstrip : Hid (u.drop i = stripZ (unplus s)) := by show _ = _; rw [HU.out]; exact (stripZ_at u i hld.1 hld.2.1 hld.2.2).symm
          have hile : (i : Int) ≤ (u.length : Int) := by have := hld.1; omega
          have hext2 : (⟨u.toArray⟩ : ByteArray).extract i u.length = ⟨(u.drop i).toArray⟩ := by
            apply ByteArray.ext
            rw [ByteArray.data_extract]
            simp
            exact List.take_of_length_le (by rw [List.length_drop]; omega)
          obtain ⟨t, ht⟩ : ∃ t, t = u.drop i := ⟨_, rfl⟩
          rw [← ht] at hext2 hstrip
          clear ht hld
          by_cases c1 : t.length < 78
          · have c1i : (t.length : Int) < 78 := by omega
            have C := Lib.hid c1
            clear c1
            go_wp2_with (go_at_call 38; refine (FT.out t _ hstrip.out (.inl C.out) (bel_alloc (bel_refl w) _)).mono ?_; rintro e w1 ⟨v, rfl, hb, h⟩; have HP := Lib.hid (And.intro hb h); clear hb h)
            go_ret
            exact ⟨v, rfl, HP.out.1, HP.out.2⟩
          · have c1i : ¬ (t.length : Int) < 78 := by omega
            by_cases c2 : t.length = 78
            · have c2i : ((t.length : Int) == 78) = true := by simp; omega
              cases b1 : Op.bytesLess t maxD
              · cases b2 : (t == maxD)
                · have b1i : Op.bytesLess t [49, 49, 53, 55, 57, 50, 48, 56, 57, 50, 51, 55, 51, 49, 54, 49, 57, 53, 52, 50, 51, 53, 55, 48, 57, 56, 53, 48, 48, 56, 54, 56, 55, 57, 48, 55, 56, 53, 51, 50, 54, 57, 57, 56, 52, 54, 54, 53, 54, 52, 48, 53, 54, 52, 48, 51, 57, 52, 53, 55, 53, 56, 52, 48, 48, 55, 57, 49, 51, 49, 50, 57, 54, 51, 57, 57, 51, 53] = false := b1
                  have b2i : (t == ([49, 49, 53, 55, 57, 50, 48, 56, 57, 50, 51, 55, 51, 49, 54, 49, 57, 53, 52, 50, 51, 53, 55, 48, 57, 56, 53, 48, 48, 56, 54, 56, 55, 57, 48, 55, 56, 53, 51, 50, 54, 57, 57, 56, 52, 54, 54, 53, 54, 52, 48, 53, 54, 52, 48, 51, 57, 52, 53, 55, 53, 56, 52, 48, 48, 55, 57, 49, 51, 49, 50, 57, 54, 51, 57, 57, 51, 53] : List UInt8)) = false := b2
                  have c3 := cmp_big t
                  rw [b1, b2] at c3
                  have HNOT := Lib.hid (FN.out t hstrip.out (by rintro (h | ⟨_, h⟩); exact c1 h; rw [h] at c3; cases c3))
                  clear c1 c2 c3 b1 b2
                  go_wp2
                  go_ret
                  exact ⟨_, rfl, But.of_bel (bel_alloc (bel_refl w) _), .inr ⟨HNOT.out, _, _, rfl⟩⟩
                · have b1i : Op.bytesLess t [49, 49, 53, 55, 57, 50, 48, 56, 57, 50, 51, 55, 51, 49, 54, 49, 57, 53, 52, 50, 51, 53, 55, 48, 57, 56, 53, 48, 48, 56, 54, 56, 55, 57, 48, 55, 56, 53, 51, 50, 54, 57, 57, 56, 52, 54, 54, 53, 54, 52, 48, 53, 54, 52, 48, 51, 57, 52, 53, 55, 53, 56, 52, 48, 48, 55, 57, 49, 51, 49, 50, 57, 54, 51, 57, 57, 51, 53] = false := b1
                  have b2i : (t == ([49, 49, 53, 55, 57, 50, 48, 56, 57, 50, 51, 55, 51, 49, 54, 49, 57, 53, 52, 50, 51, 53, 55, 48, 57, 56, 53, 48, 48, 56, 54, 56, 55, 57, 48, 55, 56, 53, 51, 50, 54, 57, 57, 56, 52, 54, 54, 53, 54, 52, 48, 53, 54, 52, 48, 51, 57, 52, 53, 55, 53, 56, 52, 48, 48, 55, 57, 49, 51, 49, 50, 57, 54, 51, 57, 57, 51, 53] : List UInt8)) = true := b2
                  have c3 := cmp_big t
                  rw [b1, b2] at c3
                  have C := Lib.hid (And.intro c2 c3.symm)
                  clear c1 c2 c3 b1 b2
                  go_wp2_with (go_at_call 38; refine (FT.out t _ hstrip.out (.inr C.out) (bel_alloc (bel_refl w) _)).mono ?_; rintro e w1 ⟨v, rfl, hb, h⟩; have HP := Lib.hid (And.intro hb h); clear hb h)
                  go_ret
                  exact ⟨v, rfl, HP.out.1, HP.out.2⟩
              · have b1i : Op.bytesLess t [49, 49, 53, 55, 57, 50, 48, 56, 57, 50, 51, 55, 51, 49, 54, 49, 57, 53, 52, 50, 51, 53, 55, 48, 57, 56, 53, 48, 48, 56, 54, 56, 55, 57, 48, 55, 56, 53, 51, 50, 54, 57, 57, 56, 52, 54, 54, 53, 54, 52, 48, 53, 54, 52, 48, 51, 57, 52, 53, 55, 53, 56, 52, 48, 48, 55, 57, 49, 51, 49, 50, 57, 54, 51, 57, 57, 51, 53] = true := b1
                have c3 := cmp_big t
                rw [b1] at c3
                have C := Lib.hid (And.intro c2 c3.symm)
                clear c1 c2 c3 b1
                go_wp2_with (go_at_call 38; refine (FT.out t _ hstrip.out (.inr C.out) (bel_alloc (bel_refl w) _)).mono ?_; rintro e w1 ⟨v, rfl, hb, h⟩; have HP := Lib.hid (And.intro hb h); clear hb h)
                go_ret
                exact ⟨v, rfl, HP.out.1, HP.out.2⟩
            · have c2i : ((t.length : Int) == 78) = false := by simp; omega
              have HNOT := Lib.hid (FN.out t hstrip.out (by rintro (h | ⟨h, _⟩); exact c1 h; exact c2 h))
              clear c1 c2
              go_wp2
              go_ret
              exact ⟨_, rfl, But.of_bel (bel_alloc (bel_refl w) _), .inr ⟨HNOT.out, _, _, rfl⟩⟩
        · have c48 : ((c0.toNat : Int) == 48) = false := by
            have : c0.toNat ≠ 48 := fun e => h48 (UInt8.toNat.inj e)
            simp; omega
          have hstrip : Hid (u = stripZ (unplus s)) := by
            show _ = _
            rw [HU.out, stripZ_id u (fun _ => by rw [hu0]; simpa using h48)]
          clear hu0 hs0 h48
          go_enter Tryd.func31, Tryd.ntmps31
          by_cases c1 : u.length < 78
          · have c1i : (u.length : Int) < 78 := by omega
            have C := Lib.hid c1
            clear c1
            go_wp2_with (go_at_call 38; refine (FT.out u _ hstrip.out (.inl C.out) (bel_refl w)).mono ?_; rintro e w1 ⟨v, rfl, hb, h⟩; have HP := Lib.hid (And.intro hb h); clear hb h)
            go_ret
            exact ⟨v, rfl, HP.out.1, HP.out.2⟩
          · have c1i : ¬ (u.length : Int) < 78 := by omega
            by_cases c2 : u.length = 78
            · have c2i : ((u.length : Int) == 78) = true := by simp; omega
              cases b1 : Op.bytesLess u maxD
              · cases b2 : (u == maxD)
                · have b1i : Op.bytesLess u [49, 49, 53, 55, 57, 50, 48, 56, 57, 50, 51, 55, 51, 49, 54, 49, 57, 53, 52, 50, 51, 53, 55, 48, 57, 56, 53, 48, 48, 56, 54, 56, 55, 57, 48, 55, 56, 53, 51, 50, 54, 57, 57, 56, 52, 54, 54, 53, 54, 52, 48, 53, 54, 52, 48, 51, 57, 52, 53, 55, 53, 56, 52, 48, 48, 55, 57, 49, 51, 49, 50, 57, 54, 51, 57, 57, 51, 53] = false := b1
                  have b2i : (u == ([49, 49, 53, 55, 57, 50, 48, 56, 57, 50, 51, 55, 51, 49, 54, 49, 57, 53, 52, 50, 51, 53, 55, 48, 57, 56, 53, 48, 48, 56, 54, 56, 55, 57, 48, 55, 56, 53, 51, 50, 54, 57, 57, 56, 52, 54, 54, 53, 54, 52, 48, 53, 54, 52, 48, 51, 57, 52, 53, 55, 53, 56, 52, 48, 48, 55, 57, 49, 51, 49, 50, 57, 54, 51, 57, 57, 51, 53] : List UInt8)) = false := b2
                  have c3 := cmp_big u
                  rw [b1, b2] at c3
                  have HNOT := Lib.hid (FN.out u hstrip.out (by rintro (h | ⟨_, h⟩); exact c1 h; rw [h] at c3; cases c3))
                  clear c1 c2 c3 b1 b2
                  go_wp2
                  go_ret
                  exact ⟨_, rfl, But.of_bel (bel_refl w), .inr ⟨HNOT.out, _, _, rfl⟩⟩
                · have b1i : Op.bytesLess u [49, 49, 53, 55, 57, 50, 48, 56, 57, 50, 51, 55, 51, 49, 54, 49, 57, 53, 52, 50, 51, 53, 55, 48, 57, 56, 53, 48, 48, 56, 54, 56, 55, 57, 48, 55, 56, 53, 51, 50, 54, 57, 57, 56, 52, 54, 54, 53, 54, 52, 48, 53, 54, 52, 48, 51, 57, 52, 53, 55, 53, 56, 52, 48, 48, 55, 57, 49, 51, 49, 50, 57, 54, 51, 57, 57, 51, 53] = false := b1
                  have b2i : (u == ([49, 49, 53, 55, 57, 50, 48, 56, 57, 50, 51, 55, 51, 49, 54, 49, 57, 53, 52, 50, 51, 53, 55, 48, 57, 56, 53, 48, 48, 56, 54, 56, 55, 57, 48, 55, 56, 53, 51, 50, 54, 57, 57, 56, 52, 54, 54, 53, 54, 52, 48, 53, 54, 52, 48, 51, 57, 52, 53, 55, 53, 56, 52, 48, 48, 55, 57, 49, 51, 49, 50, 57, 54, 51, 57, 57, 51, 53] : List UInt8)) = true := b2
                  have c3 := cmp_big u
                  rw [b1, b2] at c3
                  have C := Lib.hid (And.intro c2 c3.symm)
                  clear c1 c2 c3 b1 b2
                  go_wp2_with (go_at_call 38; refine (FT.out u _ hstrip.out (.inr C.out) (bel_refl w)).mono ?_; rintro e w1 ⟨v, rfl, hb, h⟩; have HP := Lib.hid (And.intro hb h); clear hb h)
                  go_ret
                  exact ⟨v, rfl, HP.out.1, HP.out.2⟩
              · have b1i : Op.bytesLess u [49, 49, 53, 55, 57, 50, 48, 56, 57, 50, 51, 55, 51, 49, 54, 49, 57, 53, 52, 50, 51, 53, 55, 48, 57, 56, 53, 48, 48, 56, 54, 56, 55, 57, 48, 55, 56, 53, 51, 50, 54, 57, 57, 56, 52, 54, 54, 53, 54, 52, 48, 53, 54, 52, 48, 51, 57, 52, 53, 55, 53, 56, 52, 48, 48, 55, 57, 49, 51, 49, 50, 57, 54, 51, 57, 57, 51, 53] = true := b1
                have c3 := cmp_big u
                rw [b1] at c3
                have C := Lib.hid (And.intro c2 c3.symm)
                clear c1 c2 c3 b1
                go_wp2_with (go_at_call 38; refine (FT.out u _ hstrip.out (.inr C.out) (bel_refl w)).mono ?_; rintro e w1 ⟨v, rfl, hb, h⟩; have HP := Lib.hid (And.intro hb h); clear hb h)
                go_ret
                exact ⟨v, rfl, HP.out.1, HP.out.2⟩
            · have c2i : ((u.length : Int) == 78) = false := by simp; omega
              have HNOT := Lib.hid (FN.out u hstrip.out (by rintro (h | ⟨h, _⟩); exact c1 h; exact c2 h))
              clear c1 c2
              go_wp2
              go_ret
              exact ⟨_, rfl, But.of_bel (bel_refl w), .inr ⟨HNOT.out, _, _, rfl⟩⟩
end Go.Proofs.YtfaocjcpnjmfiaaDoor
