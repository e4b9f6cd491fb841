/-
  For every number and every slice of bytes: WriteToSlice writes the last bytes, as many as there is room for (the statement FnWriteToSliceIsSaid, no conditions).
-/
import Derived.Test.YtpmhkmcikjbncaaOpen2
import Derived.Test.YtpmhkmcikjbncaaByt3
import Derived.Test.YtpmhkmcikjbncaaHeldM
namespace Go.Proofs.Ytpmhkmcikjbncaa.fnWriteToSliceIs
open Go.ChangeShapes Go.WideShapes Go.ChangeAt Go.RowKit
set_option linter.unusedVariables false
set_option linter.unusedSimpArgs false

theorem wrote_short {l : List UInt8} (x : N4) (h : l.length ≤ 32) : wrote l x = Lib.beBytes l.length x.toNat := by
  unfold wrote wrIn
  rw [show min 32 l.length = l.length by omega]
  simp
theorem wrote_long {l : List UInt8} (x : N4) (h : 32 ≤ l.length) : wrote l x = Lib.beBytes 32 x.toNat ++ l.drop 32 := by
  unfold wrote wrIn
  rw [show min 32 l.length = 32 by omega]
  simp
theorem own_32 {B : Nat} {w2 : World} {e : TypeId} {v : Value} {n N : Nat} (h : w2.ownsRow B e 1 v (Lib.beBytes n N).length (Lib.byteCells (Lib.beBytes n N))) : w2.ownsRow B e 1 v n (Lib.byteCells (Lib.beBytes n N)) := by
  rw [be_len] at h
  exact h
theorem cut_32 {w : World} {A : Option Addr} {cap n k N : Nat} (h : SlB w (.slice A 32 cap) (Lib.beBytes 32 N)) (hk : k + n = 32) : SlB w (.slice (if cap = k then A else A.map (·.add k)) (32 - k) (cap - k)) (Lib.beBytes n N) := by
  have h1 := h.cut k (by omega)
  rw [Nat.mul_one] at h1
  have e := be_drop' (m := 32) (n := n) (by omega) N
  rw [show 32 - n = k by omega] at e
  rwa [e] at h1
theorem own_app {B : Nat} {w2 : World} {e : TypeId} {v : Value} {n N : Nat} {l : List UInt8} (h : w2.ownsRow B e 1 v (n + l.length) (Lib.byteCells (Lib.beBytes n N) ++ Lib.byteCells l)) : SlB w2 v (Lib.beBytes n N ++ l) := by
  refine SlB.of_own (base := B) (e := e) ?_
  rw [List.length_append, be_len, Lib.byteCells_append]
  exact h
set_option maxHeartbeats 2000000 in
theorem walk (w : World) (x : N4) (v : Value) (l : List UInt8) (hv : SlB w v l) : Calls Try.prog 4 #[x.v, v] w (RetBel (.bool true) w) := by
  obtain ⟨i0, hi, hz0, hz1, hz2⟩ := info_parts Try.infoByte
  obtain ⟨A, cap, n, rfl, hn, hcap, hv⟩ : ∃ A cap n, v = .slice A n cap ∧ n = l.length ∧ n ≤ cap ∧ SlB w (.slice A n cap) l := by
    have h2 := hv
    obtain ⟨A, cap, rfl, hc, _⟩ := hv
    exact ⟨A, cap, _, rfl, rfl, hc, h2⟩
  have HN := Lib.hid hn
  clear hn
  by_cases c1 : 2147483647 < n
  · go_enter Try.func4, Try.ntmps4
    go_wp2
    go_ret
    exact retBel rfl (bel_alloc (bel_refl w) _)
  · have HV := Lib.hid hv
    by_cases c2 : 32 < n
    · have hmin : min (32 : Int) (n : Int) = 32 := by omega
      have e0 : (wrote l x == Lib.beBytes 32 x.toNat ++ l.drop 32) = true := by rw [wrote_long x (by rw [← HN.out]; omega)]; simp
      obtain ⟨b, hb0⟩ : ∃ b, l[0]? = some b := ⟨_, List.getElem?_eq_getElem (by rw [← HN.out]; omega)⟩
      obtain ⟨g, o, rfl, _⟩ := hv.first hb0
      have hne : ¬ cap = 32 := by omega
      have hcut := hv.cut 32 (by omega)
      rw [if_neg hne] at hcut
      have hcut : Hid (SlB w (.slice (some ⟨g, o + 32, none⟩) (n - 32) (cap - 32)) (l.drop 32)) := by show SlB _ _ _; simpa [Addr.add] using hcut
      have hdl : Hid ((l.drop 32).length ≤ 2147483647) := by show _ ≤ _; rw [List.length_drop, ← HN.out]; omega
      clear hv hb0
      go_enter Try.func4, Try.ntmps4
      go_wp2_with (first
        | (go_at_call 16; refine (big_any x _).mono ?_; rintro e w2 ⟨v0, rfl, hown, hb⟩; obtain ⟨A0, cap0, rfl, hcap0, _⟩ := (SlB.of_own hown).parts; have H0 := Lib.hid (own_32 hown); have HB := Lib.hid hb; have hat := At4.bel (show At4 (w.alloc (Obj.cells #[V x.a, V x.b, V x.c, V x.d] 24)) w.heap.size 0 x by constructor <;> simp [go_sem]) hb; clear hown hb)
        | (at_builtin; refine wpList_append_slb _ rfl _ _ 25 rfl _ 5 i0 Try.underlying25 hi hz0 hz1 hz2 (.slice A0 32 cap0) _ _ rfl H0.out _ (l.drop 32) rfl (hcut.out.bel (bel_trans (bel_alloc (bel_refl w) _) HB.out)) (by have := hdl.out; omega) HB.out.size ?_; intro v3 w3 hown3 hgrow3; have s3 := own_app hown3; have hb3 := HB.out.grown hgrow3 HB.out.size (fun g hg => (H0.out.lt g hg).1); have hat3 := At4.bel (show At4 (w.alloc (Obj.cells #[V x.a, V x.b, V x.c, V x.d] 24)) w.heap.size 0 x by constructor <;> simp [go_sem]) hb3; obtain ⟨q0, q1, q2, q3⟩ := hat3; clear hown3 hgrow3 hat)
        | (go_at_call 17; refine (implWriteTo_any x _ l _ (HV.out.bel (bel_trans (bel_alloc (bel_refl w) _) hb3)) (by rw [← HN.out]; omega)).mono ?_; rintro e w6 ⟨v6, rfl, s6, hb6⟩; have s6 := SlB.of_own s6; have s3 := s3.bel hb6; have hb3 := bel_trans hb3 hb6)
        | (go_at_call 13; refine (same_any _ _ _ _ _ s6 s3).mono ?_; rintro e w7 ⟨rfl, rfl⟩))
      go_ret
      exact retBel rfl (bel_trans (bel_alloc (bel_refl w) _) hb3)
    · have hmin : min (32 : Int) (n : Int) = (n : Int) := by omega
      have e0 : (wrote l x == Lib.beBytes n x.toNat) = true := by rw [wrote_short x (by rw [← HN.out]; omega), ← HN.out]; simp
      obtain ⟨k, hk0⟩ : ∃ k, k + n = 32 := ⟨32 - n, by omega⟩
      have hk : (32 : Int) - (n : Int) = (k : Int) := by omega
      have hk2 : k ≤ 32 := by omega
      have HK := Lib.hid hk0
      clear hk0 hv
      go_enter Try.func4, Try.ntmps4
      go_wp2_with (first
        | (go_at_call 16; refine (big_any x _).mono ?_; rintro e w2 ⟨v0, rfl, hown, hb⟩; obtain ⟨A0, cap0, rfl, hcap0, hsl⟩ := (SlB.of_own hown).parts; have HC := Lib.hid (cut_32 hsl HK.out); have HB := Lib.hid hb; have hat := At4.bel (show At4 (w.alloc (Obj.cells #[V x.a, V x.b, V x.c, V x.d] 24)) w.heap.size 0 x by constructor <;> simp [go_sem]) hb; obtain ⟨q0, q1, q2, q3⟩ := hat; clear hown hb hsl)
        | (go_at_call 17; refine (implWriteTo_any x _ l _ (HV.out.bel (bel_trans (bel_alloc (bel_refl w) _) HB.out)) (by rw [← HN.out]; omega)).mono ?_; rintro e w6 ⟨v6, rfl, s6, hb6⟩; have s6 := SlB.of_own s6; have HC6 := Lib.hid (HC.out.bel hb6); have hb3 := bel_trans HB.out hb6)
        | (go_at_call 13; refine (same_any _ _ _ (Lib.beBytes n x.toNat) _ s6 (by first | exact HC6.out | simpa using HC6.out)).mono ?_; rintro e w7 ⟨rfl, rfl⟩))
      all_goals
        go_ret
        exact retBel rfl (bel_trans (bel_alloc (bel_refl w) _) hb3)

set_option maxRecDepth 100000 in
theorem lifted (os : Os) (started : os.Started) (H : Type) (enc : TypeId × Value → H) :
    ReturnsInHanded {} Try.checked os 4 .any (Rows.fnWriteToSliceIsSpec.pre6 enc Try.prog Try.f4 Rows.fnWriteToSliceIsRow.domain false) (Rows.fnWriteToSliceIsSpec.post enc Try.prog Try.f4 false true false false) := by
  refine returnsInHanded_of_change (C := Try.checked) Try.own started (by kernel_rfl) Try.func4
    (ChangeSpec.witness6 (enc := enc) (C := Try.checked) false ⟨#[], #[.agg #[.int .u64 0, .int .u64 0, .int .u64 0, .int .u64 0], .slice none 0 0], []⟩ 8 (by kernel_rfl) (by kernel_rfl) (by kernel_rfl) (by kernel_rfl)) ?_
  intro W base args ds gs before hval0 hW hcnd _
  have hval : ∀ (j : Nat) t v, Try.f4.params[j]? = some t → args[j]? = some v → Value.okWide Try.prog W .any base t v := hval0
  have hW' := hW
  obtain ⟨p, q, hA0, hV, rfl, hfz, hnd⟩ := hW
  have hA : DataW.TrodAll enc Try.prog W 0 (fun _ => true) true Try.f4.params.toList args.toList ds p := hA0
  rw [Try.params4] at hA hval
  obtain ⟨v0, vs0, d0, ds0, p0, q0, hargs, rfl, rfl, h0, r0⟩ := trodAll_cons hA
  obtain ⟨v1, vs1, d1, ds1, p1, q1, rfl, rfl, rfl, h1, r1⟩ := trodAll_cons r0
  obtain ⟨rfl, rfl, rfl⟩ := trodAll_nil r1
  obtain rfl : args = #[v0, v1] := by cases args; simp_all
  obtain ⟨rfl, rfl⟩ := trodVars_none hV
  have k0 := h0
  have lt0 : ∀ x ∈ p0, x.block < W.heap.size := by obtain ⟨m, hm⟩ := k0; exact DataW.trod_lt m _ _ _ hm
  obtain ⟨x0, rfl⟩ := open_num (hval 0 24 v0 rfl rfl)
  have k1 := h1
  have lt1 : ∀ x ∈ p1, x.block < W.heap.size := by obtain ⟨m, hm⟩ := k1; exact DataW.trod_lt m _ _ _ hm
  obtain ⟨x1, g1⟩ := open_bytes (hval 1 25 v1 rfl rfl) h1
  clear hA0 hval0
  refine (walk W x0 v1 x1 g1).mono fun e W' ⟨he, bel⟩ => ?_
  subst he
  exact ⟨_, rfl, _, _, _, [], _, [], hW', trodAll_mk1 (shut_bool Try.underlying4 _), (trodAll_cons_mk (Below.trod Try.laidOut (by kernel_rfl) (of_decide_eq_true (by kernel_rfl)) k0 bel lt0) (trodAll_cons_mk (Below.trod Try.laidOut (by kernel_rfl) (of_decide_eq_true (by kernel_rfl)) k1 bel lt1) trodAll_mk0)), rfl, bel.frame _, fun h => by cases h⟩

theorem holds : Rows.FnWriteToSliceIsSaid :=
  OpenClaim.holds_of_wide 4 Try.f4 rfl rfl rfl rfl rfl rfl rfl ⟨rfl, rfl, rfl, rfl, rfl⟩ rfl rfl rfl rfl rfl (by kernel_rfl) Try.func4 (by kernel_rfl)
    (of_decide_eq_true (by kernel_rfl)) (by unfold Func.isWrapper; first | (rw [if_pos (by decide +kernel)]; kernel_rfl) | (rw [if_neg (by decide +kernel)]; exact ⟨rfl, rfl⟩))
    (fun os started H enc _ => lifted os started H enc)
#print axioms holds
end Go.Proofs.Ytpmhkmcikjbncaa.fnWriteToSliceIs
