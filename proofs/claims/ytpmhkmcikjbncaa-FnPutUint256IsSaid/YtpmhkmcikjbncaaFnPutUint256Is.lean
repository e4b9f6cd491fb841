/-
  For every number and every slice of bytes: PutUint256 writes all 32 bytes ahead, leaves the end untouched, and panics where there are less than 32 (the statement FnPutUint256IsSaid, no conditions).
-/
import Derived.Test.YtpmhkmcikjbncaaOpen2
import Derived.Test.YtpmhkmcikjbncaaPut
import Derived.Test.YtpmhkmcikjbncaaHeldM
namespace Go.Proofs.Ytpmhkmcikjbncaa.fnPutUint256Is
open Go.ChangeShapes Go.WideShapes Go.ChangeAt Go.RowKit
set_option linter.unusedVariables false
set_option linter.unusedSimpArgs false

theorem wp_append_slb {P : Program} (w : World) {o : Oper} {a : Act} {K : Act → World → Prop} {Q : Exit → Act → World → Prop} (s x : Operand) (t : TypeId)
    (ho : o.op = .call { callee := .builtin .append, args := #[s, x], argTypes := #[t, t] })
    (base : Nat) (e : TypeId) (i : TypeInfo) (ht : P.underlying t = some (.slice e)) (hi : P.info? e = some i) (hz : i.zero = some (.int .u8 0)) (hsize : i.size = 1) (hby : i.bytes = 1)
    (v : Value) (n : Nat) (xs : List Value) (hs : a.eval s = v) (hown : w.ownsRow base e 1 v n xs) (u : Value) (l : List UInt8) (hx : a.eval x = u) (hu : SlB w u l)
    (hbytes : n + l.length ≤ 140737488355328) (hbase : base ≤ w.heap.size)
    (h : ∀ v' w', w'.ownsRow base e 1 v' (n + l.length) (xs ++ Lib.byteCells l) → w.grownBy w' v.ownBlock → K (a.put o.dst v') w') : o.wp P a w K Q := by
  obtain ⟨v', w', hrun, h2, h3⟩ := run_append_slb (P := P) w base t o.type e i ht hi hz hsize hby v n xs hown u l hu hbytes hbase
  unfold Oper.wp execOp
  simp only [ho, resolve, invoke, builtin, Sem.run_bind, Sem.run_pure, Result.andThen_ok, List.map_toArray, List.map_cons, List.map_nil, hs, hx, hrun]
  exact h v' w' h2 h3
theorem keeps_grown {B : Nat} {W0 w w' : World} {v : Value} {e n s : Nat} {xs : List Value} (h : Keeps B W0 w) (hB : B ≤ W0.heap.size) (hg : w.grownBy w' v.ownBlock) (ho : w.ownsRow B e s v n xs) : Keeps B W0 w' :=
  Keeps.of (h.2.grown hg (Nat.le_trans hB h.2.size) (fun g hk => (ho.lt g hk).1))
theorem own_cat {B n N : Nat} {w : World} {e : TypeId} {v : Value} {m : List UInt8} (h : w.ownsRow B e 1 v ((Lib.beBytes n N).length + m.length) (Lib.byteCells (Lib.beBytes n N) ++ Lib.byteCells m)) : SlB w v (Lib.beBytes n N ++ m) := by
  refine SlB.of_own (base := B) (e := e) ?_
  rw [List.length_append, Lib.byteCells_append]
  exact h
set_option maxHeartbeats 4000000 in
theorem walk (w : World) (x : N4) (v : Value) (l : List UInt8) (hv : SlB w v l) : Calls Try.prog 5 #[x.v, v] w (RetBel (.bool true) w) := by
  obtain ⟨i0, hi, hz0, hz1, hz2⟩ := info_parts Try.infoByte
  obtain ⟨A, cap, n, rfl, hn, hcap, hv⟩ : ∃ A cap n, v = .slice A n cap ∧ n = l.length ∧ n ≤ cap ∧ SlB w (.slice A n cap) l := by
    have h2 := hv
    obtain ⟨A, cap, rfl, hc, _⟩ := hv
    exact ⟨A, cap, _, rfl, rfl, hc, h2⟩
  have HN := Lib.hid hn
  have HV := Lib.hid hv
  clear hn
  by_cases c1 : 2147483647 < n
  · go_enter Try.func5, Try.ntmps5
    go_wp2
    go_ret
    exact retBel rfl (bel_alloc (bel_refl w) _)
  by_cases c2 : n < 32
  · go_enter Try.func5, Try.ntmps5
    go_wp2_with (go_at_call 18; refine (implPut_short x _ l _ (HV.out.alloc _) (by rw [← HN.out]; omega)).mono ?_; rintro e w1 ⟨⟨u, rfl⟩, hb1⟩)
    go_ret
    exact retBel rfl (bel_trans (bel_alloc (bel_refl w) _) hb1)
  · obtain ⟨b, hb0⟩ : ∃ b, l[0]? = some b := ⟨_, List.getElem?_eq_getElem (by rw [← HN.out]; omega)⟩
    obtain ⟨g, o, rfl, _⟩ := hv.first hb0
    have hcut := hv.cut 32 (by omega)
    have HC : Hid (SlB w (.slice (if cap = 32 then some ⟨g, o, none⟩ else some ⟨g, o + 32, none⟩) (n - 32) (cap - 32)) (l.drop 32)) := by show SlB _ _ _; simpa [Addr.add] using hcut
    have e0 : (Lib.beBytes 32 x.toNat ++ l.drop 32 == Lib.beBytes 32 x.toNat ++ l.drop 32) = true := by simp
    have HD : Hid ((l.drop 32).length ≤ 2147483647) := by show _ ≤ _; rw [List.length_drop, ← HN.out]; omega
    have n32 : (32 : Int) ≤ (n : Int) := by omega
    clear hcut hb0 hv
    go_enter Try.func5, Try.ntmps5
    go_wp2_with (go_at_call 18; refine (implPut_long x _ l _ (HV.out.alloc _) (by rw [← HN.out]; omega) (by rw [← HN.out]; omega)).mono ?_; rintro e w1 ⟨v1, rfl, s1, hb1⟩; have hat1 := At4.bel (show At4 (w.alloc (Obj.cells #[V x.a, V x.b, V x.c, V x.d] 24)) w.heap.size 0 x by constructor <;> simp [go_sem]) hb1; have hlt : w.heap.size < w1.heap.size := hat1.lt; obtain ⟨q0, q1, q2, q3⟩ := hat1; have S1 := Lib.hid s1; have hbel := bel_trans (bel_alloc (bel_refl w) _) hb1; clear s1 hb1)
    have HC1 := Lib.hid (HC.out.bel hbel)
    by_cases hck : cap = 32
    all_goals
      simp only [hck, if_true, if_false] at HC1
      refine wp_region_noPanic ?_
      refine wp_region_held_drew (S := (Keeps w1.heap.size w1)) (by kernel_rfl) (by exact Keeps.start _ _) (fun hHeld => ?_)
      refine hm_take (i := 0) (v := ?_) rfl rfl (by kernel_rfl) (by kernel_rfl) (by kernel_rfl) (fun _ _ _ h => h) rfl ?_ (by assumption) ?_
      rotate_left
      · (intro w hSw; (try dsimp only at hSw); go_simp; try with_reducible rfl)
      try simp only [Act.put, List.setIfInBounds_toArray, List.set_cons_zero, List.set_cons_succ]
      refine hm_take (i := 1) (v := ?_) rfl rfl (by kernel_rfl) (by kernel_rfl) (by kernel_rfl) (fun _ _ _ h => h) rfl ?_ (by assumption) ?_
      rotate_left
      · (intro w hSw; (try dsimp only at hSw); go_simp; try with_reducible rfl)
      try simp only [Act.put, List.setIfInBounds_toArray, List.set_cons_zero, List.set_cons_succ]
      refine hm_take (i := 2) (v := ?_) rfl rfl (by kernel_rfl) (by kernel_rfl) (by kernel_rfl) (fun _ _ _ h => h) rfl ?_ (by assumption) ?_
      rotate_left
      · (intro w hSw; (try dsimp only at hSw); go_simp; try with_reducible rfl)
      try simp only [Act.put, List.setIfInBounds_toArray, List.set_cons_zero, List.set_cons_succ]
      refine hm_take (i := 3) (v := ?_) rfl rfl (by kernel_rfl) (by kernel_rfl) (by kernel_rfl) (fun _ _ _ h => h) rfl ?_ (by assumption) ?_
      rotate_left
      · (intro w hSw; (try dsimp only at hSw); go_simp; try with_reducible rfl)
      try simp only [Act.put, List.setIfInBounds_toArray, List.set_cons_zero, List.set_cons_succ]
      refine hm_take (i := 4) (v := ?_) rfl rfl (by kernel_rfl) (by kernel_rfl) (by kernel_rfl) (fun _ _ _ h => h) rfl ?_ (by assumption) ?_
      rotate_left
      · (intro w hSw; (try dsimp only at hSw); go_simp; try with_reducible rfl)
      try simp only [Act.put, List.setIfInBounds_toArray, List.set_cons_zero, List.set_cons_succ]
      refine hm_take (i := 6) (v := ?_) rfl rfl (by kernel_rfl) (by kernel_rfl) (by kernel_rfl) (fun _ _ _ h => h) rfl ?_ (by assumption) ?_
      rotate_left
      · (intro w hSw; (try dsimp only at hSw); go_simp; try with_reducible rfl)
      try simp only [Act.put, List.setIfInBounds_toArray, List.set_cons_zero, List.set_cons_succ]
      refine hm_take (i := 7) (v := ?_) rfl rfl (by kernel_rfl) (by kernel_rfl) (by kernel_rfl) (fun _ _ _ h => h) rfl ?_ (by assumption) ?_
      rotate_left
      · (intro w hSw; (try dsimp only at hSw); go_simp; try with_reducible rfl)
      try simp only [Act.put, List.setIfInBounds_toArray, List.set_cons_zero, List.set_cons_succ]
      refine hm_call (i := 5) rfl (by kernel_rfl) rfl (fun K hK => ?_)
      go_simp
      (go_at_call 16; refine (big_any x _).mono ?_; rintro e w25 ⟨v25, rfl, own25, hb⟩; have own25 := own_base own25 hHeld.2.size)
      (try go_wp2_with fail)
      refine hK.out _ _ (by (try dsimp only); first | assumption | exact Keeps.step (by assumption) (Nat.le_refl _) hb | exact Keeps.step (by assumption) (Nat.le_refl _) (bel_alloc (bel_refl _) _)) (fun hHeld => ?_)
      clear hK K
      try simp only [Act.put, List.setIfInBounds_toArray, List.set_cons_zero, List.set_cons_succ]
      refine hm_call (i := 8) rfl (by kernel_rfl) rfl (fun K hK => ?_)
      (show Oper.wp _ (⟨some 28, _, _, _, _, _⟩ : Oper) _ _ _ _; refine wp_append_slb _ (.tmp 25) (.tmp 27) _ rfl w1.heap.size 5 i0 Try.underlying25 hi hz0 hz1 hz2 _ _ _ rfl own25 _ (l.drop 32) rfl (HC1.out.bel hHeld.2) ?_ hHeld.2.size ?_; (rw [be_len]; have := HD.out; omega); intro v28 w28 own28 g28; have k28 := keeps_grown hHeld (Nat.le_refl _) g28 own25)
      refine hK.out _ _ (by (try dsimp only); first | assumption | exact Keeps.step (by assumption) (Nat.le_refl _) hb | exact Keeps.step (by assumption) (Nat.le_refl _) (bel_alloc (bel_refl _) _)) (fun hHeld => ?_)
      clear hK K
      try simp only [Act.put, List.setIfInBounds_toArray, List.set_cons_zero, List.set_cons_succ]
      refine hm_call (i := 9) rfl (by kernel_rfl) rfl (fun K hK => ?_)
      go_simp
      (go_at_call 13; refine (same_any _ _ _ (Lib.beBytes 32 x.toNat ++ l.drop 32) _ (S1.out.bel hHeld.2) (own_cat own28)).mono ?_; rintro e w29 ⟨rfl, rfl⟩)
      (try go_wp2_with fail)
      refine hK.out _ _ (by (try dsimp only); first | assumption | exact Keeps.step (by assumption) (Nat.le_refl _) hb | exact Keeps.step (by assumption) (Nat.le_refl _) (bel_alloc (bel_refl _) _)) (fun hHeld => ?_)
      clear hK K
      try simp only [Act.put, List.setIfInBounds_toArray, List.set_cons_zero, List.set_cons_succ]
      refine hm_take (i := 10) (v := ?_) rfl rfl (by kernel_rfl) (by kernel_rfl) (by kernel_rfl) (fun _ _ _ h => h) rfl ?_ (by assumption) ?_
      rotate_left
      · (intro w hSw; (try dsimp only at hSw); go_simp; try with_reducible rfl)
      try simp only [Act.put, List.setIfInBounds_toArray, List.set_cons_zero, List.set_cons_succ]
      refine hm_take (i := 11) (v := ?_) rfl rfl (by kernel_rfl) (by kernel_rfl) (by kernel_rfl) (fun _ _ _ h => h) rfl ?_ (by assumption) ?_
      rotate_left
      · (intro w hSw; (try dsimp only at hSw); go_simp; try with_reducible rfl)
      try simp only [Act.put, List.setIfInBounds_toArray, List.set_cons_zero, List.set_cons_succ]
      refine wpAnyH_done (by kernel_rfl) ?_ _
      refine NoPanic.normal ?_
      go_wp2
      go_ret
      exact retBel rfl (bel_trans hbel (‹Keeps _ _ _›).2)

set_option maxRecDepth 100000 in
theorem lifted (os : Os) (started : os.Started) (H : Type) (enc : TypeId × Value → H) :
    ReturnsInHanded {} Try.checked os 5 .any (Rows.fnPutUint256IsSpec.pre6 enc Try.prog Try.f5 Rows.fnPutUint256IsRow.domain false) (Rows.fnPutUint256IsSpec.post enc Try.prog Try.f5 false true false false) := by
  refine returnsInHanded_of_change (C := Try.checked) Try.own started (by kernel_rfl) Try.func5
    (ChangeSpec.witness6 (enc := enc) (C := Try.checked) false ⟨#[], #[.agg #[.int .u64 0, .int .u64 0, .int .u64 0, .int .u64 0], .slice none 0 0], []⟩ 8 (by kernel_rfl) (by kernel_rfl) (by kernel_rfl) (by kernel_rfl)) ?_
  intro W base args ds gs before hval0 hW hcnd _
  have hval : ∀ (j : Nat) t v, Try.f5.params[j]? = some t → args[j]? = some v → Value.okWide Try.prog W .any base t v := hval0
  have hW' := hW
  obtain ⟨p, q, hA0, hV, rfl, hfz, hnd⟩ := hW
  have hA : DataW.TrodAll enc Try.prog W 0 (fun _ => true) true Try.f5.params.toList args.toList ds p := hA0
  rw [Try.params5] at hA hval
  obtain ⟨v0, vs0, d0, ds0, p0, q0, hargs, rfl, rfl, h0, r0⟩ := trodAll_cons hA
  obtain ⟨v1, vs1, d1, ds1, p1, q1, rfl, rfl, rfl, h1, r1⟩ := trodAll_cons r0
  obtain ⟨rfl, rfl, rfl⟩ := trodAll_nil r1
  obtain rfl : args = #[v0, v1] := by cases args; simp_all
  obtain ⟨rfl, rfl⟩ := trodVars_none hV
  have k0 := h0
  have lt0 : ∀ x ∈ p0, x.block < W.heap.size := by obtain ⟨m, hm⟩ := k0; exact DataW.trod_lt m _ _ _ hm
  obtain ⟨x0, rfl⟩ := open_num (hval 0 24 v0 rfl rfl)
  have k1 := h1
  have lt1 : ∀ x ∈ p1, x.block < W.heap.size := by obtain ⟨m, hm⟩ := k1; exact DataW.trod_lt m _ _ _ hm
  obtain ⟨x1, g1⟩ := open_bytes (hval 1 25 v1 rfl rfl) h1
  clear hA0 hval0
  refine (walk W x0 v1 x1 g1).mono fun e W' ⟨he, bel⟩ => ?_
  subst he
  exact ⟨_, rfl, _, _, _, [], _, [], hW', trodAll_mk1 (shut_bool Try.underlying4 _), (trodAll_cons_mk (Below.trod Try.laidOut (by kernel_rfl) (of_decide_eq_true (by kernel_rfl)) k0 bel lt0) (trodAll_cons_mk (Below.trod Try.laidOut (by kernel_rfl) (of_decide_eq_true (by kernel_rfl)) k1 bel lt1) trodAll_mk0)), rfl, bel.frame _, fun h => by cases h⟩

theorem holds : Rows.FnPutUint256IsSaid :=
  OpenClaim.holds_of_wide 5 Try.f5 rfl rfl rfl rfl rfl rfl rfl ⟨rfl, rfl, rfl, rfl, rfl⟩ rfl rfl rfl rfl rfl (by kernel_rfl) Try.func5 (by kernel_rfl)
    (of_decide_eq_true (by kernel_rfl)) (by unfold Func.isWrapper; first | (rw [if_pos (by decide +kernel)]; kernel_rfl) | (rw [if_neg (by decide +kernel)]; exact ⟨rfl, rfl⟩))
    (fun os started H enc _ => lifted os started H enc)
#print axioms holds
end Go.Proofs.Ytpmhkmcikjbncaa.fnPutUint256Is
