/-
  For every number and every slice of bytes: MarshalSSZ and HashTreeRoot are the 32 bytes, the lowest first; MarshalSSZAppend appends them (the statement FnSszIsSaid, no conditions).
-/
import Derived.Test.YtpmhkmcikjbncaaOpen2
import Derived.Test.YtpmhkmcikjbncaaSsz
import Derived.Test.YtpmhkmcikjbncaaHeldM
namespace Go.Proofs.Ytpmhkmcikjbncaa.fnSszIs
open Go.ChangeShapes Go.WideShapes Go.ChangeAt Go.RowKit
set_option linter.unusedVariables false
set_option linter.unusedSimpArgs false

theorem wp_append_slb {P : Program} (w : World) {o : Oper} {a : Act} {K : Act → World → Prop} {Q : Exit → Act → World → Prop} (s x : Operand) (t : TypeId)
    (ho : o.op = .call { callee := .builtin .append, args := #[s, x], argTypes := #[t, t] })
    (base : Nat) (e : TypeId) (i : TypeInfo) (ht : P.underlying t = some (.slice e)) (hi : P.info? e = some i) (hz : i.zero = some (.int .u8 0)) (hsize : i.size = 1) (hby : i.bytes = 1)
    (v : Value) (n : Nat) (xs : List Value) (hs : a.eval s = v) (hown : w.ownsRow base e 1 v n xs) (u : Value) (l : List UInt8) (hx : a.eval x = u) (hu : SlB w u l)
    (hbytes : n + l.length ≤ 140737488355328) (hbase : base ≤ w.heap.size)
    (h : ∀ v' w', w'.ownsRow base e 1 v' (n + l.length) (xs ++ Lib.byteCells l) → w.grownBy w' v.ownBlock → K (a.put o.dst v') w') : o.wp P a w K Q := by
  obtain ⟨v', w', hrun, h2, h3⟩ := run_append_slb (P := P) w base t o.type e i ht hi hz hsize hby v n xs hown u l hu hbytes hbase
  unfold Oper.wp execOp
  simp only [ho, resolve, invoke, builtin, Sem.run_bind, Sem.run_pure, Result.andThen_ok, List.map_toArray, List.map_cons, List.map_nil, hs, hx, hrun]
  exact h v' w' h2 h3
theorem keeps_grown {B : Nat} {W0 w w' : World} {v : Value} {e n s : Nat} {xs : List Value} (h : Keeps B W0 w) (hB : B ≤ W0.heap.size) (hg : w.grownBy w' v.ownBlock) (ho : w.ownsRow B e s v n xs) : Keeps B W0 w' :=
  Keeps.of (h.2.grown hg (Nat.le_trans hB h.2.size) (fun g hk => (ho.lt g hk).1))
theorem own_two {B : Nat} {w : World} {e : TypeId} {v : Value} {l m : List UInt8} (h : w.ownsRow B e 1 v (0 + l.length + m.length) (([] ++ Lib.byteCells l) ++ Lib.byteCells m)) : SlB w v (l ++ m) := by
  refine SlB.of_own (base := B) (e := e) ?_
  rw [List.length_append, Lib.byteCells_append]
  simpa using h
set_option maxHeartbeats 4000000 in
theorem walk (w : World) (x : N4) (v : Value) (l : List UInt8) (hv : SlB w v l) : Calls Try.prog 6 #[x.v, v] w (RetBel (.bool true) w) := by
  obtain ⟨i0, hi, hz0, hz1, hz2⟩ := info_parts Try.infoByte
  obtain ⟨A, cap, n, rfl, hn, hcap, hv⟩ : ∃ A cap n, v = .slice A n cap ∧ n = l.length ∧ n ≤ cap ∧ SlB w (.slice A n cap) l := by
    have h2 := hv
    obtain ⟨A, cap, rfl, hc, _⟩ := hv
    exact ⟨A, cap, _, rfl, rfl, hc, h2⟩
  have HN := Lib.hid hn
  have HV := Lib.hid hv
  clear hn hv
  by_cases c1 : 2147483647 < n
  · go_enter Try.func6, Try.ntmps6
    go_wp2
    go_ret
    exact retBel rfl (bel_alloc (bel_refl w) _)
  · have HL : Hid (l.length ≤ 2147483647) := by show _ ≤ _; rw [← HN.out]; omega
    have e1 : (Lib.leBytes 32 x.toNat == Lib.leBytes 32 x.toNat) = true := by simp
    have e2 : (l ++ Lib.leBytes 32 x.toNat == l ++ Lib.leBytes 32 x.toNat) = true := by simp
    go_enter Try.func6, Try.ntmps6
    go_wp2_with (first
      | (go_at_call 19; refine (implSsz_any x _).mono ?_; rintro e w1 ⟨v1, rfl, s1, hb1⟩; have hat1 := At4.bel (show At4 (w.alloc (Obj.cells #[V x.a, V x.b, V x.c, V x.d] 24)) w.heap.size 0 x by constructor <;> simp [go_sem]) hb1; obtain ⟨q0, q1, q2, q3⟩ := hat1; have S1 := Lib.hid s1; have HB1 := Lib.hid hb1; clear s1 hb1)
      | (go_at_call 20; refine (implSszAppend_any x _ l _ (HV.out.bel (bel_trans (bel_alloc (bel_refl w) _) HB1.out)) HL.out).mono ?_; rintro e w2 ⟨v2, rfl, s2, hb2⟩; have hat2 := At4.bel (⟨q0, q1, q2, q3⟩ : At4 w1 w.heap.size 0 x) hb2; clear q0 q1 q2 q3; obtain ⟨q0, q1, q2, q3⟩ := hat2; have S2 := Lib.hid s2; have HB2 := Lib.hid hb2; clear s2 hb2)
      | (go_at_call 21; refine (implRoot_any x _).mono ?_; rintro e w3 ⟨v3, rfl, s3, hb3⟩; have hat3 := At4.bel (⟨q0, q1, q2, q3⟩ : At4 w2 w.heap.size 0 x) hb3; clear q0 q1 q2 q3; have T1 := Lib.hid ((S1.out.bel HB2.out).bel hb3); have T2 := Lib.hid (S2.out.bel hb3); have T3 := Lib.hid s3; have TV := Lib.hid (((HV.out.bel (bel_trans (bel_alloc (bel_refl w) _) HB1.out)).bel HB2.out).bel hb3); have hbel := bel_trans (bel_trans (bel_trans (bel_alloc (bel_refl w) _) HB1.out) HB2.out) hb3; have hlt : w.heap.size < w3.heap.size := hat3.lt; clear s3 hb3; obtain ⟨q0, q1, q2, q3⟩ := hat3))
    refine wp_region_noPanic ?_
    refine wp_region_held_drew (S := (Keeps w3.heap.size w3)) (by kernel_rfl) (by exact Keeps.start _ _) (fun hHeld => ?_)
    refine hm_take (i := 0) (v := ?_) rfl rfl (by kernel_rfl) (by kernel_rfl) (by kernel_rfl) (fun _ _ _ h => h) rfl ?_ (by assumption) ?_
    rotate_left
    · (intro w hSw; (try dsimp only at hSw); go_simp; try with_reducible rfl)
    try simp only [Act.put, List.setIfInBounds_toArray, List.set_cons_zero, List.set_cons_succ]
    refine hm_take (i := 1) (v := ?_) rfl rfl (by kernel_rfl) (by kernel_rfl) (by kernel_rfl) (fun _ _ _ h => h) rfl ?_ (by assumption) ?_
    rotate_left
    · (intro w hSw; (try dsimp only at hSw); go_simp; try with_reducible rfl)
    try simp only [Act.put, List.setIfInBounds_toArray, List.set_cons_zero, List.set_cons_succ]
    refine hm_take (i := 2) (v := ?_) rfl rfl (by kernel_rfl) (by kernel_rfl) (by kernel_rfl) (fun _ _ _ h => h) rfl ?_ (by assumption) ?_
    rotate_left
    · (intro w hSw; (try dsimp only at hSw); go_simp; try with_reducible rfl)
    try simp only [Act.put, List.setIfInBounds_toArray, List.set_cons_zero, List.set_cons_succ]
    refine hm_take (i := 3) (v := ?_) rfl rfl (by kernel_rfl) (by kernel_rfl) (by kernel_rfl) (fun _ _ _ h => h) rfl ?_ (by assumption) ?_
    rotate_left
    · (intro w hSw; (try dsimp only at hSw); go_simp; try with_reducible rfl)
    try simp only [Act.put, List.setIfInBounds_toArray, List.set_cons_zero, List.set_cons_succ]
    refine hm_take (i := 4) (v := ?_) rfl rfl (by kernel_rfl) (by kernel_rfl) (by kernel_rfl) (fun _ _ _ h => h) rfl ?_ (by assumption) ?_
    rotate_left
    · (intro w hSw; (try dsimp only at hSw); go_simp; try with_reducible rfl)
    try simp only [Act.put, List.setIfInBounds_toArray, List.set_cons_zero, List.set_cons_succ]
    refine hm_take (i := 5) (v := ?_) rfl rfl (by kernel_rfl) (by kernel_rfl) (by kernel_rfl) (fun _ _ _ h => h) rfl ?_ (by assumption) ?_
    rotate_left
    · (intro w hSw; (try dsimp only at hSw); go_simp; try with_reducible rfl)
    try simp only [Act.put, List.setIfInBounds_toArray, List.set_cons_zero, List.set_cons_succ]
    refine hm_take (i := 6) (v := ?_) rfl rfl (by kernel_rfl) (by kernel_rfl) (by kernel_rfl) (fun _ _ _ h => h) rfl ?_ (by assumption) ?_
    rotate_left
    · (intro w hSw; (try dsimp only at hSw); go_simp; try with_reducible rfl)
    try simp only [Act.put, List.setIfInBounds_toArray, List.set_cons_zero, List.set_cons_succ]
    refine hm_take (i := 7) (v := ?_) rfl rfl (by kernel_rfl) (by kernel_rfl) (by kernel_rfl) (fun _ _ _ h => h) rfl ?_ (by assumption) ?_
    rotate_left
    · (intro w hSw; (try dsimp only at hSw); go_simp; try with_reducible rfl)
    try simp only [Act.put, List.setIfInBounds_toArray, List.set_cons_zero, List.set_cons_succ]
    refine hm_take (i := 8) (v := ?_) rfl rfl (by kernel_rfl) (by kernel_rfl) (by kernel_rfl) (fun _ _ _ h => h) rfl ?_ (by assumption) ?_
    rotate_left
    · (intro w hSw; (try dsimp only at hSw); go_simp; try with_reducible rfl)
    try simp only [Act.put, List.setIfInBounds_toArray, List.set_cons_zero, List.set_cons_succ]
    refine hm_take (i := 9) (v := ?_) rfl rfl (by kernel_rfl) (by kernel_rfl) (by kernel_rfl) (fun _ _ _ h => h) rfl ?_ (by assumption) ?_
    rotate_left
    · (intro w hSw; (try dsimp only at hSw); go_simp; try with_reducible rfl)
    try simp only [Act.put, List.setIfInBounds_toArray, List.set_cons_zero, List.set_cons_succ]
    refine hm_call (i := 10) rfl (by kernel_rfl) rfl (fun K hK => ?_)
    go_simp
    (go_at_call 22; refine (small_any x _).mono ?_; rintro e w5 ⟨v5, rfl, s5, hb⟩; have s5 := SlB.of_own s5; have hsz5 : w3.heap.size ≤ w5.heap.size := Nat.le_trans hHeld.2.size hb.size)
    (try go_wp2_with fail)
    refine hK.out _ _ (by (try dsimp only); first | assumption | exact Keeps.step (by assumption) (Nat.le_refl _) hb | exact Keeps.step (by assumption) (Nat.le_refl _) (bel_alloc (bel_refl _) _)) (fun hHeld => ?_)
    clear hK K
    try simp only [Act.put, List.setIfInBounds_toArray, List.set_cons_zero, List.set_cons_succ]
    refine hm_call (i := 11) rfl (by kernel_rfl) rfl (fun K hK => ?_)
    go_simp
    (go_at_call 13; refine (same_any _ _ _ _ _ ((T1.out.bel hHeld.2)) s5).mono ?_; rintro e w6 ⟨rfl, rfl⟩)
    (try go_wp2_with fail)
    refine hK.out _ _ (by (try dsimp only); first | assumption | exact Keeps.step (by assumption) (Nat.le_refl _) hb | exact Keeps.step (by assumption) (Nat.le_refl _) (bel_alloc (bel_refl _) _)) (fun hHeld => ?_)
    clear hK K
    try simp only [Act.put, List.setIfInBounds_toArray, List.set_cons_zero, List.set_cons_succ]
    refine hm_take (i := 12) (v := ?_) rfl rfl (by kernel_rfl) (by kernel_rfl) (by kernel_rfl) (fun _ _ _ h => h) rfl ?_ (by assumption) ?_
    rotate_left
    · (intro w hSw; (try dsimp only at hSw); go_simp; try with_reducible rfl)
    try simp only [Act.put, List.setIfInBounds_toArray, List.set_cons_zero, List.set_cons_succ]
    refine hm_take (i := 13) (v := ?_) rfl rfl (by kernel_rfl) (by kernel_rfl) (by kernel_rfl) (fun _ _ _ h => h) rfl ?_ (by assumption) ?_
    rotate_left
    · (intro w hSw; (try dsimp only at hSw); go_simp; try with_reducible rfl)
    try simp only [Act.put, List.setIfInBounds_toArray, List.set_cons_zero, List.set_cons_succ]
    refine hm_take (i := 14) (v := ?_) rfl rfl (by kernel_rfl) (by kernel_rfl) (by kernel_rfl) (fun _ _ _ h => h) rfl ?_ (by assumption) ?_
    rotate_left
    · (intro w hSw; (try dsimp only at hSw); go_simp; try with_reducible rfl)
    try simp only [Act.put, List.setIfInBounds_toArray, List.set_cons_zero, List.set_cons_succ]
    refine hm_take (i := 16) (v := ?_) rfl rfl (by kernel_rfl) (by kernel_rfl) (by kernel_rfl) (fun _ _ _ h => h) rfl ?_ (by assumption) ?_
    rotate_left
    · (intro w hSw; (try dsimp only at hSw); go_simp; try with_reducible rfl)
    try simp only [Act.put, List.setIfInBounds_toArray, List.set_cons_zero, List.set_cons_succ]
    refine hm_take (i := 18) (v := ?_) rfl rfl (by kernel_rfl) (by kernel_rfl) (by kernel_rfl) (fun _ _ _ h => h) rfl ?_ (by assumption) ?_
    rotate_left
    · (intro w hSw; (try dsimp only at hSw); go_simp; try with_reducible rfl)
    try simp only [Act.put, List.setIfInBounds_toArray, List.set_cons_zero, List.set_cons_succ]
    refine hm_call (i := 15) rfl (by kernel_rfl) rfl (fun K hK => ?_)
    (go_simp)
    refine hK.out _ _ (by (try dsimp only); first | assumption | exact Keeps.step (by assumption) (Nat.le_refl _) hb | exact Keeps.step (by assumption) (Nat.le_refl _) (bel_alloc (bel_refl _) _)) (fun hHeld => ?_)
    clear hK K
    try simp only [Act.put, List.setIfInBounds_toArray, List.set_cons_zero, List.set_cons_succ]
    refine hm_call (i := 17) rfl (by kernel_rfl) rfl (fun K hK => ?_)
    (have O15 := World.ownsRow_made (base := w3.heap.size) (e := 5) (size := 1) w5 #[] 0 hsz5 (Nat.zero_le _) rfl; show Oper.wp _ (⟨some 47, _, _, _, _, _⟩ : Oper) _ _ _ _; refine wp_append_slb _ (.tmp 45) (.tmp 46) _ rfl w3.heap.size 5 i0 Try.underlying25 hi hz0 hz1 hz2 _ _ _ rfl O15 _ l rfl (TV.out.bel hHeld.2) ?_ hHeld.2.size ?_; (have := HL.out; omega); intro v17 w17 own17 g17; have k17 := keeps_grown hHeld (Nat.le_refl _) g17 O15; have own17 := own17)
    refine hK.out _ _ (by (try dsimp only); first | assumption | exact Keeps.step (by assumption) (Nat.le_refl _) hb | exact Keeps.step (by assumption) (Nat.le_refl _) (bel_alloc (bel_refl _) _)) (fun hHeld => ?_)
    clear hK K
    try simp only [Act.put, List.setIfInBounds_toArray, List.set_cons_zero, List.set_cons_succ]
    refine hm_call (i := 19) rfl (by kernel_rfl) rfl (fun K hK => ?_)
    go_simp
    (go_at_call 22; refine (small_any x _).mono ?_; rintro e w19 ⟨v19, rfl, own19, hb⟩; have s19 := SlB.of_own own19; have own17b := own_bel own17 hb)
    (try go_wp2_with fail)
    refine hK.out _ _ (by (try dsimp only); first | assumption | exact Keeps.step (by assumption) (Nat.le_refl _) hb | exact Keeps.step (by assumption) (Nat.le_refl _) (bel_alloc (bel_refl _) _)) (fun hHeld => ?_)
    clear hK K
    try simp only [Act.put, List.setIfInBounds_toArray, List.set_cons_zero, List.set_cons_succ]
    refine hm_call (i := 20) rfl (by kernel_rfl) rfl (fun K hK => ?_)
    (show Oper.wp _ (⟨some 50, _, _, _, _, _⟩ : Oper) _ _ _ _; refine wp_append_slb _ (.tmp 47) (.tmp 49) _ rfl w3.heap.size 5 i0 Try.underlying25 hi hz0 hz1 hz2 _ _ _ rfl own17b _ (Lib.leBytes 32 x.toNat) rfl s19 ?_ hHeld.2.size ?_; (rw [le_len]; have := HL.out; omega); intro v20 w20 own20 g20; have k20 := keeps_grown hHeld (Nat.le_refl _) g20 own17b)
    refine hK.out _ _ (by (try dsimp only); first | assumption | exact Keeps.step (by assumption) (Nat.le_refl _) hb | exact Keeps.step (by assumption) (Nat.le_refl _) (bel_alloc (bel_refl _) _)) (fun hHeld => ?_)
    clear hK K
    try simp only [Act.put, List.setIfInBounds_toArray, List.set_cons_zero, List.set_cons_succ]
    refine hm_call (i := 21) rfl (by kernel_rfl) rfl (fun K hK => ?_)
    go_simp
    (go_at_call 13; refine (same_any _ _ _ (l ++ Lib.leBytes 32 x.toNat) _ (T2.out.bel hHeld.2) (own_two own20)).mono ?_; rintro e w21 ⟨rfl, rfl⟩)
    (try go_wp2_with fail)
    refine hK.out _ _ (by (try dsimp only); first | assumption | exact Keeps.step (by assumption) (Nat.le_refl _) hb | exact Keeps.step (by assumption) (Nat.le_refl _) (bel_alloc (bel_refl _) _)) (fun hHeld => ?_)
    clear hK K
    try simp only [Act.put, List.setIfInBounds_toArray, List.set_cons_zero, List.set_cons_succ]
    refine hm_take (i := 22) (v := ?_) rfl rfl (by kernel_rfl) (by kernel_rfl) (by kernel_rfl) (fun _ _ _ h => h) rfl ?_ (by assumption) ?_
    rotate_left
    · (intro w hSw; (try dsimp only at hSw); go_simp; try with_reducible rfl)
    try simp only [Act.put, List.setIfInBounds_toArray, List.set_cons_zero, List.set_cons_succ]
    refine hm_take (i := 23) (v := ?_) rfl rfl (by kernel_rfl) (by kernel_rfl) (by kernel_rfl) (fun _ _ _ h => h) rfl ?_ (by assumption) ?_
    rotate_left
    · (intro w hSw; (try dsimp only at hSw); go_simp; try with_reducible rfl)
    try simp only [Act.put, List.setIfInBounds_toArray, List.set_cons_zero, List.set_cons_succ]
    refine hm_take (i := 24) (v := ?_) rfl rfl (by kernel_rfl) (by kernel_rfl) (by kernel_rfl) (fun _ _ _ h => h) rfl ?_ (by assumption) ?_
    rotate_left
    · (intro w hSw; (try dsimp only at hSw); go_simp; try with_reducible rfl)
    try simp only [Act.put, List.setIfInBounds_toArray, List.set_cons_zero, List.set_cons_succ]
    refine hm_take (i := 25) (v := ?_) rfl rfl (by kernel_rfl) (by kernel_rfl) (by kernel_rfl) (fun _ _ _ h => h) rfl ?_ (by assumption) ?_
    rotate_left
    · (intro w hSw; (try dsimp only at hSw); go_simp; try with_reducible rfl)
    try simp only [Act.put, List.setIfInBounds_toArray, List.set_cons_zero, List.set_cons_succ]
    refine hm_call (i := 26) rfl (by kernel_rfl) rfl (fun K hK => ?_)
    go_simp
    (go_at_call 22; refine (small_any x _).mono ?_; rintro e w26 ⟨v26, rfl, s26, hb⟩; have s26 := SlB.of_own s26)
    (try go_wp2_with fail)
    refine hK.out _ _ (by (try dsimp only); first | assumption | exact Keeps.step (by assumption) (Nat.le_refl _) hb | exact Keeps.step (by assumption) (Nat.le_refl _) (bel_alloc (bel_refl _) _)) (fun hHeld => ?_)
    clear hK K
    try simp only [Act.put, List.setIfInBounds_toArray, List.set_cons_zero, List.set_cons_succ]
    refine hm_call (i := 27) rfl (by kernel_rfl) rfl (fun K hK => ?_)
    go_simp
    (go_at_call 13; refine (same_any _ _ _ _ _ (T3.out.bel hHeld.2) s26).mono ?_; rintro e w27 ⟨rfl, rfl⟩)
    (try go_wp2_with fail)
    refine hK.out _ _ (by (try dsimp only); first | assumption | exact Keeps.step (by assumption) (Nat.le_refl _) hb | exact Keeps.step (by assumption) (Nat.le_refl _) (bel_alloc (bel_refl _) _)) (fun hHeld => ?_)
    clear hK K
    try simp only [Act.put, List.setIfInBounds_toArray, List.set_cons_zero, List.set_cons_succ]
    refine hm_take (i := 28) (v := ?_) rfl rfl (by kernel_rfl) (by kernel_rfl) (by kernel_rfl) (fun _ _ _ h => h) rfl ?_ (by assumption) ?_
    rotate_left
    · (intro w hSw; (try dsimp only at hSw); go_simp; try with_reducible rfl)
    try simp only [Act.put, List.setIfInBounds_toArray, List.set_cons_zero, List.set_cons_succ]
    refine hm_take (i := 29) (v := ?_) rfl rfl (by kernel_rfl) (by kernel_rfl) (by kernel_rfl) (fun _ _ _ h => h) rfl ?_ (by assumption) ?_
    rotate_left
    · (intro w hSw; (try dsimp only at hSw); go_simp; try with_reducible rfl)
    try simp only [Act.put, List.setIfInBounds_toArray, List.set_cons_zero, List.set_cons_succ]
    refine wpAnyH_done (by kernel_rfl) ?_ _
    refine NoPanic.normal ?_
    go_wp2
    go_ret
    exact retBel rfl (bel_trans hbel (‹Keeps _ _ _›).2)

set_option maxRecDepth 100000 in
theorem lifted (os : Os) (started : os.Started) (H : Type) (enc : TypeId × Value → H) :
    ReturnsInHanded {} Try.checked os 6 .any (Rows.fnSszIsSpec.pre6 enc Try.prog Try.f6 Rows.fnSszIsRow.domain false) (Rows.fnSszIsSpec.post enc Try.prog Try.f6 false true false false) := by
  refine returnsInHanded_of_change (C := Try.checked) Try.own started (by kernel_rfl) Try.func6
    (ChangeSpec.witness6 (enc := enc) (C := Try.checked) false ⟨#[], #[.agg #[.int .u64 0, .int .u64 0, .int .u64 0, .int .u64 0], .slice none 0 0], []⟩ 8 (by kernel_rfl) (by kernel_rfl) (by kernel_rfl) (by kernel_rfl)) ?_
  intro W base args ds gs before hval0 hW hcnd _
  have hval : ∀ (j : Nat) t v, Try.f6.params[j]? = some t → args[j]? = some v → Value.okWide Try.prog W .any base t v := hval0
  have hW' := hW
  obtain ⟨p, q, hA0, hV, rfl, hfz, hnd⟩ := hW
  have hA : DataW.TrodAll enc Try.prog W 0 (fun _ => true) true Try.f6.params.toList args.toList ds p := hA0
  rw [Try.params6] at hA hval
  obtain ⟨v0, vs0, d0, ds0, p0, q0, hargs, rfl, rfl, h0, r0⟩ := trodAll_cons hA
  obtain ⟨v1, vs1, d1, ds1, p1, q1, rfl, rfl, rfl, h1, r1⟩ := trodAll_cons r0
  obtain ⟨rfl, rfl, rfl⟩ := trodAll_nil r1
  obtain rfl : args = #[v0, v1] := by cases args; simp_all
  obtain ⟨rfl, rfl⟩ := trodVars_none hV
  have k0 := h0
  have lt0 : ∀ x ∈ p0, x.block < W.heap.size := by obtain ⟨m, hm⟩ := k0; exact DataW.trod_lt m _ _ _ hm
  obtain ⟨x0, rfl⟩ := open_num (hval 0 24 v0 rfl rfl)
  have k1 := h1
  have lt1 : ∀ x ∈ p1, x.block < W.heap.size := by obtain ⟨m, hm⟩ := k1; exact DataW.trod_lt m _ _ _ hm
  obtain ⟨x1, g1⟩ := open_bytes (hval 1 25 v1 rfl rfl) h1
  clear hA0 hval0
  refine (walk W x0 v1 x1 g1).mono fun e W' ⟨he, bel⟩ => ?_
  subst he
  exact ⟨_, rfl, _, _, _, [], _, [], hW', trodAll_mk1 (shut_bool Try.underlying4 _), (trodAll_cons_mk (Below.trod Try.laidOut (by kernel_rfl) (of_decide_eq_true (by kernel_rfl)) k0 bel lt0) (trodAll_cons_mk (Below.trod Try.laidOut (by kernel_rfl) (of_decide_eq_true (by kernel_rfl)) k1 bel lt1) trodAll_mk0)), rfl, bel.frame _, fun h => by cases h⟩

theorem holds : Rows.FnSszIsSaid :=
  OpenClaim.holds_of_wide 6 Try.f6 rfl rfl rfl rfl rfl rfl rfl ⟨rfl, rfl, rfl, rfl, rfl⟩ rfl rfl rfl rfl rfl (by kernel_rfl) Try.func6 (by kernel_rfl)
    (of_decide_eq_true (by kernel_rfl)) (by unfold Func.isWrapper; first | (rw [if_pos (by decide +kernel)]; kernel_rfl) | (rw [if_neg (by decide +kernel)]; exact ⟨rfl, rfl⟩))
    (fun os started H enc _ => lifted os started H enc)
#print axioms holds
end Go.Proofs.Ytpmhkmcikjbncaa.fnSszIs
