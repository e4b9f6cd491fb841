/-
  The contract of uint256's DivMod where the two receivers are two places of one block.
-/
import Derived.Test.YtoojfokhaennoaaDiv8
import Derived.LaidEql
namespace Go.Proofs.Ytoojfokhaennoaa
open Go.RowKit
set_option linter.unusedVariables false
set_option linter.unusedSimpArgs false
set_option maxRecDepth 20000
theorem ptrEq (b o r : Nat) (w : World) : (binOp .eql 54 (.pointer (some ⟨b, o, none⟩)) (.pointer (some ⟨b, r, none⟩))).run Try.prog w = .ok (.bool (o == r)) w := by
  have hp : Try.prog.underlying 54 = some (.pointer 85) := by kernel_rfl
  have hs : (Try.prog.info? 85).map (·.size) = some 4 := by kernel_rfl
  obtain ⟨j, hj, hj4⟩ : ∃ j, Try.prog.info? 85 = some j ∧ j.size = 4 := by
    cases h : Try.prog.info? 85 with
    | none => rw [h] at hs; cases hs
    | some j => rw [h] at hs; exact ⟨j, rfl, by simpa using hs⟩
  have h : ∀ d : Nat, (Op.equalIn (d + 1) 54 (.pointer (some ⟨b, o, none⟩)) (.pointer (some ⟨b, r, none⟩))).run Try.prog w = .ok (o == r) w := fun d => by
    simp [Op.equalIn, run_underlying hp, sizeOf, typeInfo, hj, hj4, sameAddr]
    rw [Bool.eq_iff_iff]; simp
  simp only [binOp]
  simp [Op.equal, Op.maxDepth, h 9999]
/-- The quotient by a division; 0 where the divisor is 0. -/
def quoN (x y : N4) : N4 := ofN (x.toNat / y.toNat)
/-- Two places of one block hold u and v, memory has grown. -/
def Left2 (W : World) (b o r : Nat) (u v : N4) (w' : World) : Prop := (∃ W1, Left W b o u W1 ∧ Left W1 b r v w') ∨ (∃ W1, Left W b r v W1 ∧ Left W1 b o u w')
set_option maxHeartbeats 4000000 in
theorem divModInt_any (b o r c p d q : Nat) (z m x y : N4) (w : World) (hz : At4 w b o z) (fz : Free4 w b o) (hm : At4 w b r m) (fm : Free4 w b r) (hx : At4 w c p x) (fx : Free4 w c p) (hy : At4 w d q y) (sx : Sep b o c p) (sm : Sep b r c p) (hne : o ≠ r) (so : Sep b o b r) :
    Calls Try.prog 64 #[.pointer (some ⟨b, o, none⟩), .pointer (some ⟨c, p, none⟩), .pointer (some ⟨d, q, none⟩), .pointer (some ⟨b, r, none⟩)] w fun e w' => e = .returned (.tuple #[.pointer (some ⟨b, o, none⟩), .pointer (some ⟨b, r, none⟩)]) ∧ Left2 w b o r (quoN x y) (remN x y) w' := by
  have hb := hz.lt
  have hc := hx.lt
  have hd := hy.lt
  have Hz := Lib.hid hz
  have Hf := Lib.hid fz
  have Hm := Lib.hid hm
  have Hfm := Lib.hid fm
  have Hx := Lib.hid hx
  have Hfx := Lib.hid fx
  have Hy := Lib.hid hy
  have hso : o + 4 ≤ r ∨ r + 4 ≤ o := by
    rcases so rfl with h | h | h
    · exact absurd h hne
    · exact .inl h
    · exact .inr h
  have HSO := Lib.hid hso
  clear hz fz hm fm hx fx hy hso
  have hpe : ∀ w, (binOp .eql 54 (.pointer (some ⟨b, o, none⟩)) (.pointer (some ⟨b, r, none⟩))).run Try.prog w = .ok (.bool false) w := fun w => by
    rw [ptrEq, show (o == r) = false by simpa using hne]
  have HP := Lib.hid hpe
  clear hpe
  cases hyz : y.isZ
  · have hy0 : 0 < y.toNat := by
      rcases Nat.eq_zero_or_pos y.toNat with h | h
      · rw [(isZ_iff y).2 h] at hyz; cases hyz
      · exact h
    have hrem : Hid (remN x y = ofN (x.toNat % y.toNat)) := by show _ = _; unfold remN; rw [if_neg (by omega)]
    have HY0 := Lib.hid hy0
    clear hy0
    cases heq : x.eqb y
    · cases hlt : x.ltc y
      · have hge : y.toNat ≤ x.toNat := by
          rw [ltc_eq, decide_eq_false_iff_not] at hlt; omega
        have HGE := Lib.hid hge
        clear hge
        cases hu : x.isU
        · have hsl := fun b o w => sliceAll4 b o w
          have hpe := HP.out
          have UD : Hid (∀ m j, Calls Try.prog 96 #[.slice (some ⟨w.heap.size, 0, none⟩) 4 4, .slice (some ⟨c, p, none⟩) 4 4, .pointer (some ⟨d, q, none⟩), .pointer (some ⟨w.heap.size + 1, 0, none⟩)] ((((w.drewN m).alloc (Obj.cells #[.int .u64 0, .int .u64 0, .int .u64 0, .int .u64 0] 85)).alloc (Obj.cells #[.int .u64 0, .int .u64 0, .int .u64 0, .int .u64 0] 85)).drewN j) fun e w' => e = .returned (.tuple #[]) ∧ At4 w' w.heap.size 0 (ofN (x.toNat / y.toNat)) ∧ At4 w' (w.heap.size + 1) 0 (ofN (x.toNat % y.toNat)) ∧ But [] w w') := fun m j => by
            have R1 := RowW.new4 (w.drewN m) 85
            have R2 := RowW.new4 ((w.drewN m).alloc (Obj.cells #[.int .u64 0, .int .u64 0, .int .u64 0, .int .u64 0] 85)) 85
            have e2 : ((w.drewN m).alloc (Obj.cells #[.int .u64 0, .int .u64 0, .int .u64 0, .int .u64 0] 85)).heap.size = w.heap.size + 1 := by simp
            rw [e2] at R2
            refine (udivrem4 w.heap.size (w.heap.size + 1) c p d q x y _ ((R1.alloc _).drewN j) ((R2.at4 (by simp)).drewN j) ((R2.free4 (by simp)).drewN j) ((((Hx.out.drewN m).alloc _).alloc _).drewN j) ((((Hfx.out.drewN m).alloc hc _).alloc (by simp; omega) _).drewN j) ((((Hy.out.drewN m).alloc _).alloc _).drewN j) (by omega) (by omega) (by omega) (by omega) (by omega) HGE.out HY0.out).mono ?_
            rintro e w' ⟨h1, h2, h3, h4⟩
            exact ⟨h1, h2, h3, (((((But.refl [] w).drewN m).alloc _).alloc _).drewN j).step h4 (fun t ht => by simp at ht; omega)⟩
          go_enter Try.func64, Try.ntmps64
          go_wp2_with fail
          refine (isZero_any d q y _ Hy.out).mono ?_
          rintro e w1 ⟨rfl, n1, rfl⟩
          go_wp2_with fail
          refine (eq_any c p d q x y _ (Hx.out.drewN n1) (Hy.out.drewN n1)).mono ?_
          rintro e w1 ⟨rfl, n2, rfl⟩
          go_wp2_with fail
          refine (lt_any c p d q x y _ (Hx.out.drewN (n1 + n2)) (Hy.out.drewN (n1 + n2))).mono ?_
          rintro e w1 ⟨rfl, n3, rfl⟩
          go_wp2_with fail
          refine (isUint64_any c p x _ (Hx.out.drewN (n1 + n2 + n3))).mono ?_
          rintro e w1 ⟨rfl, n4, rfl⟩
          go_wp2_with fail
          go_region_held3 (fun w' => True) (trivial) ((go_at_call 96; refine (UD.out _ 1).mono ?_; rintro e w5 ⟨rfl, hq, hr, hB⟩))
          have hz5 := Lib.hid (Hz.out.but hB (by simp))
          have hf5 := Lib.hid (Hf.out.but hb hB (by simp))
          have hm5 := Lib.hid (Hm.out.but hB (by simp))
          have hfm5 := Lib.hid (Hfm.out.but hb hB (by simp))
          have hq5 := Lib.hid hq
          have hr5 := Lib.hid hr
          have hB5 := Lib.hid hB
          clear hq hr hB hsl
          go_wp2_with fail
          refine (set_any b o w.heap.size 0 z _ _ hz5.out hf5.out hq5.out (Sep.blocks (by omega))).mono ?_
          rintro e w6 ⟨rfl, n6, rfl⟩
          go_wp2_with fail
          refine (set_any b r (w.heap.size + 1) 0 m _ _ ((put4_far hm5.out (fun h => by have := HSO.out; omega)).drewN n6) ((hfm5.out.put _).drewN n6) ((put4_far hr5.out (fun h => by omega)).drewN n6) (Sep.blocks (by omega))).mono ?_
          rintro e w7 ⟨rfl, n7, rfl⟩
          go_wp2
          go_ret2
          rw [hrem.out]
          exact ⟨rfl, .inl ⟨_, Left.of_alloc (n := n6) (hB5.out.bel (bel_refl w) (by simp)) hb, Left.of_put _ _ _ _ _⟩⟩
        · have h3 : y.toNat = y.a.toNat := small_toNat (by have := HGE.out; have h1 := isU_toNat hu; have := x.a.isLt; omega)
          have hv1 : Hid (ofN (x.toNat / y.toNat) = ⟨quoW x.a y.a, 0#64, 0#64, 0#64⟩) := ofN_small _ _ (by rw [quoW_toNat, isU_toNat hu, h3])
          have hv2 : Hid (ofN (x.toNat % y.toNat) = ⟨remW x.a y.a, 0#64, 0#64, 0#64⟩) := ofN_small _ _ (by rw [remW_toNat, isU_toNat hu, h3])
          have hya : ¬ U y.a = 0 := by
            unfold U
            have := HY0.out
            omega
          clear h3
          have hpe := HP.out
          go_enter Try.func64, Try.ntmps64
          go_wp2_with fail
          refine (isZero_any d q y _ Hy.out).mono ?_
          rintro e w1 ⟨rfl, n1, rfl⟩
          go_wp2_with fail
          refine (eq_any c p d q x y _ (Hx.out.drewN n1) (Hy.out.drewN n1)).mono ?_
          rintro e w1 ⟨rfl, n2, rfl⟩
          go_wp2_with fail
          refine (lt_any c p d q x y _ (Hx.out.drewN (n1 + n2)) (Hy.out.drewN (n1 + n2))).mono ?_
          rintro e w1 ⟨rfl, n3, rfl⟩
          go_wp2_with fail
          refine (isUint64_any c p x _ (Hx.out.drewN (n1 + n2 + n3))).mono ?_
          rintro e w1 ⟨rfl, n4, rfl⟩
          go_wp2_with fail
          refine (uint64_any c p x _ (Hx.out.drewN (n1 + n2 + n3 + n4))).mono ?_
          rintro e w1 ⟨rfl, n5, rfl⟩
          go_wp2_with fail
          refine (uint64_any d q y _ (Hy.out.drewN (n1 + n2 + n3 + n4 + n5))).mono ?_
          rintro e w1 ⟨rfl, n6, rfl⟩
          go_wp2_with fail
          have SU1 : Hid (∀ W, At4 W b o z → Free4 W b o → Calls Try.prog 101 #[.pointer (some ⟨b, o, none⟩), V (quoW x.a y.a)] W (RetPut b o ⟨quoW x.a y.a, 0#64, 0#64, 0#64⟩ W)) := fun W h1 h2 => setUint64_any b o z _ W h1 h2
          have SU2 : Hid (∀ W, At4 W b r m → Free4 W b r → Calls Try.prog 101 #[.pointer (some ⟨b, r, none⟩), V (remW x.a y.a)] W (RetPut b r ⟨remW x.a y.a, 0#64, 0#64, 0#64⟩ W)) := fun W h1 h2 => setUint64_any b r m _ W h1 h2
          go_region_held3 (fun w' => True) (trivial) (first | (go_at_call 101; (with_reducible refine (SU1.out _ (Hz.out.drewN _) (Hf.out.drewN _)).mono ?_); rintro e w2 ⟨rfl, m1, rfl⟩) | (go_at_call 101; (with_reducible refine (SU2.out _ ((put4_far (Hm.out.drewN _) (fun h => by have := HSO.out; omega)).drewN _) (((Hfm.out.drewN _).put _).drewN _)).mono ?_); rintro e w3 ⟨rfl, m2, rfl⟩))
          have hv1' : Hid (quoN x y = ⟨quoW x.a y.a, 0#64, 0#64, 0#64⟩) := hv1
          go_wp2
          go_ret2
          rw [hrem.out, hv2.out, hv1'.out]
          exact ⟨rfl, .inl ⟨_, Left.of_drew _ _ _ _ m1 _, Left.of_put _ _ _ _ _⟩⟩
      · have hv : Hid (ofN (x.toNat % y.toNat) = x) := by
          rw [ltc_eq, decide_eq_true_eq] at hlt
          show _ = _
          rw [Nat.mod_eq_of_lt hlt, ofN_self]
        have hv1 : Hid (quoN x y = ⟨0#64, 0#64, 0#64, 0#64⟩) := by
          rw [ltc_eq, decide_eq_true_eq] at hlt
          show _ = _
          unfold quoN
          rw [Nat.div_eq_of_lt hlt, ofN_zero]
        have hpe := HP.out
        go_enter Try.func64, Try.ntmps64
        go_wp2_with fail
        refine (isZero_any d q y _ Hy.out).mono ?_
        rintro e w1 ⟨rfl, n1, rfl⟩
        go_wp2_with fail
        refine (eq_any c p d q x y _ (Hx.out.drewN n1) (Hy.out.drewN n1)).mono ?_
        rintro e w1 ⟨rfl, n2, rfl⟩
        go_wp2_with fail
        refine (lt_any c p d q x y _ (Hx.out.drewN (n1 + n2)) (Hy.out.drewN (n1 + n2))).mono ?_
        rintro e w1 ⟨rfl, n3, rfl⟩
        go_wp2_with fail
        refine (set_any b r c p m x _ (Hm.out.drewN (n1 + n2 + n3)) (Hfm.out.drewN (n1 + n2 + n3)) (Hx.out.drewN (n1 + n2 + n3)) sm).mono ?_
        rintro e w2 ⟨rfl, m1, rfl⟩
        go_wp2_with fail
        refine (clear_any b o z _ ((put4_far (Hz.out.drewN (n1 + n2 + n3)) (fun h => by have := HSO.out; omega)).drewN m1) (((Hf.out.drewN (n1 + n2 + n3)).put _).drewN m1)).mono ?_
        rintro e w3 ⟨rfl, m2, rfl⟩
        go_wp2
        go_ret2
        rw [hrem.out, hv.out, hv1.out]
        exact ⟨rfl, .inr ⟨_, Left.of_drew _ _ _ _ m1 _, Left.of_put _ _ _ _ _⟩⟩
    · have hv : Hid (ofN (x.toNat % y.toNat) = ⟨0#64, 0#64, 0#64, 0#64⟩) := by
        have h1 : x.toNat = y.toNat := by rw [eqb_eq] at heq; exact of_decide_eq_true heq
        show _ = _
        rw [h1, Nat.mod_self, ofN_zero]
      have hv1 : Hid (quoN x y = ⟨1#64, 0#64, 0#64, 0#64⟩) := by
        have h1 : x.toNat = y.toNat := by rw [eqb_eq] at heq; exact of_decide_eq_true heq
        show _ = _
        unfold quoN
        rw [h1, Nat.div_self HY0.out, ofN_one]
      have hpe := HP.out
      go_enter Try.func64, Try.ntmps64
      go_wp2_with fail
      refine (isZero_any d q y _ Hy.out).mono ?_
      rintro e w1 ⟨rfl, n1, rfl⟩
      go_wp2_with fail
      refine (eq_any c p d q x y _ (Hx.out.drewN n1) (Hy.out.drewN n1)).mono ?_
      rintro e w1 ⟨rfl, n2, rfl⟩
      go_wp2_with fail
      refine (setOne_any b o z _ (Hz.out.drewN (n1 + n2)) (Hf.out.drewN (n1 + n2))).mono ?_
      rintro e w2 ⟨rfl, m1, rfl⟩
      go_wp2_with fail
      refine (clear_any b r m _ ((put4_far (Hm.out.drewN (n1 + n2)) (fun h => by have := HSO.out; omega)).drewN m1) (((Hfm.out.drewN (n1 + n2)).put _).drewN m1)).mono ?_
      rintro e w3 ⟨rfl, m2, rfl⟩
      go_wp2
      go_ret2
      rw [hrem.out, hv.out, hv1.out]
      exact ⟨rfl, .inl ⟨_, Left.of_drew _ _ _ _ m1 _, Left.of_put _ _ _ _ _⟩⟩
  · have hrem : Hid (remN x y = ⟨0#64, 0#64, 0#64, 0#64⟩) := by show _ = _; unfold remN; rw [if_pos ((isZ_iff y).1 hyz)]
    have hv1 : Hid (quoN x y = ⟨0#64, 0#64, 0#64, 0#64⟩) := by
      show _ = _
      unfold quoN
      rw [(isZ_iff y).1 hyz, Nat.div_zero, ofN_zero]
    have hpe := HP.out
    go_enter Try.func64, Try.ntmps64
    go_wp2_with fail
    refine (isZero_any d q y _ Hy.out).mono ?_
    rintro e w1 ⟨rfl, n1, rfl⟩
    go_wp2_with fail
    refine (clear_any b o z _ (Hz.out.drewN n1) (Hf.out.drewN n1)).mono ?_
    rintro e w2 ⟨rfl, m1, rfl⟩
    go_wp2_with fail
    refine (clear_any b r m _ ((put4_far (Hm.out.drewN n1) (fun h => by have := HSO.out; omega)).drewN m1) (((Hfm.out.drewN n1).put _).drewN m1)).mono ?_
    rintro e w3 ⟨rfl, m2, rfl⟩
    go_wp2
    go_ret2
    rw [hrem.out, hv1.out]
    exact ⟨rfl, .inl ⟨_, Left.of_drew _ _ _ _ m1 _, Left.of_put _ _ _ _ _⟩⟩
end Go.Proofs.Ytoojfokhaennoaa
