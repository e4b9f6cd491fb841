/-
  For every n of 1 to 32, every number and every slice of bytes: SetBytes1 to SetBytes32 are SetBytes of the first n bytes, and panic where there are less (the statement FnSetBytesOfIsSaid, no conditions).
-/
import Derived.Test.YtpmhkmcikjbncaaOpen2
import Derived.Test.YtpmhkmcikjbncaaSbO
import Derived.Test.YtpmhkmcikjbncaaOfB
import Derived.Test.YtpmhkmcikjbncaaEql
import Derived.Test.YtpmhkmcikjbncaaHeldM
namespace Go.Proofs.Ytpmhkmcikjbncaa.fnSetBytesOfIs
open Go.ChangeShapes Go.WideShapes Go.ChangeAt Go.RowKit
set_option linter.unusedVariables false
set_option linter.unusedSimpArgs false

theorem slb_high {w : World} {A : Option Addr} {n cap : Nat} {l : List UInt8} (h : SlB w (.slice A n cap) l) (k : Nat) (hk : k ≤ n) : SlB w (.slice A k cap) (l.take k) := by
  obtain ⟨A', cap', e, hc, h⟩ := h
  injection e with e1 e2 e3
  subst e1 e2 e3
  refine ⟨_, _, by rw [List.length_take, Nat.min_eq_left hk], by rw [List.length_take]; omega, fun i d hd => ?_⟩
  rw [List.getElem?_take] at hd
  split at hd
  · exact h i d hd
  · cases hd
set_option maxHeartbeats 2000000 in
theorem walk (w : World) (k : Int) (g : I64 k) (z : N4) (v : Value) (l : List UInt8) (hv : SlB w v l) : Calls Try.prog 11 #[.int .i64 k, z.v, v] w (RetBel (.bool true) w) := by
  obtain ⟨g1, g2⟩ := g
  obtain ⟨A, cap, n, rfl, hn, hcap, hv⟩ : ∃ A cap n, v = .slice A n cap ∧ n = l.length ∧ n ≤ cap ∧ SlB w (.slice A n cap) l := by
    have h2 := hv
    obtain ⟨A, cap, rfl, hc, _⟩ := hv
    exact ⟨A, cap, _, rfl, rfl, hc, h2⟩
  have HN := Lib.hid hn
  have HV := Lib.hid hv
  clear hn hv
  by_cases c1 : 2147483647 < n
  · go_enter Try.func11, Try.ntmps11
    go_wp2
    go_ret
    exact retBel rfl (bel_alloc (bel_refl w) _)
  by_cases c2 : k < 1
  · have d1 : decide (k < 1) = true := decide_eq_true c2
    go_enter Try.func11, Try.ntmps11
    go_wp2
    go_ret
    exact retBel rfl (bel_alloc (bel_refl w) _)
  have d1 : decide (k < 1) = false := decide_eq_false c2
  by_cases c3 : 32 < k
  · have d2 : decide (32 < k) = true := decide_eq_true c3
    go_enter Try.func11, Try.ntmps11
    go_wp2
    go_ret
    exact retBel rfl (bel_alloc (bel_refl w) _)
  have d2 : decide (32 < k) = false := decide_eq_false c3
  obtain ⟨j, rfl⟩ := Int.eq_ofNat_of_zero_le (show 0 ≤ k by omega)
  have hj1 : 1 ≤ j := by omega
  have hj2 : j ≤ 32 := by omega
  have d1' : decide (j < 1) = false := decide_eq_false (by omega)
  have d2' : decide (32 < j) = false := decide_eq_false (by omega)
  by_cases c4 : n < j
  · have d3 : decide (n < j) = true := decide_eq_true c4
    go_enter Try.func11, Try.ntmps11
    go_wp2_with (go_at_call 32; refine (implSbOf_short j z _ l _ hj1 hj2 (HV.out.alloc _) (by rw [← HN.out]; exact c4)).mono ?_; rintro e w1 ⟨rfl, hb1⟩; have HB1 := Lib.hid (bel_trans (bel_alloc (bel_refl w) _) hb1); have hsz := HB1.out.size)
    go_ret
    exact retBel rfl (bel_alloc HB1.out _)
  · have d3 : decide (n < j) = false := decide_eq_false c4
    have d4 : (j : Int) ≤ (cap : Int) := by omega
    obtain ⟨u, hu⟩ : ∃ u, l[0]? = some u := ⟨_, List.getElem?_eq_getElem (by rw [← HN.out]; omega)⟩
    obtain ⟨a, o, rfl, _⟩ := HV.out.first hu
    obtain ⟨y, hy⟩ : ∃ y, ofN (Lib.beNat (l.take j)) = y := ⟨_, rfl⟩
    have SET : Hid (∀ w, SlB w (.slice (some ⟨a, o, none⟩) n cap) l → Calls Try.prog 32 #[.int .i64 (j : Int), z.v, .slice (some ⟨a, o, none⟩) n cap] w fun e w' => e = .returned (.tuple #[y.v, .bool false]) ∧ Below w.heap.size w w') := fun w h => by
      rw [← hy]; exact implSbOf_long j z _ l w hj1 hj2 h (by rw [← HN.out]; omega) (by rw [← HN.out]; omega)
    have OFB : Hid (∀ w, SlB w (.slice (some ⟨a, o, none⟩) j cap) (l.take j) → Calls Try.prog 31 #[.slice (some ⟨a, o, none⟩) j cap] w (RetBel y.v w)) := fun w h => by
      rw [← hy]
      have e := ofBytes_any _ (l.take j) w h (by rw [List.length_take]; omega)
      rwa [show (l.take j).length - 32 = 0 by rw [List.length_take]; omega, List.drop_zero] at e
    have HC := Lib.hid (slb_high HV.out j (by omega))
    have ey := eqb_self y
    clear hy hu
    go_enter Try.func11, Try.ntmps11
    go_wp2_with (go_at_call 32; refine (SET.out _ (HV.out.alloc _)).mono ?_; rintro e w1 ⟨rfl, hb1⟩; have HB1 := Lib.hid (bel_trans (bel_alloc (bel_refl w) _) hb1); have hsz := HB1.out.size)
    refine wp_region_noPanic ?_
    refine wp_region_held_drew (S := (Keeps (w1.heap.size + 1) (w1.alloc (Obj.cells #[V y.a, V y.b, V y.c, V y.d] 24)))) (by kernel_rfl) (by exact Keeps.start _ _) (fun hHeld => ?_)
    refine hm_take (i := 0) (v := ?_) rfl rfl (by kernel_rfl) (by kernel_rfl) (by kernel_rfl) (fun _ _ _ h => h) rfl ?_ (by assumption) ?_
    rotate_left
    · (intro w hSw; (try dsimp only at hSw); go_simp; try with_reducible rfl)
    try simp only [Act.put, List.setIfInBounds_toArray, List.set_cons_zero, List.set_cons_succ]
    refine hm_take (i := 1) (v := ?_) rfl rfl (by kernel_rfl) (by kernel_rfl) (by kernel_rfl) (fun _ _ _ h => h) rfl ?_ (by assumption) ?_
    rotate_left
    · (intro w hSw; (try dsimp only at hSw); go_simp; try with_reducible rfl)
    try simp only [Act.put, List.setIfInBounds_toArray, List.set_cons_zero, List.set_cons_succ]
    refine hm_take (i := 2) (v := ?_) rfl rfl (by kernel_rfl) (by kernel_rfl) (by kernel_rfl) (fun _ _ _ h => h) rfl ?_ (by assumption) ?_
    rotate_left
    · (intro w hSw; (try dsimp only at hSw); go_simp; try with_reducible rfl)
    try simp only [Act.put, List.setIfInBounds_toArray, List.set_cons_zero, List.set_cons_succ]
    refine hm_take (i := 3) (v := ?_) rfl rfl (by kernel_rfl) (by kernel_rfl) (by kernel_rfl) (fun _ _ _ h => h) rfl ?_ (by assumption) ?_
    rotate_left
    · (intro w hSw; (try dsimp only at hSw); go_simp; try with_reducible rfl)
    try simp only [Act.put, List.setIfInBounds_toArray, List.set_cons_zero, List.set_cons_succ]
    refine hm_take (i := 4) (v := ?_) rfl rfl (by kernel_rfl) (by kernel_rfl) (by kernel_rfl) (fun _ _ _ h => h) rfl ?_ (by assumption) ?_
    rotate_left
    · (intro w hSw; (try dsimp only at hSw); go_simp; try with_reducible rfl)
    try simp only [Act.put, List.setIfInBounds_toArray, List.set_cons_zero, List.set_cons_succ]
    refine hm_take (i := 5) (v := ?_) rfl rfl (by kernel_rfl) (by kernel_rfl) (by kernel_rfl) (fun _ _ _ h => h) rfl ?_ (by assumption) ?_
    rotate_left
    · (intro w hSw; (try dsimp only at hSw); go_simp; try with_reducible rfl)
    try simp only [Act.put, List.setIfInBounds_toArray, List.set_cons_zero, List.set_cons_succ]
    refine hm_take (i := 6) (v := ?_) rfl rfl (by kernel_rfl) (by kernel_rfl) (by kernel_rfl) (fun _ _ _ h => h) rfl ?_ (by assumption) ?_
    rotate_left
    · (intro w hSw; (try dsimp only at hSw); go_simp; try with_reducible rfl)
    try simp only [Act.put, List.setIfInBounds_toArray, List.set_cons_zero, List.set_cons_succ]
    refine hm_call (i := 7) rfl (by kernel_rfl) rfl (fun K hK => ?_)
    go_simp
    (go_at_call 31; refine (OFB.out _ (HC.out.bel (hHeld.bel (by omega) (bel_alloc HB1.out _)))).mono ?_; rintro e w3 ⟨rfl, hb⟩)
    (try go_wp2_with fail)
    refine hK.out _ _ (by (try dsimp only); first | assumption | exact Keeps.step (by assumption) (by simp) hb) (fun hHeld => ?_)
    clear hK K
    try simp only [Act.put, List.setIfInBounds_toArray, List.set_cons_zero, List.set_cons_succ]
    refine hm_take (i := 8) (v := ?_) rfl rfl (by kernel_rfl) (by kernel_rfl) (by kernel_rfl) (fun _ _ _ h => h) rfl ?_ (by assumption) ?_
    rotate_left
    · (intro w hSw; (try dsimp only at hSw); go_simp; try with_reducible rfl)
    try simp only [Act.put, List.setIfInBounds_toArray, List.set_cons_zero, List.set_cons_succ]
    refine hm_take (i := 9) (v := ?_) rfl rfl (by kernel_rfl) (by kernel_rfl) (by kernel_rfl) (fun _ _ _ h => h) rfl ?_ (by assumption) ?_
    rotate_left
    · (intro w hSw; (try dsimp only at hSw); go_simp; try with_reducible rfl)
    try simp only [Act.put, List.setIfInBounds_toArray, List.set_cons_zero, List.set_cons_succ]
    refine hm_take (i := 10) (v := ?_) rfl rfl (by kernel_rfl) (by kernel_rfl) (by kernel_rfl) (fun _ _ _ h => h) rfl ?_ (by assumption) ?_
    rotate_left
    · (intro w hSw; (try dsimp only at hSw); go_simp; try with_reducible rfl)
    try simp only [Act.put, List.setIfInBounds_toArray, List.set_cons_zero, List.set_cons_succ]
    refine wpAnyH_done (by kernel_rfl) ?_ _
    refine NoPanic.normal ?_
    go_wp2
    go_ret
    exact retBel rfl ((‹Keeps _ _ _›).bel (by omega) (bel_alloc HB1.out _))

set_option maxRecDepth 100000 in
theorem lifted (os : Os) (started : os.Started) (H : Type) (enc : TypeId × Value → H) :
    ReturnsInHanded {} Try.checked os 11 .any (Rows.fnSetBytesOfIsSpec.pre6 enc Try.prog Try.f11 Rows.fnSetBytesOfIsRow.domain false) (Rows.fnSetBytesOfIsSpec.post enc Try.prog Try.f11 false true false false) := by
  refine returnsInHanded_of_change (C := Try.checked) Try.own started (by kernel_rfl) Try.func11
    (ChangeSpec.witness6 (enc := enc) (C := Try.checked) false ⟨#[], #[.int .i64 0, .agg #[.int .u64 0, .int .u64 0, .int .u64 0, .int .u64 0], .slice none 0 0], []⟩ 8 (by kernel_rfl) (by kernel_rfl) (by kernel_rfl) (by kernel_rfl)) ?_
  intro W base args ds gs before hval0 hW hcnd _
  have hval : ∀ (j : Nat) t v, Try.f11.params[j]? = some t → args[j]? = some v → Value.okWide Try.prog W .any base t v := hval0
  have hW' := hW
  obtain ⟨p, q, hA0, hV, rfl, hfz, hnd⟩ := hW
  have hA : DataW.TrodAll enc Try.prog W 0 (fun _ => true) true Try.f11.params.toList args.toList ds p := hA0
  rw [Try.params11] at hA hval
  obtain ⟨v0, vs0, d0, ds0, p0, q0, hargs, rfl, rfl, h0, r0⟩ := trodAll_cons hA
  obtain ⟨v1, vs1, d1, ds1, p1, q1, rfl, rfl, rfl, h1, r1⟩ := trodAll_cons r0
  obtain ⟨v2, vs2, d2, ds2, p2, q2, rfl, rfl, rfl, h2, r2⟩ := trodAll_cons r1
  obtain ⟨rfl, rfl, rfl⟩ := trodAll_nil r2
  obtain rfl : args = #[v0, v1, v2] := by cases args; simp_all
  obtain ⟨rfl, rfl⟩ := trodVars_none hV
  have k0 := h0
  have lt0 : ∀ x ∈ p0, x.block < W.heap.size := by obtain ⟨m, hm⟩ := k0; exact DataW.trod_lt m _ _ _ hm
  obtain ⟨x0, rfl, g0⟩ := open_i64 (hval 0 3 v0 rfl rfl)
  have k1 := h1
  have lt1 : ∀ x ∈ p1, x.block < W.heap.size := by obtain ⟨m, hm⟩ := k1; exact DataW.trod_lt m _ _ _ hm
  obtain ⟨x1, rfl⟩ := open_num (hval 1 24 v1 rfl rfl)
  have k2 := h2
  have lt2 : ∀ x ∈ p2, x.block < W.heap.size := by obtain ⟨m, hm⟩ := k2; exact DataW.trod_lt m _ _ _ hm
  obtain ⟨x2, g2⟩ := open_bytes (hval 2 25 v2 rfl rfl) h2
  clear hA0 hval0
  refine (walk W x0 g0 x1 v2 x2 g2).mono fun e W' ⟨he, bel⟩ => ?_
  subst he
  exact ⟨_, rfl, _, _, _, [], _, [], hW', trodAll_mk1 (shut_bool Try.underlying4 _), (trodAll_cons_mk (Below.trod Try.laidOut (by kernel_rfl) (of_decide_eq_true (by kernel_rfl)) k0 bel lt0) (trodAll_cons_mk (Below.trod Try.laidOut (by kernel_rfl) (of_decide_eq_true (by kernel_rfl)) k1 bel lt1) (trodAll_cons_mk (Below.trod Try.laidOut (by kernel_rfl) (of_decide_eq_true (by kernel_rfl)) k2 bel lt2) trodAll_mk0))), rfl, bel.frame _, fun h => by cases h⟩

theorem holds : Rows.FnSetBytesOfIsSaid :=
  OpenClaim.holds_of_wide 11 Try.f11 rfl rfl rfl rfl rfl rfl rfl ⟨rfl, rfl, rfl, rfl, rfl⟩ rfl rfl rfl rfl rfl (by kernel_rfl) Try.func11 (by kernel_rfl)
    (of_decide_eq_true (by kernel_rfl)) (by unfold Func.isWrapper; first | (rw [if_pos (by decide +kernel)]; kernel_rfl) | (rw [if_neg (by decide +kernel)]; exact ⟨rfl, rfl⟩))
    (fun os started H enc _ => lifted os started H enc)
#print axioms holds
end Go.Proofs.Ytpmhkmcikjbncaa.fnSetBytesOfIs
