/-
  For every ways and cells: impl.Byte gives the cells in which z is its own byte at the place x, 0 where x is above 31; no other cell is changed (the statement FnByteIsSaid, no conditions).
-/
import Derived.Test.YtnbjmmmefnedhaaOpen
import Derived.Test.YtnbjmmmefnedhaaSpec1
import Derived.Test.YtnbjmmmefnedhaaSpec5
import Derived.Test.YtnbjmmmefnedhaaDesk6
namespace Go.Proofs.Ytnbjmmmefnedhaa.fnByteIs
open Go.ChangeShapes Go.WideShapes Go.ChangeAt Go.RowKit
set_option linter.unusedVariables false
set_option linter.unusedSimpArgs false

theorem and255_toNat (x : W64) : (x &&& 255#64).toNat = x.toNat % 256 := by
  rw [BitVec.toNat_and]; exact Nat.and_two_pow_sub_one_eq_mod x.toNat 8
theorem and7_toNat (x : W64) : (x &&& 7#64).toNat = x.toNat % 8 := by
  rw [BitVec.toNat_and]; exact Nat.and_two_pow_sub_one_eq_mod x.toNat 3
theorem byteOff_toNat (i : W64) : (byteOff i).toNat = 56 - 8 * (i.toNat % 8) := by
  unfold byteOff
  rw [BitVec.toNat_sub, BitVec.toNat_mul, and7_toNat]
  simp only [BitVec.toNat_ofNat]
  omega
theorem byte_word (z : N4) (i : Nat) (h : i < 32) : (z.wdB (3 - i / 8)).toNat / 2 ^ (56 - 8 * (i % 8)) % 256 = z.toNat / 2 ^ (8 * (31 - i)) % 256 := by
  have a1 := z.a.isLt; have a2 := z.b.isLt; have a3 := z.c.isLt; have a4 := z.d.isLt
  have w0 : z.wdB 0 = z.a := rfl
  have w1 : z.wdB 1 = z.b := rfl
  have w2 : z.wdB 2 = z.c := rfl
  have w3 : z.wdB 3 = z.d := rfl
  unfold N4.toNat
  rcases (by omega : i = 0 ∨ i = 1 ∨ i = 2 ∨ i = 3 ∨ i = 4 ∨ i = 5 ∨ i = 6 ∨ i = 7 ∨ i = 8 ∨ i = 9 ∨ i = 10 ∨ i = 11 ∨ i = 12 ∨ i = 13 ∨ i = 14 ∨ i = 15 ∨ i = 16 ∨ i = 17 ∨ i = 18 ∨ i = 19 ∨ i = 20 ∨ i = 21 ∨ i = 22 ∨ i = 23 ∨ i = 24 ∨ i = 25 ∨ i = 26 ∨ i = 27 ∨ i = 28 ∨ i = 29 ∨ i = 30 ∨ i = 31) with rfl | rfl | rfl | rfl | rfl | rfl | rfl | rfl | rfl | rfl | rfl | rfl | rfl | rfl | rfl | rfl | rfl | rfl | rfl | rfl | rfl | rfl | rfl | rfl | rfl | rfl | rfl | rfl | rfl | rfl | rfl | rfl
  all_goals
    simp only [Nat.reduceDiv, Nat.reduceMod, Nat.reduceMul, Nat.reduceSub, w0, w1, w2, w3, Nat.reducePow]
    omega
theorem byte_is (z x : N4) : z.byte x = byteN z x := by
  unfold N4.byte byteN
  have e : decide (32#64 ≤ x.a) = decide (31 < x.a.toNat) := by
    rw [Bool.eq_iff_iff]; simp only [decide_eq_true_eq, BitVec.le_def, BitVec.toNat_ofNat]; omega
  rw [e]
  cases hc : (!x.isU || decide (31 < x.a.toNat))
  · have h32 : x.a.toNat < 32 := by
      simp only [Bool.or_eq_false_iff, decide_eq_false_iff_not] at hc
      omega
    rw [if_neg (by decide), if_neg (by decide)]
    congr 1
    apply BitVec.eq_of_toNat_eq
    unfold N4.byteW
    rw [and255_toNat, shrW_toNat, byteOff_toNat, byte_word z _ h32, BitVec.toNat_ofNat]
    exact (Nat.mod_eq_of_lt (Nat.lt_of_lt_of_le (Nat.mod_lt _ (by decide)) (by decide))).symm
  · rfl
set_option maxHeartbeats 1000000 in
theorem walk (k : W4) (hk : k.ok) (c : C4) (w : World) : Calls Try.prog 3 #[k.v, c.v] w (RetBel (.bool true) w) := by
  have S0 : ∀ w, Calls Try.prog 18 #[(c.get (ix k.z)).v, (c.get (ix k.x)).v] w (RetBel (N4.v ((c.get (ix k.z)).byte (c.get (ix k.x)))) w) := fun w => by rw [byte_is]; exact specByteAt_any _ _ w
  have S := Lib.hid S0
  clear S0
  have he : (c.put (ix k.z) ((c.get (ix k.z)).byte (c.get (ix k.x)))).eqb (c.put (ix k.z) ((c.get (ix k.z)).byte (c.get (ix k.x)))) = true := C4.eqb_self _
  go_enter Try.func3, Try.ntmps3
  go_wp2
  go_region_held3 (Keeps (w.heap.size + 2) ((w.alloc (Obj.cells #[.int .i64 k.z, .int .i64 k.x, .int .i64 k.y, .int .i64 k.m] 23)).alloc (Obj.cells #[V c.a.a, V c.a.b, V c.a.c, V c.a.d, V c.b.a, V c.b.b, V c.b.c, V c.b.d, V c.c.a, V c.c.b, V c.c.c, V c.c.d, V c.d.a, V c.d.b, V c.d.c, V c.d.d] 28))) (first | exact Keeps.start _ _ | exact Keeps.step (by assumption) (by simp) hb)
    (first | (go_at_call 16; refine (implByte_any k c _ hk).mono ?_; rintro e w1 ⟨rfl, hb⟩) | (go_at_call 20; refine (specX_any k c _ hk).mono ?_; rintro e w1 ⟨rfl, hb⟩) | (go_at_call 19; refine (specGet_any c k.z _ hk.1).mono ?_; rintro e w1 ⟨rfl, hb⟩) | (go_at_call 18; refine (S.out _).mono ?_; rintro e w1 ⟨rfl, hb⟩) | (go_at_call 17; refine (specPut_any c k.z ((c.get (ix k.z)).byte (c.get (ix k.x))) _ hk.1).mono ?_; rintro e w1 ⟨rfl, hb⟩) | (go_at_call 15; refine (told_any (c.put (ix k.z) ((c.get (ix k.z)).byte (c.get (ix k.x)))) (c.put (ix k.z) ((c.get (ix k.z)).byte (c.get (ix k.x)))) false false _).mono ?_; rintro e w1 ⟨rfl, hb⟩))
  go_wp2
  go_ret
  exact retBel rfl ((‹Keeps _ _ _›).bel (by omega) (bel_alloc (bel_alloc (bel_refl w) _) _))

set_option maxRecDepth 100000 in
theorem lifted (os : Os) (started : os.Started) (H : Type) (enc : TypeId × Value → H) :
    ReturnsInHanded {} Try.checked os 3 .any (Rows.fnByteIsSpec.pre6 enc Try.prog Try.f3 Rows.fnByteIsRow.domain false) (Rows.fnByteIsSpec.post enc Try.prog Try.f3 false true false false) := by
  refine returnsInHanded_of_change (C := Try.checked) Try.own started (by kernel_rfl) Try.func3
    (ChangeSpec.witness6 (enc := enc) (C := Try.checked) false ⟨#[], #[.agg #[.int .i64 0, .int .i64 0, .int .i64 0, .int .i64 0], .agg #[.int .u64 0, .int .u64 0, .int .u64 0, .int .u64 0, .int .u64 0, .int .u64 0, .int .u64 0, .int .u64 0, .int .u64 0, .int .u64 0, .int .u64 0, .int .u64 0, .int .u64 0, .int .u64 0, .int .u64 0, .int .u64 0]], []⟩ 8 (by kernel_rfl) (by kernel_rfl) (by kernel_rfl) (by kernel_rfl)) ?_
  intro W base args ds gs before hval0 hW hcnd _
  have hval : ∀ (j : Nat) t v, Try.f3.params[j]? = some t → args[j]? = some v → Value.okWide Try.prog W .any base t v := hval0
  have hW' := hW
  obtain ⟨p, q, hA0, hV, rfl, hfz, hnd⟩ := hW
  have hA : DataW.TrodAll enc Try.prog W 0 (fun _ => true) true Try.f3.params.toList args.toList ds p := hA0
  rw [Try.params3] at hA hval
  obtain ⟨v0, vs0, d0, ds0, p0, q0, hargs, rfl, rfl, h0, r0⟩ := trodAll_cons hA
  obtain ⟨v1, vs1, d1, ds1, p1, q1, rfl, rfl, rfl, h1, r1⟩ := trodAll_cons r0
  obtain ⟨rfl, rfl, rfl⟩ := trodAll_nil r1
  obtain rfl : args = #[v0, v1] := by cases args; simp_all
  obtain ⟨rfl, rfl⟩ := trodVars_none hV
  have k0 := h0
  have lt0 : ∀ x ∈ p0, x.block < W.heap.size := by obtain ⟨m, hm⟩ := k0; exact DataW.trod_lt m _ _ _ hm
  obtain ⟨x0, rfl, g0⟩ := open_ways (hval 0 23 v0 rfl rfl)
  have k1 := h1
  have lt1 : ∀ x ∈ p1, x.block < W.heap.size := by obtain ⟨m, hm⟩ := k1; exact DataW.trod_lt m _ _ _ hm
  obtain ⟨x1, rfl⟩ := open_cells (hval 1 28 v1 rfl rfl)
  clear hA0 hval0
  refine (walk x0 g0 x1 W).mono fun e W' ⟨he, bel⟩ => ?_
  subst he
  exact ⟨_, rfl, _, _, _, [], _, [], hW', trodAll_mk1 (shut_bool Try.underlying4 _), (trodAll_cons_mk (Below.trod Try.laidOut (by kernel_rfl) (of_decide_eq_true (by kernel_rfl)) k0 bel lt0) (trodAll_cons_mk (Below.trod Try.laidOut (by kernel_rfl) (of_decide_eq_true (by kernel_rfl)) k1 bel lt1) trodAll_mk0)), rfl, bel.frame _, fun h => by cases h⟩

theorem holds : Rows.FnByteIsSaid :=
  OpenClaim.holds_of_wide 3 Try.f3 rfl rfl rfl rfl rfl rfl rfl ⟨rfl, rfl, rfl, rfl, rfl⟩ rfl rfl rfl rfl rfl (by kernel_rfl) Try.func3 (by kernel_rfl)
    (of_decide_eq_true (by kernel_rfl)) (by unfold Func.isWrapper; first | (rw [if_pos (by decide +kernel)]; kernel_rfl) | (rw [if_neg (by decide +kernel)]; exact ⟨rfl, rfl⟩))
    (fun os started H enc _ => lifted os started H enc)
#print axioms holds
end Go.Proofs.Ytnbjmmmefnedhaa.fnByteIs
