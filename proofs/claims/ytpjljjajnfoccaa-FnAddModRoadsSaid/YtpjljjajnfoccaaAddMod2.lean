/-
  The contract of uint256's AddMod, whatever places receiver and operands are.
-/
import Derived.Test.YtpjljjajnfoccaaAddMod
import Derived.Test.YtpjljjajnfoccaaHeldM
import Derived.Test.YtpjljjajnfoccaaDiv7
import Derived.Deep.WholeRow
namespace Go.Proofs.Ytpjljjajnfoccaa
open Go.RowKit
set_option linter.unusedVariables false
set_option linter.unusedSimpArgs false
set_option maxRecDepth 100000
noncomputable def slowCode : Code := Sl.nav [true, true] addModCode
noncomputable def tailCode : Code := Sl.nav [true, true] slowCode
theorem sliceAll5 (b o : Nat) (w : World) : (Instr.sliceAt 82 (.pointer (some ⟨b, o, none⟩)) none none none).run Try.prog w = .ok (.slice (some ⟨b, o, none⟩) 5 5) w := by
  have hl : Try.prog.arrayLen 82 = 5 := by kernel_rfl
  rw [run_sliceAt_array_all w _ ⟨b, o, none⟩ (by kernel_rfl), hl]
  have hs : (sizeOf (Try.prog.elem 82)).run Try.prog w = .ok 1 w := by kernel_rfl
  rw [hs]
  simp [Result.andThen, slicedAt, Addr.add]
theorem RowW.new5 (w : World) (t : TypeId) : RowW (w.alloc (.cells #[.int .u64 0, .int .u64 0, .int .u64 0, .int .u64 0, .int .u64 0] t)) w.heap.size 0 (List.replicate 5 0#64) := by
  constructor
  · intro i hi
    match i, hi with
    | 0, _ | 1, _ | 2, _ | 3, _ | 4, _ => simp [go_sem]; rfl
  · intro i hi; simp [go_sem]
theorem RowW.new5s (w : World) (t : TypeId) (s : N4) : RowW (w.alloc (.cells #[V s.a, V s.b, V s.c, V s.d, .int .u64 1] t)) w.heap.size 0 [s.a, s.b, s.c, s.d, 1#64] := by
  constructor
  · intro i hi
    match i, hi with
    | 0, _ | 1, _ | 2, _ | 3, _ | 4, _ => simp [go_sem]; rfl
  · intro i hi; simp [go_sem]
theorem wseg5 (s : N4) : wseg [s.a, s.b, s.c, s.d, 1#64] 0 5 = s.toNat + 2 ^ 256 := by
  simp [wseg, wd, N4.toNat]
theorem Left.grow {w0 W W' : World} {b o : Nat} {z : N4} (h : Left w0 b o z W) (k : But [] W W') : Left w0 b o z W' := by
  refine ⟨⟨k.os.trans h.bel.os, k.tape.trans h.bel.tape, k.output.trans h.bel.output, Nat.le_trans h.bel.size k.size, fun i hi => ?_⟩⟩
  rw [k.block i (Nat.lt_of_lt_of_le hi h.size) (by simp), h.bel.block i hi]
theorem slow_ovf (x y m : N4) (zm : m.isZ = false) (h : x.addc y = true) : ofN (((x.add y).toNat + 2 ^ 256) % m.toNat) = addModN x y m := by
  have e : (x.add y).toNat + 2 ^ 256 = x.toNat + y.toNat := by
    rw [addc_eq, decide_eq_true_eq] at h
    have := toNat_lt x
    have := toNat_lt y
    rw [add_toNat]
    omega
  unfold addModN
  rw [e, if_neg (fun k => by rw [(isZ_iff m).2 k] at zm; cases zm)]
theorem slow_no (x y m : N4) (zm : m.isZ = false) (h : x.addc y = false) : remN (x.add y) m = addModN x y m := by
  have e : (x.add y).toNat = x.toNat + y.toNat := by
    rw [addc_eq, decide_eq_false_iff_not] at h
    rw [add_toNat]
    omega
  unfold addModN remN
  rw [e]
section
variable {b o c p d q f r : Nat} {z x y m : N4} {w w0 : World}
/-- From AddOverflow on: m lies apart from z. -/
theorem tail_ovf (hb0 : b < w0.heap.size) (hw : Below w0.heap.size w0 w) (hz : At4 w b o z) (fz : Free4 w b o) (hx : At4 w c p x) (hy : At4 w d q y) (hm : At4 w f r m) (sx : Sep b o c p) (sy : Sep b o d q) (sm : f = b → r + 4 ≤ o ∨ o + 4 ≤ r) (zm : m.isZ = false) (hov : x.addc y = true)
    (v22 v23 v24 v25 v26 v27 v28 v29 v30 v31 v32 v33 v34 v35 v36 v37 v38 v39 v40 v41 v42 v43 v44 v45 v46 v47 v48 v279 v280 v283 v284 v285 v286 v287 : Value) :
    tailCode.wp Try.prog (bodyPost Try.prog Try.f20 (RetLeft b o (addModN x y m) w0)) ⟨#[.pointer (some ⟨b, o, none⟩), .pointer (some ⟨c, p, none⟩), .pointer (some ⟨d, q, none⟩), .pointer (some ⟨f, r, none⟩), undef, undef, undef, undef, .pointer none, undef, undef, undef, undef, undef, undef, undef, undef, undef, undef, undef, undef, undef, v22, v23, v24, v25, v26, v27, v28, v29, v30, v31, v32, v33, v34, v35, v36, v37, v38, v39, v40, v41, v42, v43, v44, v45, v46, v47, v48, undef, undef, undef, undef, undef, undef, undef, undef, undef, undef, undef, undef, undef, undef, undef, undef, undef, undef, undef, undef, undef, undef, undef, undef, undef, undef, undef, undef, undef, undef, undef, undef, undef, undef, undef, undef, undef, undef, undef, undef, undef, undef, undef, undef, undef, undef, undef, undef, undef, undef, undef, undef, undef, undef, undef, undef, undef, undef, undef, undef, undef, undef, undef, undef, undef, undef, undef, undef, undef, undef, undef, undef, undef, undef, undef, undef, undef, undef, undef, undef, undef, undef, undef, undef, undef, undef, undef, undef, undef, undef, undef, undef, undef, undef, undef, undef, undef, undef, undef, undef, undef, undef, undef, undef, undef, undef, undef, undef, undef, undef, undef, undef, undef, undef, undef, undef, undef, undef, undef, undef, undef, undef, undef, undef, undef, undef, undef, undef, undef, undef, undef, undef, undef, undef, undef, undef, undef, undef, undef, undef, undef, undef, undef, undef, undef, undef, undef, undef, undef, undef, undef, undef, undef, undef, undef, undef, undef, undef, undef, undef, undef, undef, undef, undef, undef, undef, undef, undef, undef, undef, undef, undef, undef, undef, undef, undef, undef, undef, undef, undef, undef, undef, undef, undef, undef, undef, undef, undef, undef, undef, undef, undef, undef, undef, undef, undef, undef, undef, undef, undef, undef, undef, undef, undef, undef, undef, undef, undef, undef, undef, undef, undef, undef, undef, undef, undef, undef, undef, undef, undef, undef, undef, undef, undef, undef, undef, undef, undef, undef, undef, v279, v280, undef, undef, v283, v284, v285, v286, v287, undef, undef, undef, undef, undef, undef, undef, undef, undef, undef, undef, undef, undef, undef, undef, undef, undef, undef, undef, undef, undef, undef, undef, undef, undef, undef, undef, undef, undef, undef, undef, undef, undef, undef, undef], []⟩ w := by
  conv => arg 2; whnf
  have HZ := Lib.hid hz
  have HF := Lib.hid fz
  have HM := Lib.hid hm
  have FIN := Lib.hid (slow_ovf x y m zm hov)
  have HP : Hid (0 < m.toNat) := by
    show _ < _
    rcases Nat.eq_zero_or_pos m.toNat with k | k
    · rw [(isZ_iff m).2 k] at zm; cases zm
    · exact k
  go_wp2_with fail
  refine (addOverflow_any b o c p d q z x y _ hz fz hx hy sx sy).mono ?_
  rintro e w1 ⟨rfl, n1, rfl⟩
  have HL : Hid (Left w0 b o (x.add y) ((put4 w b o (x.add y)).drewN n1)) := Left.of_alloc hw hb0
  have HZ1 : Hid (At4 ((put4 w b o (x.add y)).drewN n1) b o (x.add y)) := (put4_at _ _ _ _ _ HZ.out).drewN n1
  have HF1 : Hid (Free4 ((put4 w b o (x.add y)).drewN n1) b o) := (HF.out.put _).drewN n1
  have HM1 : Hid (At4 ((put4 w b o (x.add y)).drewN n1) f r m) := (put4_far HM.out sm).drewN n1
  have hbl : Hid (b < ((put4 w b o (x.add y)).drewN n1).heap.size) := HZ1.out.lt
  clear HZ HF HM hz fz hx hy hm
  generalize (put4 w b o (x.add y)).drewN n1 = W1 at *
  generalize x.add y = s at *
  go_wp2_with fail
  obtain ⟨z0, z1, z2, z3⟩ := HZ1.out
  refine wp_region_noPanic ?_
  refine wp_region_held_drew (S := (fun w' => w'.cell? ⟨b, o, none⟩ = some (V s.a) ∧ w'.cell? ⟨b, o + 1, none⟩ = some (V s.b) ∧ w'.cell? ⟨b, o + 2, none⟩ = some (V s.c) ∧ w'.cell? ⟨b, o + 3, none⟩ = some (V s.d))) (by kernel_rfl) (by exact ⟨z0, z1, z2, z3⟩) (fun hHeld => ?_)
  refine hm_take (i := 0) (v := ?_) rfl rfl (by kernel_rfl) (by kernel_rfl) (by kernel_rfl) (fun _ _ _ h => h) rfl ?_ (by assumption) ?_
  rotate_left
  · (intro w hSw; (try dsimp only at hSw); go_simp; try with_reducible rfl)
  try simp only [Act.put, List.setIfInBounds_toArray, List.set_cons_zero, List.set_cons_succ]
  refine hm_take (i := 1) (v := ?_) rfl rfl (by kernel_rfl) (by kernel_rfl) (by kernel_rfl) (fun _ _ _ h => h) rfl ?_ (by assumption) ?_
  rotate_left
  · (intro w hSw; (try dsimp only at hSw); go_simp; try with_reducible rfl)
  try simp only [Act.put, List.setIfInBounds_toArray, List.set_cons_zero, List.set_cons_succ]
  refine hm_take (i := 2) (v := ?_) rfl rfl (by kernel_rfl) (by kernel_rfl) (by kernel_rfl) (fun _ _ _ h => h) rfl ?_ (by assumption) ?_
  rotate_left
  · (intro w hSw; (try dsimp only at hSw); go_simp; try with_reducible rfl)
  try simp only [Act.put, List.setIfInBounds_toArray, List.set_cons_zero, List.set_cons_succ]
  refine hm_take (i := 3) (v := ?_) rfl rfl (by kernel_rfl) (by kernel_rfl) (by kernel_rfl) (fun _ _ _ h => h) rfl ?_ (by assumption) ?_
  rotate_left
  · (intro w hSw; (try dsimp only at hSw); go_simp; try with_reducible rfl)
  try simp only [Act.put, List.setIfInBounds_toArray, List.set_cons_zero, List.set_cons_succ]
  refine hm_take (i := 4) (v := ?_) rfl rfl (by kernel_rfl) (by kernel_rfl) (by kernel_rfl) (fun _ _ _ h => h) rfl ?_ (by assumption) ?_
  rotate_left
  · (intro w hSw; (try dsimp only at hSw); go_simp; try with_reducible rfl)
  try simp only [Act.put, List.setIfInBounds_toArray, List.set_cons_zero, List.set_cons_succ]
  refine hm_take (i := 5) (v := ?_) rfl rfl (by kernel_rfl) (by kernel_rfl) (by kernel_rfl) (fun _ _ _ h => h) rfl ?_ (by assumption) ?_
  rotate_left
  · (intro w hSw; (try dsimp only at hSw); go_simp; try with_reducible rfl)
  try simp only [Act.put, List.setIfInBounds_toArray, List.set_cons_zero, List.set_cons_succ]
  refine hm_take (i := 6) (v := ?_) rfl rfl (by kernel_rfl) (by kernel_rfl) (by kernel_rfl) (fun _ _ _ h => h) rfl ?_ (by assumption) ?_
  rotate_left
  · (intro w hSw; (try dsimp only at hSw); go_simp; try with_reducible rfl)
  try simp only [Act.put, List.setIfInBounds_toArray, List.set_cons_zero, List.set_cons_succ]
  refine hm_take (i := 7) (v := ?_) rfl rfl (by kernel_rfl) (by kernel_rfl) (by kernel_rfl) (fun _ _ _ h => h) rfl ?_ (by assumption) ?_
  rotate_left
  · (intro w hSw; (try dsimp only at hSw); go_simp; try with_reducible rfl)
  try simp only [Act.put, List.setIfInBounds_toArray, List.set_cons_zero, List.set_cons_succ]
  refine hm_take (i := 8) (v := ?_) rfl rfl (by kernel_rfl) (by kernel_rfl) (by kernel_rfl) (fun _ _ _ h => h) rfl ?_ (by assumption) ?_
  rotate_left
  · (intro w hSw; (try dsimp only at hSw); go_simp; try with_reducible rfl)
  try simp only [Act.put, List.setIfInBounds_toArray, List.set_cons_zero, List.set_cons_succ]
  refine hm_take (i := 9) (v := ?_) rfl rfl (by kernel_rfl) (by kernel_rfl) (by kernel_rfl) (fun _ _ _ h => h) rfl ?_ (by assumption) ?_
  rotate_left
  · (intro w hSw; (try dsimp only at hSw); go_simp; try with_reducible rfl)
  try simp only [Act.put, List.setIfInBounds_toArray, List.set_cons_zero, List.set_cons_succ]
  refine hm_take (i := 10) (v := ?_) rfl rfl (by kernel_rfl) (by kernel_rfl) (by kernel_rfl) (fun _ _ _ h => h) rfl ?_ (by assumption) ?_
  rotate_left
  · (intro w hSw; (try dsimp only at hSw); go_simp; try with_reducible rfl)
  try simp only [Act.put, List.setIfInBounds_toArray, List.set_cons_zero, List.set_cons_succ]
  refine hm_take (i := 11) (v := ?_) rfl rfl (by kernel_rfl) (by kernel_rfl) (by kernel_rfl) (fun _ _ _ h => h) rfl ?_ (by assumption) ?_
  rotate_left
  · (intro w hSw; (try dsimp only at hSw); go_simp; try with_reducible rfl)
  try simp only [Act.put, List.setIfInBounds_toArray, List.set_cons_zero, List.set_cons_succ]
  refine hm_take (i := 12) (v := ?_) rfl rfl (by kernel_rfl) (by kernel_rfl) (by kernel_rfl) (fun _ _ _ h => h) rfl ?_ (by assumption) ?_
  rotate_left
  · (intro w hSw; (try dsimp only at hSw); go_simp; try with_reducible rfl)
  try simp only [Act.put, List.setIfInBounds_toArray, List.set_cons_zero, List.set_cons_succ]
  refine hm_take (i := 13) (v := ?_) rfl rfl (by kernel_rfl) (by kernel_rfl) (by kernel_rfl) (fun _ _ _ h => h) rfl ?_ (by assumption) ?_
  rotate_left
  · (intro w hSw; (try dsimp only at hSw); go_simp; try with_reducible rfl)
  try simp only [Act.put, List.setIfInBounds_toArray, List.set_cons_zero, List.set_cons_succ]
  refine hm_take (i := 14) (v := ?_) rfl rfl (by kernel_rfl) (by kernel_rfl) (by kernel_rfl) (fun _ _ _ h => h) rfl ?_ (by assumption) ?_
  rotate_left
  · (intro w hSw; (try dsimp only at hSw); go_simp; try with_reducible rfl)
  try simp only [Act.put, List.setIfInBounds_toArray, List.set_cons_zero, List.set_cons_succ]
  refine hm_take (i := 15) (v := ?_) rfl rfl (by kernel_rfl) (by kernel_rfl) (by kernel_rfl) (fun _ _ _ h => h) rfl ?_ (by assumption) ?_
  rotate_left
  · (intro w hSw; (try dsimp only at hSw); go_simp; try with_reducible rfl)
  try simp only [Act.put, List.setIfInBounds_toArray, List.set_cons_zero, List.set_cons_succ]
  refine hm_take (i := 16) (v := ?_) rfl rfl (by kernel_rfl) (by kernel_rfl) (by kernel_rfl) (fun _ _ _ h => h) rfl ?_ (by assumption) ?_
  rotate_left
  · (intro w hSw; (try dsimp only at hSw); go_simp; try with_reducible rfl)
  try simp only [Act.put, List.setIfInBounds_toArray, List.set_cons_zero, List.set_cons_succ]
  refine hm_call (i := 17) rfl (by kernel_rfl) rfl (fun K hK => ?_)
  (go_simp)
  refine hK.out _ _ (by (try dsimp only); exact (fun h => ⟨h.c0, h.c1, h.c2, h.c3⟩) ((HZ1.out.alloc (Obj.cells #[.int .u64 0, .int .u64 0, .int .u64 0, .int .u64 0, .int .u64 0] 82)).drewN 1)) (fun hHeld => ?_)
  clear hK K
  try simp only [Act.put, List.setIfInBounds_toArray, List.set_cons_zero, List.set_cons_succ]
  refine hm_call (i := 18) rfl (by kernel_rfl) rfl (fun K hK => ?_)
  (go_simp)
  refine hK.out _ _ (by (try dsimp only); exact (fun h => ⟨h.c0, h.c1, h.c2, h.c3⟩) ((HZ1.out.alloc (Obj.cells #[V s.a, V s.b, V s.c, V s.d, .int .u64 1] 82)).drewN 1)) (fun hHeld => ?_)
  clear hK K
  try simp only [Act.put, List.setIfInBounds_toArray, List.set_cons_zero, List.set_cons_succ]
  refine wpAnyH_done (by kernel_rfl) ?_ _
  refine NoPanic.normal ?_
  have hg2 : Hid (W1.heap.size < (W1.alloc (Obj.cells #[V s.a, V s.b, V s.c, V s.d, .int .u64 1] 82)).drew.heap.size) := by show _ < _; simp
  have HR := Lib.hid ((RowW.new5s W1 82 s).drewN 1)
  have HM2 := Lib.hid ((HM1.out.alloc (Obj.cells #[V s.a, V s.b, V s.c, V s.d, .int .u64 1] 82)).drewN 1)
  have HB2 : Hid (But [] W1 (W1.alloc (Obj.cells #[V s.a, V s.b, V s.c, V s.d, .int .u64 1] 82)).drew) := (((But.refl [] W1).alloc _).drewN 1)
  clear hHeld z0 z1 z2 z3
  have HR : Hid (RowW (W1.alloc (Obj.cells #[V s.a, V s.b, V s.c, V s.d, .int .u64 1] 82)).drew W1.heap.size 0 [s.a, s.b, s.c, s.d, 1#64]) := HR.out
  have HM2 : Hid (At4 (W1.alloc (Obj.cells #[V s.a, V s.b, V s.c, V s.d, .int .u64 1] 82)).drew f r m) := HM2.out
  have hHeld := trivial
  generalize (W1.alloc (Obj.cells #[V s.a, V s.b, V s.c, V s.d, .int .u64 1] 82)).drew = W2 at *
  have hfl := HM1.out.lt
  have hsl := fun b o w => sliceAll5 b o w
  have UD : Hid (∀ j, Calls Try.prog 45 #[.slice (some ⟨W2.heap.size, 0, none⟩) 5 5, .slice (some ⟨W1.heap.size, 0, none⟩) 5 5, .pointer (some ⟨f, r, none⟩), .pointer (some ⟨W2.heap.size + 1, 0, none⟩)] (((W2.alloc (Obj.cells #[.int .u64 0, .int .u64 0, .int .u64 0, .int .u64 0, .int .u64 0] 82)).alloc (Obj.cells #[.int .u64 0, .int .u64 0, .int .u64 0, .int .u64 0] 72)).drewN j)
      fun e w' => e = .returned (.tuple #[]) ∧ (∃ v : N4, At4 w' (W2.heap.size + 1) 0 v ∧ Free4 w' (W2.heap.size + 1) 0 ∧ v.toNat = (s.toNat + 2 ^ 256) % m.toNat) ∧ But [] W1 w') := fun j => by
    have sz : (W2.alloc (Obj.cells #[.int .u64 0, .int .u64 0, .int .u64 0, .int .u64 0, .int .u64 0] 82)).heap.size = W2.heap.size + 1 := by simp
    have n4 := new0_at (W2.alloc (Obj.cells #[.int .u64 0, .int .u64 0, .int .u64 0, .int .u64 0, .int .u64 0] 82)) 72
    have f4 := new0_free (W2.alloc (Obj.cells #[.int .u64 0, .int .u64 0, .int .u64 0, .int .u64 0, .int .u64 0] 82)) 72
    rw [sz] at n4 f4
    have g2 := hg2.out
    refine (udivrem_any W2.heap.size 0 5 5 W1.heap.size 0 5 5 f r (some (W2.heap.size + 1, 0)) [s.a, s.b, s.c, s.d, 1#64] m _ (((RowW.new5 W2 _).alloc _).drewN j) (((HR.out.alloc _).alloc _).drewN j) (((HM2.out.alloc _).alloc _).drewN j) rfl (by omega) (by omega) (by omega) (by omega) (by omega) (by omega) (by omega)
      (fun b' o' e => by cases e; exact ⟨n4.drewN j, Free4.drewN f4 j, by omega, by omega, by omega, by rw [wseg5]; have := toNat_lt m; omega⟩) HP.out (by rw [wseg5]; omega)).mono ?_
    rintro e w' ⟨Q, he, h1, h2, h3, h4, h5⟩
    obtain ⟨v, k1, k2, k3⟩ := h4 _ _ rfl
    refine ⟨he, ⟨v, k1, k2, by rw [k3, wseg5]⟩, ?_⟩
    exact (((HB2.out.alloc _).alloc _).drewN j).step h5 (by intro t ht; simp at ht; rcases ht with rfl | rfl <;> (right; omega))
  go_wp2_with fail
  go_region_held3 (fun w' => True) (trivial) ((go_at_call 45; refine (UD.out 1).mono ?_; rintro e w5 ⟨rfl, ⟨v, hv1, hv2, hv3⟩, hQB⟩))
  have HV1 := Lib.hid hv1
  have HV3 := Lib.hid hv3
  have HB5 := Lib.hid hQB
  clear hv1 hv2 hv3 hQB UD hsl
  go_wp2_with fail
  refine (set_any b o (W2.heap.size + 1) 0 s v w5 (HZ1.out.but HB5.out (by simp)) (HF1.out.but hbl.out HB5.out (by simp)) HV1.out (Sep.blocks (by have := hg2.out; have := hbl.out; omega))).mono ?_
  rintro e w6 ⟨rfl, n6, rfl⟩
  go_wp2
  go_ret
  refine ⟨rfl, ?_⟩
  have hv : v = addModN x y m := by
    rw [← FIN.out]
    apply eq_ofN
    rw [HV3.out]
    exact (Nat.mod_eq_of_lt (Nat.lt_trans (Nat.mod_lt _ HP.out) (toNat_lt m))).symm
  rw [← hv]
  exact Left.again (HL.out.grow HB5.out) (Left.of_put w5 b o n6 v)
/-- .. where the sum has room: Mod. -/
theorem tail_no (hb0 : b < w0.heap.size) (hw : Below w0.heap.size w0 w) (hz : At4 w b o z) (fz : Free4 w b o) (hx : At4 w c p x) (hy : At4 w d q y) (hm : At4 w f r m) (sx : Sep b o c p) (sy : Sep b o d q) (sm : f = b → r + 4 ≤ o ∨ o + 4 ≤ r) (zm : m.isZ = false) (hov : x.addc y = false)
    (v22 v23 v24 v25 v26 v27 v28 v29 v30 v31 v32 v33 v34 v35 v36 v37 v38 v39 v40 v41 v42 v43 v44 v45 v46 v47 v48 v279 v280 v283 v284 v285 v286 v287 : Value) :
    tailCode.wp Try.prog (bodyPost Try.prog Try.f20 (RetLeft b o (addModN x y m) w0)) ⟨#[.pointer (some ⟨b, o, none⟩), .pointer (some ⟨c, p, none⟩), .pointer (some ⟨d, q, none⟩), .pointer (some ⟨f, r, none⟩), undef, undef, undef, undef, .pointer none, undef, undef, undef, undef, undef, undef, undef, undef, undef, undef, undef, undef, undef, v22, v23, v24, v25, v26, v27, v28, v29, v30, v31, v32, v33, v34, v35, v36, v37, v38, v39, v40, v41, v42, v43, v44, v45, v46, v47, v48, undef, undef, undef, undef, undef, undef, undef, undef, undef, undef, undef, undef, undef, undef, undef, undef, undef, undef, undef, undef, undef, undef, undef, undef, undef, undef, undef, undef, undef, undef, undef, undef, undef, undef, undef, undef, undef, undef, undef, undef, undef, undef, undef, undef, undef, undef, undef, undef, undef, undef, undef, undef, undef, undef, undef, undef, undef, undef, undef, undef, undef, undef, undef, undef, undef, undef, undef, undef, undef, undef, undef, undef, undef, undef, undef, undef, undef, undef, undef, undef, undef, undef, undef, undef, undef, undef, undef, undef, undef, undef, undef, undef, undef, undef, undef, undef, undef, undef, undef, undef, undef, undef, undef, undef, undef, undef, undef, undef, undef, undef, undef, undef, undef, undef, undef, undef, undef, undef, undef, undef, undef, undef, undef, undef, undef, undef, undef, undef, undef, undef, undef, undef, undef, undef, undef, undef, undef, undef, undef, undef, undef, undef, undef, undef, undef, undef, undef, undef, undef, undef, undef, undef, undef, undef, undef, undef, undef, undef, undef, undef, undef, undef, undef, undef, undef, undef, undef, undef, undef, undef, undef, undef, undef, undef, undef, undef, undef, undef, undef, undef, undef, undef, undef, undef, undef, undef, undef, undef, undef, undef, undef, undef, undef, undef, undef, undef, undef, undef, undef, undef, undef, undef, undef, undef, undef, undef, undef, undef, undef, undef, undef, undef, undef, undef, undef, undef, undef, undef, undef, undef, undef, undef, undef, undef, undef, undef, undef, undef, undef, undef, v279, v280, undef, undef, v283, v284, v285, v286, v287, undef, undef, undef, undef, undef, undef, undef, undef, undef, undef, undef, undef, undef, undef, undef, undef, undef, undef, undef, undef, undef, undef, undef, undef, undef, undef, undef, undef, undef, undef, undef, undef, undef, undef, undef], []⟩ w := by
  conv => arg 2; whnf
  have HZ := Lib.hid hz
  have HF := Lib.hid fz
  have HM := Lib.hid hm
  have FIN := Lib.hid (slow_no x y m zm hov)
  go_wp2_with fail
  refine (addOverflow_any b o c p d q z x y _ hz fz hx hy sx sy).mono ?_
  rintro e w1 ⟨rfl, n1, rfl⟩
  have HL : Hid (Left w0 b o (x.add y) ((put4 w b o (x.add y)).drewN n1)) := Left.of_alloc hw hb0
  have HZ1 : Hid (At4 ((put4 w b o (x.add y)).drewN n1) b o (x.add y)) := (put4_at _ _ _ _ _ HZ.out).drewN n1
  have HF1 : Hid (Free4 ((put4 w b o (x.add y)).drewN n1) b o) := (HF.out.put _).drewN n1
  have HM1 : Hid (At4 ((put4 w b o (x.add y)).drewN n1) f r m) := (put4_far HM.out sm).drewN n1
  clear HZ HF HM hz fz hx hy hm
  generalize (put4 w b o (x.add y)).drewN n1 = W1 at *
  go_wp2_with fail
  refine (modInt_any b o b o f r _ _ m W1 HZ1.out HF1.out HZ1.out HF1.out HM1.out (Sep.rfl' b o)).mono ?_
  rintro e w2 ⟨rfl, hl⟩
  go_wp2
  go_ret
  refine ⟨rfl, ?_⟩
  rw [← FIN.out]
  exact Left.again HL.out hl
/-- The slow way where m is 0. -/
theorem slow_zero (hb0 : b < w0.heap.size) (hw : Below w0.heap.size w0 w) (hz : At4 w b o z) (fz : Free4 w b o) (hm : At4 w b r m) (zm : m.isZ = true) (v22 v23 v24 v25 v26 v27 v28 v29 v30 v31 v32 v33 v34 v35 v36 v37 v38 v39 v40 v41 v42 v43 v44 v45 v46 v47 v48 : Value) :
    slowCode.wp Try.prog (bodyPost Try.prog Try.f20 (RetLeft b o (addModN x y m) w0)) ⟨#[.pointer (some ⟨b, o, none⟩), .pointer (some ⟨c, p, none⟩), .pointer (some ⟨d, q, none⟩), .pointer (some ⟨b, r, none⟩), undef, undef, undef, undef, .pointer none, undef, undef, undef, undef, undef, undef, undef, undef, undef, undef, undef, undef, undef, v22, v23, v24, v25, v26, v27, v28, v29, v30, v31, v32, v33, v34, v35, v36, v37, v38, v39, v40, v41, v42, v43, v44, v45, v46, v47, v48, undef, undef, undef, undef, undef, undef, undef, undef, undef, undef, undef, undef, undef, undef, undef, undef, undef, undef, undef, undef, undef, undef, undef, undef, undef, undef, undef, undef, undef, undef, undef, undef, undef, undef, undef, undef, undef, undef, undef, undef, undef, undef, undef, undef, undef, undef, undef, undef, undef, undef, undef, undef, undef, undef, undef, undef, undef, undef, undef, undef, undef, undef, undef, undef, undef, undef, undef, undef, undef, undef, undef, undef, undef, undef, undef, undef, undef, undef, undef, undef, undef, undef, undef, undef, undef, undef, undef, undef, undef, undef, undef, undef, undef, undef, undef, undef, undef, undef, undef, undef, undef, undef, undef, undef, undef, undef, undef, undef, undef, undef, undef, undef, undef, undef, undef, undef, undef, undef, undef, undef, undef, undef, undef, undef, undef, undef, undef, undef, undef, undef, undef, undef, undef, undef, undef, undef, undef, undef, undef, undef, undef, undef, undef, undef, undef, undef, undef, undef, undef, undef, undef, undef, undef, undef, undef, undef, undef, undef, undef, undef, undef, undef, undef, undef, undef, undef, undef, undef, undef, undef, undef, undef, undef, undef, undef, undef, undef, undef, undef, undef, undef, undef, undef, undef, undef, undef, undef, undef, undef, undef, undef, undef, undef, undef, undef, undef, undef, undef, undef, undef, undef, undef, undef, undef, undef, undef, undef, undef, undef, undef, undef, undef, undef, undef, undef, undef, undef, undef, undef, undef, undef, undef, undef, undef, undef, undef, undef, undef, undef, undef, undef, undef, undef, undef, undef, undef, undef, undef, undef, undef, undef, undef, undef, undef, undef, undef, undef, undef, undef, undef, undef, undef, undef, undef, undef, undef, undef, undef, undef, undef, undef, undef, undef, undef, undef, undef, undef, undef, undef, undef, undef, undef, undef, undef], []⟩ w := by
  conv => arg 2; whnf
  go_wp2_with fail
  refine (isZero_any b r m _ hm).mono ?_
  rintro e w1 ⟨rfl, n1, rfl⟩
  go_wp2_with fail
  refine (clear_any b o z _ (hz.drewN n1) (fz.drewN n1)).mono ?_
  rintro e w2 ⟨rfl, n2, rfl⟩
  go_wp2
  go_ret
  have e : addModN x y m = ⟨0#64, 0#64, 0#64, 0#64⟩ := by unfold addModN; rw [if_pos ((isZ_iff m).1 zm)]
  rw [e]
  exact ⟨rfl, Left.of_alloc (bel_drewN hw n1) hb0⟩
/-- The slow way where m is not 0. -/
theorem slow_nz (hb0 : b < w0.heap.size) (hw : Below w0.heap.size w0 w) (hz : At4 w b o z) (fz : Free4 w b o) (hx : At4 w c p x) (hy : At4 w d q y) (hm : At4 w b r m) (sx : Sep b o c p) (sy : Sep b o d q) (sm : Sep b o b r) (zm : m.isZ = false) (v22 v23 v24 v25 v26 v27 v28 v29 v30 v31 v32 v33 v34 v35 v36 v37 v38 v39 v40 v41 v42 v43 v44 v45 v46 v47 v48 : Value) :
    slowCode.wp Try.prog (bodyPost Try.prog Try.f20 (RetLeft b o (addModN x y m) w0)) ⟨#[.pointer (some ⟨b, o, none⟩), .pointer (some ⟨c, p, none⟩), .pointer (some ⟨d, q, none⟩), .pointer (some ⟨b, r, none⟩), undef, undef, undef, undef, .pointer none, undef, undef, undef, undef, undef, undef, undef, undef, undef, undef, undef, undef, undef, v22, v23, v24, v25, v26, v27, v28, v29, v30, v31, v32, v33, v34, v35, v36, v37, v38, v39, v40, v41, v42, v43, v44, v45, v46, v47, v48, undef, undef, undef, undef, undef, undef, undef, undef, undef, undef, undef, undef, undef, undef, undef, undef, undef, undef, undef, undef, undef, undef, undef, undef, undef, undef, undef, undef, undef, undef, undef, undef, undef, undef, undef, undef, undef, undef, undef, undef, undef, undef, undef, undef, undef, undef, undef, undef, undef, undef, undef, undef, undef, undef, undef, undef, undef, undef, undef, undef, undef, undef, undef, undef, undef, undef, undef, undef, undef, undef, undef, undef, undef, undef, undef, undef, undef, undef, undef, undef, undef, undef, undef, undef, undef, undef, undef, undef, undef, undef, undef, undef, undef, undef, undef, undef, undef, undef, undef, undef, undef, undef, undef, undef, undef, undef, undef, undef, undef, undef, undef, undef, undef, undef, undef, undef, undef, undef, undef, undef, undef, undef, undef, undef, undef, undef, undef, undef, undef, undef, undef, undef, undef, undef, undef, undef, undef, undef, undef, undef, undef, undef, undef, undef, undef, undef, undef, undef, undef, undef, undef, undef, undef, undef, undef, undef, undef, undef, undef, undef, undef, undef, undef, undef, undef, undef, undef, undef, undef, undef, undef, undef, undef, undef, undef, undef, undef, undef, undef, undef, undef, undef, undef, undef, undef, undef, undef, undef, undef, undef, undef, undef, undef, undef, undef, undef, undef, undef, undef, undef, undef, undef, undef, undef, undef, undef, undef, undef, undef, undef, undef, undef, undef, undef, undef, undef, undef, undef, undef, undef, undef, undef, undef, undef, undef, undef, undef, undef, undef, undef, undef, undef, undef, undef, undef, undef, undef, undef, undef, undef, undef, undef, undef, undef, undef, undef, undef, undef, undef, undef, undef, undef, undef, undef, undef, undef, undef, undef, undef, undef, undef, undef, undef, undef, undef, undef, undef, undef, undef, undef, undef, undef, undef, undef], []⟩ w := by
  have hsm := sm rfl
  have HPE := fun w => ptrEq b o r w
  conv => arg 2; whnf
  go_wp2_with fail
  refine (isZero_any b r m _ hm).mono ?_
  rintro e w1 ⟨rfl, n1, rfl⟩
  cases heq : (o == r)
  · go_upto_if 285 with fail
    refine wp_cond_false rfl (wp_skip ?_)
    rename_i hK
    refine hK _ _ ?_
    have hs : b = b → r + 4 ≤ o ∨ o + 4 ≤ r := fun _ => by
      have : ¬ o = r := by simpa using heq
      rcases hsm with h | h | h
      · exact absurd h this
      · exact .inr h
      · exact .inl h
    cases hov : x.addc y
    · exact tail_no hb0 (bel_drewN hw n1) (hz.drewN n1) (fz.drewN n1) (hx.drewN n1) (hy.drewN n1) (hm.drewN n1) sx sy hs zm hov _ _ _ _ _ _ _ _ _ _ _ _ _ _ _ _ _ _ _ _ _ _ _ _ _ _ _ _ _ _ _ _ _ _
    · exact tail_ovf hb0 (bel_drewN hw n1) (hz.drewN n1) (fz.drewN n1) (hx.drewN n1) (hy.drewN n1) (hm.drewN n1) sx sy hs zm hov _ _ _ _ _ _ _ _ _ _ _ _ _ _ _ _ _ _ _ _ _ _ _ _ _ _ _ _ _ _ _ _ _ _
  · go_upto_if 285 with fail
    refine wp_cond_true rfl ?_
    rename_i hK
    have HK := Lib.hid hK
    clear hK
    go_wp2_with fail
    refine (clone_any b r m _ (hm.drewN n1)).mono ?_
    rintro e w2 ⟨rfl, hm2, hB⟩
    have hbl := hz.lt
    have HB' : Below w0.heap.size w0 w2 := hB.bel (bel_drewN hw n1) (by simp)
    have hg : b < (w.drewN n1).heap.size := hbl
    go_wp2_with fail
    refine HK.out _ _ ?_
    cases hov : x.addc y
    · exact tail_no hb0 HB' ((hz.drewN n1).but hB (by simp)) ((fz.drewN n1).but hbl hB (by simp)) ((hx.drewN n1).but hB (by simp)) ((hy.drewN n1).but hB (by simp)) hm2 sx sy (fun e => by have := hg; omega) zm hov _ _ _ _ _ _ _ _ _ _ _ _ _ _ _ _ _ _ _ _ _ _ _ _ _ _ _ _ _ _ _ _ _ _
    · exact tail_ovf hb0 HB' ((hz.drewN n1).but hB (by simp)) ((fz.drewN n1).but hbl hB (by simp)) ((hx.drewN n1).but hB (by simp)) ((hy.drewN n1).but hB (by simp)) hm2 sx sy (fun e => by have := hg; omega) zm hov _ _ _ _ _ _ _ _ _ _ _ _ _ _ _ _ _ _ _ _ _ _ _ _ _ _ _ _ _ _ _ _ _ _
end
set_option maxHeartbeats 4000000 in
theorem addMod_s1 (b o c p d q r : Nat) (z x y m : N4) (w : World) (hz : At4 w b o z) (fz : Free4 w b o) (hx : At4 w c p x) (hy : At4 w d q y) (hm : At4 w b r m) (sx : Sep b o c p) (sy : Sep b o d q) (sm : Sep b o b r) (h0 : m.d = 0#64) :
    Calls Try.prog 20 #[.pointer (some ⟨b, o, none⟩), .pointer (some ⟨c, p, none⟩), .pointer (some ⟨d, q, none⟩), .pointer (some ⟨b, r, none⟩)] w (RetLeft b o (addModN x y m) w) := by
  have Hz := Lib.hid hz
  have Hf := Lib.hid fz
  have Hx := Lib.hid hx
  have Hy := Lib.hid hy
  have Hm := Lib.hid hm
  have hn : (m.d != 0#64) = false := by simp [h0]
  clear h0
  obtain ⟨x0, x1, x2, x3⟩ := hx
  obtain ⟨y0, y1, y2, y3⟩ := hy
  obtain ⟨m0, m1, m2, m3⟩ := hm
  clear hz fz
  go_enter Try.func20, Try.ntmps20
  go_wp2
  go_quiet (fail)
  clear x0 x1 x2 x3 y0 y1 y2 y3 m0 m1 m2 m3
  go_upto_if 48 with fail
  refine wp_cond_false rfl (wp_skip ?_)
  rename_i hK
  refine hK _ _ ?_
  cases zm : m.isZ
  · exact slow_nz Hz.out.lt (bel_drewN (bel_refl w) nq) (Hz.out.drewN nq) (Hf.out.drewN nq) (Hx.out.drewN nq) (Hy.out.drewN nq) (Hm.out.drewN nq) sx sy sm zm _ _ _ _ _ _ _ _ _ _ _ _ _ _ _ _ _ _ _ _ _ _ _ _ _ _ _
  · exact slow_zero Hz.out.lt (bel_drewN (bel_refl w) nq) (Hz.out.drewN nq) (Hf.out.drewN nq) (Hm.out.drewN nq) zm _ _ _ _ _ _ _ _ _ _ _ _ _ _ _ _ _ _ _ _ _ _ _ _ _ _ _
set_option maxHeartbeats 4000000 in
theorem addMod_s2 (b o c p d q r : Nat) (z x y m : N4) (w : World) (hz : At4 w b o z) (fz : Free4 w b o) (hx : At4 w c p x) (hy : At4 w d q y) (hm : At4 w b r m) (sx : Sep b o c p) (sy : Sep b o d q) (sm : Sep b o b r) (h0 : m.d ≠ 0#64) (h1 : ¬ x.d ≤ m.d) (zm : m.isZ = false) :
    Calls Try.prog 20 #[.pointer (some ⟨b, o, none⟩), .pointer (some ⟨c, p, none⟩), .pointer (some ⟨d, q, none⟩), .pointer (some ⟨b, r, none⟩)] w (RetLeft b o (addModN x y m) w) := by
  have Hz := Lib.hid hz
  have Hf := Lib.hid fz
  have Hx := Lib.hid hx
  have Hy := Lib.hid hy
  have Hm := Lib.hid hm
  have hn : (m.d != 0#64) = true := by simp [h0]
  have h1n : decide (x.d ≤ m.d) = false := decide_eq_false h1
  clear h0 h1
  obtain ⟨x0, x1, x2, x3⟩ := hx
  obtain ⟨y0, y1, y2, y3⟩ := hy
  obtain ⟨m0, m1, m2, m3⟩ := hm
  clear hz fz
  go_enter Try.func20, Try.ntmps20
  go_wp2
  go_quiet (fail)
  clear x0 x1 x2 x3 y0 y1 y2 y3 m0 m1 m2 m3
  go_upto_if 48 with fail
  refine wp_cond_false rfl (wp_skip ?_)
  rename_i hK
  refine hK _ _ ?_
  exact slow_nz Hz.out.lt (bel_drewN (bel_refl w) nq) (Hz.out.drewN nq) (Hf.out.drewN nq) (Hx.out.drewN nq) (Hy.out.drewN nq) (Hm.out.drewN nq) sx sy sm zm _ _ _ _ _ _ _ _ _ _ _ _ _ _ _ _ _ _ _ _ _ _ _ _ _ _ _
set_option maxHeartbeats 4000000 in
theorem addMod_s3 (b o c p d q r : Nat) (z x y m : N4) (w : World) (hz : At4 w b o z) (fz : Free4 w b o) (hx : At4 w c p x) (hy : At4 w d q y) (hm : At4 w b r m) (sx : Sep b o c p) (sy : Sep b o d q) (sm : Sep b o b r) (h0 : m.d ≠ 0#64) (h1 : x.d ≤ m.d) (h2 : ¬ y.d ≤ m.d) (zm : m.isZ = false) :
    Calls Try.prog 20 #[.pointer (some ⟨b, o, none⟩), .pointer (some ⟨c, p, none⟩), .pointer (some ⟨d, q, none⟩), .pointer (some ⟨b, r, none⟩)] w (RetLeft b o (addModN x y m) w) := by
  have Hz := Lib.hid hz
  have Hf := Lib.hid fz
  have Hx := Lib.hid hx
  have Hy := Lib.hid hy
  have Hm := Lib.hid hm
  have hn : (m.d != 0#64) = true := by simp [h0]
  have h2n : decide (y.d ≤ m.d) = false := decide_eq_false h2
  clear h0 h2
  obtain ⟨x0, x1, x2, x3⟩ := hx
  obtain ⟨y0, y1, y2, y3⟩ := hy
  obtain ⟨m0, m1, m2, m3⟩ := hm
  clear hz fz
  go_enter Try.func20, Try.ntmps20
  go_wp2
  go_quiet (fail)
  clear x0 x1 x2 x3 y0 y1 y2 y3 m0 m1 m2 m3
  go_upto_if 48 with fail
  refine wp_cond_false rfl (wp_skip ?_)
  rename_i hK
  refine hK _ _ ?_
  exact slow_nz Hz.out.lt (bel_drewN (bel_refl w) nq) (Hz.out.drewN nq) (Hf.out.drewN nq) (Hx.out.drewN nq) (Hy.out.drewN nq) (Hm.out.drewN nq) sx sy sm zm _ _ _ _ _ _ _ _ _ _ _ _ _ _ _ _ _ _ _ _ _ _ _ _ _ _ _
theorem addMod_any (b o c p d q r : Nat) (z x y m : N4) (w : World) (hz : At4 w b o z) (fz : Free4 w b o) (hx : At4 w c p x) (hy : At4 w d q y) (hm : At4 w b r m) (sx : Sep b o c p) (sy : Sep b o d q) (sm : Sep b o b r) :
    Calls Try.prog 20 #[.pointer (some ⟨b, o, none⟩), .pointer (some ⟨c, p, none⟩), .pointer (some ⟨d, q, none⟩), .pointer (some ⟨b, r, none⟩)] w (RetLeft b o (addModN x y m) w) := by
  by_cases h0 : m.d = 0#64
  · exact addMod_s1 b o c p d q r z x y m w hz fz hx hy hm sx sy sm h0
  · have zm : m.isZ = false := by
      cases k : m.isZ with
      | false => rfl
      | true =>
        have e := (isZ_iff m).1 k
        have := below_two m m h0 (BitVec.le_refl _)
        omega
    by_cases h1 : x.d ≤ m.d
    · by_cases h2 : y.d ≤ m.d
      · exact addMod_fast b o c p d q b r z x y m w hz fz hx hy hm h0 h1 h2
      · exact addMod_s3 b o c p d q r z x y m w hz fz hx hy hm sx sy sm h0 h1 h2 zm
    · exact addMod_s2 b o c p d q r z x y m w hz fz hx hy hm sx sy sm h0 h1 zm
end Go.Proofs.Ytpjljjajnfoccaa
