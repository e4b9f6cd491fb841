/-
  For every three numbers: 1 and 0 modulo 2 are 1; where the sum of x and y is below 2^256, AddMod gives Mod of the sum (the statement FnAddModRoadsSaid, no conditions).
-/
import Derived.Test.YtpjljjajnfoccaaOpen
import Derived.Test.YtpjljjajnfoccaaLawOps
import Derived.Test.YtpjljjajnfoccaaDesk8
import Derived.Test.YtpjljjajnfoccaaRegion2
import Derived.Test.YtpjljjajnfoccaaHeldM
import Derived.Test.YtpjljjajnfoccaaImpl0
import Derived.Test.YtpjljjajnfoccaaArith
import Derived.Test.YtpjljjajnfoccaaSpec3
import Derived.Test.YtpjljjajnfoccaaDig6
import Derived.Test.YtpjljjajnfoccaaEql
import Derived.Test.YtpjljjajnfoccaaDeskG
import Derived.Test.YtpjljjajnfoccaaAddMod2
/-
  The contracts of the laws' own helpers addable and mullable.
-/
namespace Go.Proofs.Ytpjljjajnfoccaa
open Go.RowKit
set_option linter.unusedVariables false
set_option linter.unusedSimpArgs false
set_option maxHeartbeats 1000000 in
theorem addable_law (x y : N4) (q : Bool) (hq : Hid (decide (x.toNat + y.toNat < 2 ^ 256) = q)) (w : World) : Calls Try.prog 14 #[x.v, y.v] w (RetBel (.bool q) w) := by
  have SF0 : ∀ v L (w : World), Dg w v (x.toNat + y.toNat) L → L ≤ 100 → Calls Try.prog 28 #[v] w fun e w' => e = .returned (.bool q) ∧ w = w' := fun v L w h hL => by
    rw [← hq.out]; exact fits_dg v _ L w h (by omega)
  have SF := Lib.hid SF0
  clear SF0 hq
  go_enter Try.func14, Try.ntmps14
  go_wp2
  go_region_held3 (Keeps (w.heap.size + 2) ((w.alloc (Obj.cells #[V x.a, V x.b, V x.c, V x.d] 26)).alloc (Obj.cells #[V y.a, V y.b, V y.c, V y.d] 26))) (first | assumption | exact Keeps.start _ _ | exact Keeps.step (by assumption) (by simp) hb | exact Keeps.step (by assumption) (by simp) hba | exact Keeps.step (by assumption) (by simp) hbb)
    (first | (go_at_call 25; (with_reducible refine (whole_dg x _).mono ?_); rintro e w1 ⟨va, rfl, Da, hba⟩) | (go_at_call 25; (with_reducible refine (whole_dg y _).mono ?_); rintro e w1 ⟨vb, rfl, Db, hbb⟩) | (go_at_call 24; (with_reducible refine (plus_dg _ _ _ _ _ _ _ (Da.bel hbb) Db (by omega) (by omega)).mono ?_); rintro e w1 ⟨vc, rfl, Dc, hb⟩) | (go_at_call 28; (with_reducible refine (SF.out _ _ _ Dc (by omega)).mono ?_); rintro e w1 ⟨rfl, rfl⟩))
  go_wp2
  go_ret
  exact retBel rfl ((‹Keeps _ _ _›).bel (by omega) (bel_alloc (bel_alloc (bel_refl w) _) _))
end Go.Proofs.Ytpjljjajnfoccaa
/-
  Inequality of numbers by value, as the model runs it.
-/
namespace Go.Proofs.Ytpjljjajnfoccaa
open Go.RowKit
set_option maxHeartbeats 1000000 in
theorem neq_num (x y : N4) (w : World) : (binOp .neq 26 x.v y.v).run Try.prog w = .ok (.bool (!x.eqb y)) w := by
  have key : ∀ q0 q1 q2 q3 : Bool, (x.a == y.a) = q0 → (x.b == y.b) = q1 → (x.c == y.c) = q2 → (x.d == y.d) = q3 → (binOp .neq 26 x.v y.v).run Try.prog w = .ok (.bool (!(q0 && q1 && q2 && q3))) w := by
    intro q0 q1 q2 q3 e0 e1 e2 e3
    cases q0 <;> cases q1 <;> cases q2 <;> cases q3 <;> go_simp
  exact key _ _ _ _ rfl rfl rfl rfl
theorem neq_num0 (x : N4) (w : World) : (binOp .neq 26 (.agg #[V x.a, V x.b, V x.c, V x.d]) (.agg #[.int .u64 0, .int .u64 0, .int .u64 0, .int .u64 0])).run Try.prog w = .ok (.bool (!x.eqb ⟨0#64, 0#64, 0#64, 0#64⟩)) w := neq_num x ⟨0#64, 0#64, 0#64, 0#64⟩ w
attribute [go_sem ↓] neq_num neq_num0
end Go.Proofs.Ytpjljjajnfoccaa
/-
  The contract of the thin package's AddMod over cells.
-/
namespace Go.Proofs.Ytpjljjajnfoccaa
open Go.RowKit
set_option linter.unusedVariables false

set_option maxHeartbeats 1000000 in
theorem implAddMod_any (k : W4) (c : C4) (w : World) (hk : k.ok) : Calls Try.prog 7 #[k.v, c.v] w (RetBel (ansV (c.put (ix k.z) (addModN (c.get (ix k.x)) (c.get (ix k.y)) (c.get (ix k.m)))) false) w) := by
  go_enter Try.func7, Try.ntmps7
  go_wp2_with fail
  refine (open_any k c _ hk).mono ?_
  rintro e w1 ⟨d, bc, rfl, hd, hbc, desk, hb⟩
  have hres : w1.there (w.heap.size + 2) 0 17 := there_bel (there_at _ _ _ _ _ (Nat.le_refl _) (by simp)) (by omega) hb
  have hbel : Below w.heap.size w w1 := bel_trans (bel_alloc (bel_alloc (bel_alloc (bel_refl w) _) _) _) hb
  have hge : w.heap.size ≤ bc := by simp at hbc; omega
  clear hb hd hbc
  obtain ⟨p0, p1, p2, p3, p4⟩ := desk.ptrs
  go_wp2_with fail
  go_region_held3 (fun w' => w'.cell? ⟨d, 1, none⟩ = some (.pointer (some ⟨bc, off4 k.z, none⟩)) ∧ w'.cell? ⟨d, 2, none⟩ = some (.pointer (some ⟨bc, off4 k.x, none⟩)) ∧ w'.cell? ⟨d, 3, none⟩ = some (.pointer (some ⟨bc, off4 k.y, none⟩)) ∧ w'.cell? ⟨d, 4, none⟩ = some (.pointer (some ⟨bc, off4 k.m, none⟩))) (first | exact ⟨p1, p2, p3, p4⟩ | exact ⟨cl.p1, cl.p2, cl.p3, cl.p4⟩)
    (first | (go_at_call 20; refine (left_of_left (addMod_any bc (off4 k.z) bc (off4 k.x) bc (off4 k.y) (off4 k.m) _ _ _ _ _ ((desk.drewN 1).cells.at k.z) ((desk.drewN 1).cells.free k.z) ((desk.drewN 1).cells.at k.x) ((desk.drewN 1).cells.at k.y) ((desk.drewN 1).cells.at k.m) (sep_off _ _ _) (sep_off _ _ _) (sep_off _ _ _))).mono ?_; rintro e w2 hR; obtain ⟨hv, hcl⟩ := hR; subst hv; have cl := (hcl.desk (desk.drewN 1)).ptrs))
  have D2 := Lib.hid (hcl.desk (desk.drewN 1))
  have hres2 := hcl.there (there_drewN hres 1) (by omega)
  have hbel2 := hcl.bel' (bel_drewN hbel 1) hge
  clear cl desk p0 p1 p2 p3 p4 hcl
  go_wp2_with fail
  refine (answer_any d bc k _ false _ D2.out).mono ?_
  rintro e w3 ⟨rfl, hb3⟩
  have hres3 := there_bel hres2 (by omega) hb3
  have hbel3 := bel_trans hbel2 hb3
  go_wp2_with (refine wpList_store_mid rfl 31 _ _ rfl (w.heap.size + 2) 0 ((c.put (ix k.z) (addModN (c.get (ix k.x)) (c.get (ix k.y)) (c.get (ix k.m)))).l ++ [Value.bool false]).toArray rfl rfl hres3 (by kernel_rfl) (by simp [Value.oneCell']) ?_)
  refine bodyPost_ret (v := ansV (c.put (ix k.z) (addModN (c.get (ix k.x)) (c.get (ix k.y)) (c.get (ix k.m)))) false) (results_cell_mid rfl _ _ (w.heap.size + 2) ((c.put (ix k.z) (addModN (c.get (ix k.x)) (c.get (ix k.y)) (c.get (ix k.m)))).l ++ [Value.bool false]) _ rfl (World.rangeAt_setCells_same w3 (w.heap.size + 2) 0 ((c.put (ix k.z) (addModN (c.get (ix k.x)) (c.get (ix k.y)) (c.get (ix k.m)))).l ++ [Value.bool false]) hres3) Try.underlying31 rfl (by kernel_rfl)) rfl (retBel rfl ?_)
  exact setCells_bel hbel3 (by omega)
end Go.Proofs.Ytpjljjajnfoccaa
/-
  A region with stores of long values: a block that holds a list of cells.
-/
namespace Go.Proofs.Ytpjljjajnfoccaa
open Go.RowKit
set_option linter.unusedVariables false
/-- Block B holds the cells l, from its start. -/
structure AtL (w : World) (B : Nat) (l : List Value) : Prop where
  lt : B < w.heap.size
  cells : w.rangeAt B 0 l
theorem AtL.bel {a b : World} {B : Nat} {l : List Value} (h : AtL a B l) (k : Below a.heap.size a b) : AtL b B l := ⟨Nat.lt_of_lt_of_le h.lt k.size, rangeAt_bel h.cells k⟩
theorem AtL.setNew {w : World} {g : Nat} {l : List Value} (h : w.there g 0 l.length) (hl : 0 < l.length) : AtL (w.setCells g 0 l) g l := by
  refine ⟨?_, World.rangeAt_setCells_same w g 0 l h⟩
  rw [setCells_size]
  obtain ⟨v0, hv0⟩ := Option.isSome_iff_exists.1 (h 0 hl).1
  exact World.block_lt_of_cell? w _ hv0
theorem AtL.setFar4 {w : World} {b g k : Nat} {l cs : List Value} (h : AtL w b l) (hne : b ≠ g) : AtL (w.setCells g k cs) b l := ⟨by rw [setCells_size]; exact h.lt, rangeAt_far h.cells hne⟩
/-- The first number of an answer, and its flag. -/
theorem AtL.ansA {w : World} {B : Nat} {C : C4} {f : Bool} (h : AtL w B (C.l ++ [Value.bool f])) : At4 w B 0 C.a := ⟨h.cells 0 _ rfl, h.cells 1 _ rfl, h.cells 2 _ rfl, h.cells 3 _ rfl⟩
theorem AtL.ansF {w : World} {B : Nat} {C : C4} {f : Bool} (h : AtL w B (C.l ++ [Value.bool f])) : w.cell? ⟨B, 16, none⟩ = some (.bool f) := by
  have := h.cells 16 _ rfl
  simpa using this
theorem slot_ev {t : Array Value} {d : List Deferred} {i : Nat} {v : Value} (h : t[i]? = some v) : Act.eval ⟨t, d⟩ (.tmp i) = v := by
  simp [Act.eval, h]
theorem slot_eva {a : Act} {i : Nat} {v : Value} (h : a.tmps[i]? = some v) : a.eval (.tmp i) = v := by
  simp [Act.eval, h]
end Go.Proofs.Ytpjljjajnfoccaa
namespace Go.Proofs.Ytpjljjajnfoccaa.fnAddModRoads
open Go.ChangeShapes Go.WideShapes Go.ChangeAt Go.RowKit
set_option linter.unusedVariables false
set_option linter.unusedSimpArgs false

attribute [local go_sem ↓] fldAns fldA
theorem roads_law (x y m : N4) (h : x.toNat + y.toNat < 2 ^ 256) : remN (x.add y) m = addModN x y m := by
  cases zm : m.isZ with
  | true =>
    have e := (isZ_iff m).1 zm
    unfold remN addModN
    rw [if_pos e, if_pos e]
  | false => exact slow_no x y m zm (by rw [addc_eq]; exact decide_eq_false (by omega))
theorem put_fresh2 (f : N4 → N4 → N4) (a b : N4) : C4.put (xyC a b) (ix freshW.z) (f ((xyC a b).get (ix freshW.x)) ((xyC a b).get (ix freshW.y))) = ⟨f a b, a, b, nulN⟩ := rfl
theorem put_fresh3 (f : N4 → N4 → N4 → N4) (a b c : N4) : C4.put ⟨nulN, a, b, c⟩ (ix freshW.z) (f (C4.get ⟨nulN, a, b, c⟩ (ix freshW.x)) (C4.get ⟨nulN, a, b, c⟩ (ix freshW.y)) (C4.get ⟨nulN, a, b, c⟩ (ix freshW.m))) = ⟨f a b c, a, b, c⟩ := rfl
theorem one_law' : addModN ⟨1#64, 0#64, 0#64, 0#64⟩ nulN ⟨2#64, 0#64, 0#64, 0#64⟩ = ⟨1#64, 0#64, 0#64, 0#64⟩ := by
  unfold addModN
  rw [if_neg (by decide)]
  apply toNat_inj
  rw [ofN_toNat]
  rfl
theorem at4_belB {a b : World} {B c o : Nat} {x : N4} (h : At4 a c o x) (k : Below B a b) (hc : c < B) : At4 b c o x :=
  ⟨(k.cell (p := ⟨c, o, none⟩) hc).trans h.c0, (k.cell (p := ⟨c, o + 1, none⟩) hc).trans h.c1, (k.cell (p := ⟨c, o + 2, none⟩) hc).trans h.c2, (k.cell (p := ⟨c, o + 3, none⟩) hc).trans h.c3⟩
theorem run_load_op {P : Program} {op : Oper} {a : Act} (ty : TypeId) (x : Operand) (ho : op.op = .load ty x) (b o : Nat) (hx : a.eval x = .pointer (some ⟨b, o, none⟩)) (cs : List Value) {d : TypeDesc}
    (hu : P.underlying ty = some d) (hd : d.isRow = true) (hi : (P.info? ty).map (·.size) = some cs.length) (w : World) (hc : w.rangeAt b o cs) : (execOp a.eval op).run P w = .ok (.value (.agg cs.toArray)) w := by
  unfold execOp
  simp only [ho, hx, Instr.loadAt, Instr.sureAddr, Sem.run_bind, Sem.run_pure, Result.andThen_ok, run_loadVar_mid w b o ty cs d hc hu hd hi]
set_option maxRecDepth 20000 in
set_option maxHeartbeats 8000000 in
theorem walk (x y m : N4) (w : World) : Calls Try.prog 4 #[x.v, y.v, m.v] w (RetBel (.bool true) w) := by
  have M0 : Hid (∀ w, Calls Try.prog 7 #[freshW.v, .agg #[.int .u64 0, .int .u64 0, .int .u64 0, .int .u64 0, .int .u64 1, .int .u64 0, .int .u64 0, .int .u64 0, .int .u64 0, .int .u64 0, .int .u64 0, .int .u64 0, .int .u64 2, .int .u64 0, .int .u64 0, .int .u64 0]] w (RetBel (ansV ⟨⟨1#64, 0#64, 0#64, 0#64⟩, ⟨1#64, 0#64, 0#64, 0#64⟩, nulN, ⟨2#64, 0#64, 0#64, 0#64⟩⟩ false) w)) := fun w => by
    have h := implAddMod_any freshW ⟨nulN, ⟨1#64, 0#64, 0#64, 0#64⟩, nulN, ⟨2#64, 0#64, 0#64, 0#64⟩⟩ w freshW_ok
    rw [put_fresh3 addModN, one_law'] at h
    exact h
  have g1 : N4.eqb ⟨1#64, 0#64, 0#64, 0#64⟩ ⟨1#64, 0#64, 0#64, 0#64⟩ = true := eqb_self _
  have MU := Lib.hid (fun q hq w => addable_law x y q hq w)
  have M1 : Hid (∀ w, Calls Try.prog 16 #[x.v, y.v] w (RetBel (N4.v (x.add y)) w)) := fun w => add_law x y w
  obtain ⟨z, hz⟩ : ∃ z, z = addModN x y m := ⟨_, rfl⟩
  obtain ⟨p, hp⟩ : ∃ p, p = x.add y := ⟨_, rfl⟩
  have hr : x.toNat + y.toNat < 2 ^ 256 → remN p m = z := fun h => by rw [hp, hz]; exact roads_law x y m h
  rw [← hp] at M1
  clear hp
  have D1 : Hid (x.toNat + y.toNat < 2 ^ 256 → ∀ w, Calls Try.prog 15 #[freshW.v, .agg #[.int .u64 0, .int .u64 0, .int .u64 0, .int .u64 0, V p.a, V p.b, V p.c, V p.d, V m.a, V m.b, V m.c, V m.d, .int .u64 0, .int .u64 0, .int .u64 0, .int .u64 0]] w (RetBel (ansV ⟨z, p, m, nulN⟩ false) w)) := fun h2 w => by
    have h := implMod_any freshW (xyC p m) w freshW_ok
    rw [put_fresh2 remN, hr h2] at h
    exact h
  have MD : Hid (∀ w, Calls Try.prog 7 #[freshW.v, .agg #[.int .u64 0, .int .u64 0, .int .u64 0, .int .u64 0, V x.a, V x.b, V x.c, V x.d, V y.a, V y.b, V y.c, V y.d, V m.a, V m.b, V m.c, V m.d]] w (RetBel (ansV ⟨z, x, y, m⟩ false) w)) := fun w => by
    have h := implAddMod_any freshW ⟨nulN, x, y, m⟩ w freshW_ok
    rw [put_fresh3 addModN, ← hz] at h
    exact h
  have g2 : Hid (z.eqb z = true) := eqb_self z
  clear hz hr
  go_enter Try.func4, Try.ntmps4
  go_wp2_with fail
  refine (fresh_any _).mono ?_
  rintro e w0 ⟨rfl, hb0⟩
  go_wp2_with fail
  refine (M0.out _).mono ?_
  rintro e w1 ⟨rfl, hb1⟩
  have hsz : ((((w.alloc (Obj.cells #[V x.a, V x.b, V x.c, V x.d] 26)).alloc (Obj.cells #[V y.a, V y.b, V y.c, V y.d] 26)).alloc (Obj.cells #[V m.a, V m.b, V m.c, V m.d] 26))).heap.size = w.heap.size + 3 := by simp
  have hk : Below (w.heap.size + 3) (((w.alloc (Obj.cells #[V x.a, V x.b, V x.c, V x.d] 26)).alloc (Obj.cells #[V y.a, V y.b, V y.c, V y.d] 26)).alloc (Obj.cells #[V m.a, V m.b, V m.c, V m.d] 26)) w1 := (hb0.mono (by rw [hsz]; exact Nat.le_refl _)).trans (hb1.mono (by have := hb0.size; omega))
  clear hsz
  have hx1 := Lib.hid (at4_belB (a := (((w.alloc (Obj.cells #[V x.a, V x.b, V x.c, V x.d] 26)).alloc (Obj.cells #[V y.a, V y.b, V y.c, V y.d] 26)).alloc (Obj.cells #[V m.a, V m.b, V m.c, V m.d] 26))) (c := w.heap.size) (o := 0) (x := x) (by constructor <;> simp [go_sem]) hk (by omega))
  have hy1 := Lib.hid (at4_belB (a := (((w.alloc (Obj.cells #[V x.a, V x.b, V x.c, V x.d] 26)).alloc (Obj.cells #[V y.a, V y.b, V y.c, V y.d] 26)).alloc (Obj.cells #[V m.a, V m.b, V m.c, V m.d] 26))) (c := w.heap.size + 1) (o := 0) (x := y) (by constructor <;> simp [go_sem]) hk (by omega))
  have hm1 := Lib.hid (at4_belB (a := (((w.alloc (Obj.cells #[V x.a, V x.b, V x.c, V x.d] 26)).alloc (Obj.cells #[V y.a, V y.b, V y.c, V y.d] 26)).alloc (Obj.cells #[V m.a, V m.b, V m.c, V m.d] 26))) (c := w.heap.size + 1 + 1) (o := 0) (x := m) (by constructor <;> simp [go_sem]) hk (by omega))
  have bel1 : Hid (Below w.heap.size w w1) := (bel_alloc (bel_alloc (bel_alloc (bel_refl w) _) _) _).trans (hk.mono (by omega))
  clear hk hb0 hb1
  obtain ⟨m0, m1, m2, m3⟩ := hm1.out
  obtain ⟨x0, x1, x2, x3⟩ := hx1.out
  obtain ⟨y0, y1, y2, y3⟩ := hy1.out
  simp only [Nat.zero_add] at x1 x2 x3 y1 y2 y3 m1 m2 m3
  by_cases hs : x.toNat + y.toNat < 2 ^ 256
  case neg =>
    have hq : Hid (decide (x.toNat + y.toNat < 2 ^ 256) = false) := decide_eq_false hs
    have MQ := Lib.hid (MU.out false hq)
    clear hs MU hq MD D1
    go_wp2_with fail
    refine (MQ.out _).mono ?_
    rintro e w2 ⟨rfl, hb2⟩
    go_wp2
    go_ret
    exact retBel rfl (bel_trans bel1.out hb2)
  have hq : Hid (decide (x.toNat + y.toNat < 2 ^ 256) = true) := decide_eq_true hs
  have MQ := Lib.hid (MU.out true hq)
  have D1 := Lib.hid (D1.out hs)
  clear hs MU hq
  go_wp2_with fail
  refine (MQ.out _).mono ?_
  rintro e w2 ⟨rfl, hb2⟩
  have hx2 := Lib.hid (hx1.out.bel hb2)
  have hy2 := Lib.hid (hy1.out.bel hb2)
  have hm2 := Lib.hid (hm1.out.bel hb2)
  have bel2 := Lib.hid (bel_trans bel1.out hb2)
  clear x0 x1 x2 x3 y0 y1 y2 y3 m0 m1 m2 m3 hx1 hy1 hm1 hb2 bel1
  obtain ⟨m0, m1, m2, m3⟩ := hm2.out
  obtain ⟨x0, x1, x2, x3⟩ := hx2.out
  obtain ⟨y0, y1, y2, y3⟩ := hy2.out
  simp only [Nat.zero_add] at x1 x2 x3 y1 y2 y3 m1 m2 m3
  have hth : (w2.alloc (Obj.cells #[.int .u64 0, .int .u64 0, .int .u64 0, .int .u64 0, .int .u64 0, .int .u64 0, .int .u64 0, .int .u64 0, .int .u64 0, .int .u64 0, .int .u64 0, .int .u64 0, .int .u64 0, .int .u64 0, .int .u64 0, .int .u64 0] 28)).there w2.heap.size 0 16 := there_at _ _ _ _ _ (by simp) (by simp [go_sem])
  have CC := Lib.hid (AtL.setNew (l := [.int .u64 0, .int .u64 0, .int .u64 0, .int .u64 0, V x.a, V x.b, V x.c, V x.d, V y.a, V y.b, V y.c, V y.d, V m.a, V m.b, V m.c, V m.d]) hth (by simp))
  have hx3 := Lib.hid ((hx2.out.alloc (Obj.cells #[.int .u64 0, .int .u64 0, .int .u64 0, .int .u64 0, .int .u64 0, .int .u64 0, .int .u64 0, .int .u64 0, .int .u64 0, .int .u64 0, .int .u64 0, .int .u64 0, .int .u64 0, .int .u64 0, .int .u64 0, .int .u64 0] 28)).setFar4 (g := w2.heap.size) (k := 0) (cs := [.int .u64 0, .int .u64 0, .int .u64 0, .int .u64 0, V x.a, V x.b, V x.c, V x.d, V y.a, V y.b, V y.c, V y.d, V m.a, V m.b, V m.c, V m.d]) (by have := hx2.out.lt; omega))
  have hy3 := Lib.hid ((hy2.out.alloc (Obj.cells #[.int .u64 0, .int .u64 0, .int .u64 0, .int .u64 0, .int .u64 0, .int .u64 0, .int .u64 0, .int .u64 0, .int .u64 0, .int .u64 0, .int .u64 0, .int .u64 0, .int .u64 0, .int .u64 0, .int .u64 0, .int .u64 0] 28)).setFar4 (g := w2.heap.size) (k := 0) (cs := [.int .u64 0, .int .u64 0, .int .u64 0, .int .u64 0, V x.a, V x.b, V x.c, V x.d, V y.a, V y.b, V y.c, V y.d, V m.a, V m.b, V m.c, V m.d]) (by have := hy2.out.lt; omega))
  have hm3 := Lib.hid ((hm2.out.alloc (Obj.cells #[.int .u64 0, .int .u64 0, .int .u64 0, .int .u64 0, .int .u64 0, .int .u64 0, .int .u64 0, .int .u64 0, .int .u64 0, .int .u64 0, .int .u64 0, .int .u64 0, .int .u64 0, .int .u64 0, .int .u64 0, .int .u64 0] 28)).setFar4 (g := w2.heap.size) (k := 0) (cs := [.int .u64 0, .int .u64 0, .int .u64 0, .int .u64 0, V x.a, V x.b, V x.c, V x.d, V y.a, V y.b, V y.c, V y.d, V m.a, V m.b, V m.c, V m.d]) (by have := hm2.out.lt; omega))
  have belw := setCells_bel (B := w2.heap.size) (o := 0) (vs := [.int .u64 0, .int .u64 0, .int .u64 0, .int .u64 0, V x.a, V x.b, V x.c, V x.d, V y.a, V y.b, V y.c, V y.d, V m.a, V m.b, V m.c, V m.d]) (bel_alloc bel2.out (Obj.cells #[.int .u64 0, .int .u64 0, .int .u64 0, .int .u64 0, .int .u64 0, .int .u64 0, .int .u64 0, .int .u64 0, .int .u64 0, .int .u64 0, .int .u64 0, .int .u64 0, .int .u64 0, .int .u64 0, .int .u64 0, .int .u64 0] 28)) bel2.out.size
  have lgc : w2.heap.size < ((w2.alloc (Obj.cells #[.int .u64 0, .int .u64 0, .int .u64 0, .int .u64 0, .int .u64 0, .int .u64 0, .int .u64 0, .int .u64 0, .int .u64 0, .int .u64 0, .int .u64 0, .int .u64 0, .int .u64 0, .int .u64 0, .int .u64 0, .int .u64 0] 28)).setCells w2.heap.size 0 [.int .u64 0, .int .u64 0, .int .u64 0, .int .u64 0, V x.a, V x.b, V x.c, V x.d, V y.a, V y.b, V y.c, V y.d, V m.a, V m.b, V m.c, V m.d]).heap.size := by rw [setCells_size]; simp
  clear hx2 hy2 hm2 bel2
  go_upto_region 6 with (refine wpList_store_mid rfl 28 _ _ rfl w2.heap.size 0 (List.toArray [.int .u64 0, .int .u64 0, .int .u64 0, .int .u64 0, V x.a, V x.b, V x.c, V x.d, V y.a, V y.b, V y.c, V y.d, V m.a, V m.b, V m.c, V m.d]) rfl rfl hth (by kernel_rfl) (by simp [Value.oneCell']) ?_)
  clear hth x0 x1 x2 x3 y0 y1 y2 y3 m0 m1 m2 m3
  generalize (w2.alloc (Obj.cells #[.int .u64 0, .int .u64 0, .int .u64 0, .int .u64 0, .int .u64 0, .int .u64 0, .int .u64 0, .int .u64 0, .int .u64 0, .int .u64 0, .int .u64 0, .int .u64 0, .int .u64 0, .int .u64 0, .int .u64 0, .int .u64 0] 28)).setCells w2.heap.size 0 [.int .u64 0, .int .u64 0, .int .u64 0, .int .u64 0, V x.a, V x.b, V x.c, V x.d, V y.a, V y.b, V y.c, V y.d, V m.a, V m.b, V m.c, V m.d] = W at *
  generalize w2.heap.size = gc at *
  have lx := hx3.out.lt
  have ly := hy3.out.lt
  have lm := hm3.out.lt
  have HCL := CC.out.cells
  obtain ⟨m0, m1, m2, m3⟩ := hm3.out
  obtain ⟨x0, x1, x2, x3⟩ := hx3.out
  obtain ⟨y0, y1, y2, y3⟩ := hy3.out
  simp only [Nat.zero_add] at x1 x2 x3 y1 y2 y3 m1 m2 m3
  have g3 := g2.out
  clear hx3 hy3 hm3 CC g1
  simp only [Act.put]
  refine wp_region_noPanic ?_
  refine wp_region_held_drew (S := (Keeps (World.heap W).size W)) (by kernel_rfl) (by exact Keeps.start _ _) (fun hHeld => ?_)
  refine hm_take (i := 1) (v := (C4.mk nulN x y m).v) rfl rfl (by kernel_rfl) (by kernel_rfl) (by kernel_rfl) (fun _ _ _ h => h) rfl ?_ (by assumption) ?_
  · (intro wS hSw; exact run_load_op 28 _ rfl gc 0 rfl [.int .u64 0, .int .u64 0, .int .u64 0, .int .u64 0, V x.a, V x.b, V x.c, V x.d, V y.a, V y.b, V y.c, V y.d, V m.a, V m.b, V m.c, V m.d] Try.underlying28 rfl (by kernel_rfl) _ (fun j v hj => (hSw.1 _ _ lgc).trans (HCL j v hj)))
  try simp only [Act.put, List.setIfInBounds_toArray, List.set_cons_zero, List.set_cons_succ]
  refine hm_take (i := 6) (v := ?_) rfl rfl (by kernel_rfl) (by kernel_rfl) (by kernel_rfl) (fun _ _ _ h => h) rfl ?_ (by assumption) ?_
  rotate_left
  · (intro w hSw; (try dsimp only at hSw); go_simp; try with_reducible rfl)
  try simp only [Act.put, List.setIfInBounds_toArray, List.set_cons_zero, List.set_cons_succ]
  refine hm_take (i := 7) (v := ?_) rfl rfl (by kernel_rfl) (by kernel_rfl) (by kernel_rfl) (fun _ _ _ h => h) rfl ?_ (by assumption) ?_
  rotate_left
  · (intro w hSw; (try dsimp only at hSw); go_simp; try with_reducible rfl)
  try simp only [Act.put, List.setIfInBounds_toArray, List.set_cons_zero, List.set_cons_succ]
  refine hm_take (i := 9) (v := ?_) rfl rfl (by kernel_rfl) (by kernel_rfl) (by kernel_rfl) (fun _ _ _ h => h) rfl ?_ (by assumption) ?_
  rotate_left
  · (intro w hSw; (try dsimp only at hSw); go_simp; try with_reducible rfl)
  try simp only [Act.put, List.setIfInBounds_toArray, List.set_cons_zero, List.set_cons_succ]
  refine hm_call (i := 0) rfl (by kernel_rfl) rfl (fun K hK => ?_)
  go_simp
  (go_at_call 13; refine (fresh_any _).mono ?_; rintro e w1 ⟨rfl, hb⟩)
  (try go_wp2_with fail)
  refine hK.out _ _ (by (try dsimp only); first | assumption | exact Keeps.step (by assumption) (Nat.le_refl _) hb) (fun hHeld => ?_)
  clear hK K
  try simp only [Act.put, List.setIfInBounds_toArray, List.set_cons_zero, List.set_cons_succ]
  refine hm_call (i := 2) rfl (by kernel_rfl) rfl (fun K hK => ?_)
  go_simp
  (go_at_call 7; refine (MD.out _).mono ?_; rintro e w1 ⟨rfl, hb⟩)
  (try go_wp2_with fail)
  refine hK.out _ _ (by (try dsimp only); first | assumption | exact Keeps.step (by assumption) (Nat.le_refl _) hb) (fun hHeld => ?_)
  clear hK K
  try simp only [Act.put, List.setIfInBounds_toArray, List.set_cons_zero, List.set_cons_succ]
  refine hm_take (i := 3) (v := ?_) rfl rfl (by kernel_rfl) (by kernel_rfl) (by kernel_rfl) (fun _ _ _ h => h) rfl ?_ (by assumption) ?_
  rotate_left
  · (intro w hSw; (try dsimp only at hSw); go_simp; try with_reducible rfl)
  try simp only [Act.put, List.setIfInBounds_toArray, List.set_cons_zero, List.set_cons_succ]
  refine hm_take (i := 4) (v := ?_) rfl rfl (by kernel_rfl) (by kernel_rfl) (by kernel_rfl) (fun _ _ _ h => h) rfl ?_ (by assumption) ?_
  rotate_left
  · (intro w hSw; (try dsimp only at hSw); go_simp; try with_reducible rfl)
  try simp only [Act.put, List.setIfInBounds_toArray, List.set_cons_zero, List.set_cons_succ]
  refine hm_call (i := 5) rfl (by kernel_rfl) rfl (fun K hK => ?_)
  go_simp
  (go_at_call 13; refine (fresh_any _).mono ?_; rintro e w1 ⟨rfl, hb⟩)
  (try go_wp2_with fail)
  refine hK.out _ _ (by (try dsimp only); first | assumption | exact Keeps.step (by assumption) (Nat.le_refl _) hb) (fun hHeld => ?_)
  clear hK K
  try simp only [Act.put, List.setIfInBounds_toArray, List.set_cons_zero, List.set_cons_succ]
  refine hm_call (i := 8) rfl (by kernel_rfl) rfl (fun K hK => ?_)
  go_simp
  (go_at_call 16; refine (M1.out _).mono ?_; rintro e w1 ⟨rfl, hb⟩)
  (try go_wp2_with fail)
  refine hK.out _ _ (by (try dsimp only); first | assumption | exact Keeps.step (by assumption) (Nat.le_refl _) hb) (fun hHeld => ?_)
  clear hK K
  try simp only [Act.put, List.setIfInBounds_toArray, List.set_cons_zero, List.set_cons_succ]
  refine hm_take (i := 10) (v := ?_) rfl rfl (by kernel_rfl) (by kernel_rfl) (by kernel_rfl) (fun _ _ _ h => h) rfl ?_ (by assumption) ?_
  rotate_left
  · (intro w hSw; (try dsimp only at hSw); go_simp; try with_reducible rfl)
  try simp only [Act.put, List.setIfInBounds_toArray, List.set_cons_zero, List.set_cons_succ]
  refine hm_call (i := 11) rfl (by kernel_rfl) rfl (fun K hK => ?_)
  go_simp
  (go_at_call 15; refine (D1.out _).mono ?_; rintro e w1 ⟨rfl, hb⟩)
  (try go_wp2_with fail)
  refine hK.out _ _ (by (try dsimp only); first | assumption | exact Keeps.step (by assumption) (Nat.le_refl _) hb) (fun hHeld => ?_)
  clear hK K
  try simp only [Act.put, List.setIfInBounds_toArray, List.set_cons_zero, List.set_cons_succ]
  refine hm_take (i := 12) (v := ?_) rfl rfl (by kernel_rfl) (by kernel_rfl) (by kernel_rfl) (fun _ _ _ h => h) rfl ?_ (by assumption) ?_
  rotate_left
  · (intro w hSw; (try dsimp only at hSw); go_simp; try with_reducible rfl)
  try simp only [Act.put, List.setIfInBounds_toArray, List.set_cons_zero, List.set_cons_succ]
  refine hm_take (i := 13) (v := ?_) rfl rfl (by kernel_rfl) (by kernel_rfl) (by kernel_rfl) (fun _ _ _ h => h) rfl ?_ (by assumption) ?_
  rotate_left
  · (intro w hSw; (try dsimp only at hSw); go_simp; try with_reducible rfl)
  try simp only [Act.put, List.setIfInBounds_toArray, List.set_cons_zero, List.set_cons_succ]
  refine hm_take (i := 14) (v := ?_) rfl rfl (by kernel_rfl) (by kernel_rfl) (by kernel_rfl) (fun _ _ _ h => h) rfl ?_ (by assumption) ?_
  rotate_left
  · (intro w hSw; (try dsimp only at hSw); go_simp; try with_reducible rfl)
  try simp only [Act.put, List.setIfInBounds_toArray, List.set_cons_zero, List.set_cons_succ]
  refine hm_take (i := 15) (v := ?_) rfl rfl (by kernel_rfl) (by kernel_rfl) (by kernel_rfl) (fun _ _ _ h => h) rfl ?_ (by assumption) ?_
  rotate_left
  · (intro w hSw; (try dsimp only at hSw); go_simp; try with_reducible rfl)
  try simp only [Act.put, List.setIfInBounds_toArray, List.set_cons_zero, List.set_cons_succ]
  refine wpAnyH_done (by kernel_rfl) ?_ _
  refine NoPanic.normal ?_
  go_wp2
  go_ret
  exact retBel rfl ((‹Keeps _ _ _›).bel belw.size belw)

set_option maxRecDepth 100000 in
theorem lifted (os : Os) (started : os.Started) (H : Type) (enc : TypeId × Value → H) :
    ReturnsInHanded {} Try.checked os 4 .any (Rows.fnAddModRoadsSpec.pre6 enc Try.prog Try.f4 Rows.fnAddModRoadsRow.domain false) (Rows.fnAddModRoadsSpec.post enc Try.prog Try.f4 false true false false) := by
  refine returnsInHanded_of_change (C := Try.checked) Try.own started (by kernel_rfl) Try.func4
    (ChangeSpec.witness6 (enc := enc) (C := Try.checked) false ⟨#[], #[.agg #[.int .u64 0, .int .u64 0, .int .u64 0, .int .u64 0], .agg #[.int .u64 0, .int .u64 0, .int .u64 0, .int .u64 0], .agg #[.int .u64 0, .int .u64 0, .int .u64 0, .int .u64 0]], []⟩ 8 (by kernel_rfl) (by kernel_rfl) (by kernel_rfl) (by kernel_rfl)) ?_
  intro W base args ds gs before hval0 hW hcnd _
  have hval : ∀ (j : Nat) t v, Try.f4.params[j]? = some t → args[j]? = some v → Value.okWide Try.prog W .any base t v := hval0
  have hW' := hW
  obtain ⟨p, q, hA0, hV, rfl, hfz, hnd⟩ := hW
  have hA : DataW.TrodAll enc Try.prog W 0 (fun _ => true) true Try.f4.params.toList args.toList ds p := hA0
  rw [Try.params4] at hA hval
  obtain ⟨v0, vs0, d0, ds0, p0, q0, hargs, rfl, rfl, h0, r0⟩ := trodAll_cons hA
  obtain ⟨v1, vs1, d1, ds1, p1, q1, rfl, rfl, rfl, h1, r1⟩ := trodAll_cons r0
  obtain ⟨v2, vs2, d2, ds2, p2, q2, rfl, rfl, rfl, h2, r2⟩ := trodAll_cons r1
  obtain ⟨rfl, rfl, rfl⟩ := trodAll_nil r2
  obtain rfl : args = #[v0, v1, v2] := by cases args; simp_all
  obtain ⟨rfl, rfl⟩ := trodVars_none hV
  have k0 := h0
  have lt0 : ∀ x ∈ p0, x.block < W.heap.size := by obtain ⟨m, hm⟩ := k0; exact DataW.trod_lt m _ _ _ hm
  obtain ⟨x0, rfl⟩ := open_num (hval 0 26 v0 rfl rfl)
  have k1 := h1
  have lt1 : ∀ x ∈ p1, x.block < W.heap.size := by obtain ⟨m, hm⟩ := k1; exact DataW.trod_lt m _ _ _ hm
  obtain ⟨x1, rfl⟩ := open_num (hval 1 26 v1 rfl rfl)
  have k2 := h2
  have lt2 : ∀ x ∈ p2, x.block < W.heap.size := by obtain ⟨m, hm⟩ := k2; exact DataW.trod_lt m _ _ _ hm
  obtain ⟨x2, rfl⟩ := open_num (hval 2 26 v2 rfl rfl)
  clear hA0 hval0
  refine (walk x0 x1 x2 W).mono fun e W' ⟨he, bel⟩ => ?_
  subst he
  exact ⟨_, rfl, _, _, _, [], _, [], hW', trodAll_mk1 (shut_bool Try.underlying4 _), (trodAll_cons_mk (Below.trod Try.laidOut (by kernel_rfl) (of_decide_eq_true (by kernel_rfl)) k0 bel lt0) (trodAll_cons_mk (Below.trod Try.laidOut (by kernel_rfl) (of_decide_eq_true (by kernel_rfl)) k1 bel lt1) (trodAll_cons_mk (Below.trod Try.laidOut (by kernel_rfl) (of_decide_eq_true (by kernel_rfl)) k2 bel lt2) trodAll_mk0))), rfl, bel.frame _, fun h => by cases h⟩

theorem holds : Rows.FnAddModRoadsSaid :=
  OpenClaim.holds_of_wide 4 Try.f4 rfl rfl rfl rfl rfl rfl rfl ⟨rfl, rfl, rfl, rfl, rfl⟩ rfl rfl rfl rfl rfl (by kernel_rfl) Try.func4 (by kernel_rfl)
    (of_decide_eq_true (by kernel_rfl)) (by unfold Func.isWrapper; first | (rw [if_pos (by decide +kernel)]; kernel_rfl) | (rw [if_neg (by decide +kernel)]; exact ⟨rfl, rfl⟩))
    (fun os started H enc _ => lifted os started H enc)
#print axioms holds
end Go.Proofs.Ytpjljjajnfoccaa.fnAddModRoads
