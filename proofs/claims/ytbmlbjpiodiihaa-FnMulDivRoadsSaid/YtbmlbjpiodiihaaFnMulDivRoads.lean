/-
  For every three numbers: x times 1 by 1 is x; where m is not 0 and the product of x and y is below 2^256, MulDivOverflow gives Div of the product, without overflow (the statement FnMulDivRoadsSaid, no conditions).
-/
import Derived.Test.YtbmlbjpiodiihaaOpen
import Derived.Test.YtbmlbjpiodiihaaLawOpsMul
import Derived.Test.YtbmlbjpiodiihaaDesk8
import Derived.Test.YtbmlbjpiodiihaaRegion2
import Derived.Test.YtbmlbjpiodiihaaImpl0
import Derived.Test.YtbmlbjpiodiihaaArith
import Derived.Test.YtbmlbjpiodiihaaSpec3
import Derived.Test.YtbmlbjpiodiihaaDig6
import Derived.Test.YtbmlbjpiodiihaaEql
import Derived.Test.YtbmlbjpiodiihaaDesk9
import Derived.Test.YtbmlbjpiodiihaaMulDiv
import Derived.Test.YtbmlbjpiodiihaaDeskG
import Derived.Test.YtbmlbjpiodiihaaBase
/-
  The contracts of the laws' own helpers addable and mullable.
-/
namespace Go.Proofs.Ytbmlbjpiodiihaa
set_option maxRecDepth 20000
open Go.RowKit
set_option linter.unusedVariables false
set_option linter.unusedSimpArgs false
set_option maxHeartbeats 1000000 in
theorem addable_law (x y : N4) (q : Bool) (hq : Hid (decide (x.toNat + y.toNat < 2 ^ 256) = q)) (w : World) : Calls Try.prog 19 #[x.v, y.v] w (RetBel (.bool q) w) := by
  have SF0 : ∀ v L (w : World), Dg w v (x.toNat + y.toNat) L → L ≤ 100 → Calls Try.prog 49 #[v] w fun e w' => e = .returned (.bool q) ∧ w = w' := fun v L w h hL => by
    rw [← hq.out]; exact fits_dg v _ L w h (by omega)
  have SF := Lib.hid SF0
  clear SF0 hq
  go_enter Try.func19, Try.ntmps19
  go_wp2
  go_region_held3 (Keeps (w.heap.size + 2) ((w.alloc (Obj.cells #[V x.a, V x.b, V x.c, V x.d] 26)).alloc (Obj.cells #[V y.a, V y.b, V y.c, V y.d] 26))) (first | assumption | exact Keeps.start _ _ | exact Keeps.step (by assumption) (by simp) hb | exact Keeps.step (by assumption) (by simp) hba | exact Keeps.step (by assumption) (by simp) hbb)
    (first | (go_at_call 47; (with_reducible refine (whole_dg x _).mono ?_); rintro e w1 ⟨va, rfl, Da, hba⟩) | (go_at_call 47; (with_reducible refine (whole_dg y _).mono ?_); rintro e w1 ⟨vb, rfl, Db, hbb⟩) | (go_at_call 46; (with_reducible refine (plus_dg _ _ _ _ _ _ _ (Da.bel hbb) Db (by omega) (by omega)).mono ?_); rintro e w1 ⟨vc, rfl, Dc, hb⟩) | (go_at_call 49; (with_reducible refine (SF.out _ _ _ Dc (by omega)).mono ?_); rintro e w1 ⟨rfl, rfl⟩))
  go_wp2
  go_ret
  exact retBel rfl ((‹Keeps _ _ _›).bel (by omega) (bel_alloc (bel_alloc (bel_refl w) _) _))
set_option maxHeartbeats 1000000 in
theorem mullable_law (x y : N4) (q : Bool) (hq : Hid (decide (x.toNat * y.toNat < 2 ^ 256) = q)) (w : World) : Calls Try.prog 25 #[x.v, y.v] w (RetBel (.bool q) w) := by
  have SF0 : ∀ v L (w : World), Dg w v (x.toNat * y.toNat) L → L ≤ 100 → Calls Try.prog 49 #[v] w fun e w' => e = .returned (.bool q) ∧ w = w' := fun v L w h hL => by
    rw [← hq.out]; exact fits_dg v _ L w h (by omega)
  have SF := Lib.hid SF0
  clear SF0 hq
  go_enter Try.func25, Try.ntmps25
  go_wp2
  go_region_held3 (Keeps (w.heap.size + 2) ((w.alloc (Obj.cells #[V x.a, V x.b, V x.c, V x.d] 26)).alloc (Obj.cells #[V y.a, V y.b, V y.c, V y.d] 26))) (first | assumption | exact Keeps.start _ _ | exact Keeps.step (by assumption) (by simp) hb | exact Keeps.step (by assumption) (by simp) hba | exact Keeps.step (by assumption) (by simp) hbb)
    (first | (go_at_call 47; (with_reducible refine (whole_dg x _).mono ?_); rintro e w1 ⟨va, rfl, Da, hba⟩) | (go_at_call 47; (with_reducible refine (whole_dg y _).mono ?_); rintro e w1 ⟨vb, rfl, Db, hbb⟩) | (go_at_call 53; (with_reducible refine (times_dg _ _ _ _ _ _ _ (Da.bel hbb) Db (by omega) (by omega)).mono ?_); rintro e w1 ⟨vc, rfl, Dc, hb⟩) | (go_at_call 49; (with_reducible refine (SF.out _ _ _ Dc (by omega)).mono ?_); rintro e w1 ⟨rfl, rfl⟩))
  go_wp2
  go_ret
  exact retBel rfl ((‹Keeps _ _ _›).bel (by omega) (bel_alloc (bel_alloc (bel_refl w) _) _))
end Go.Proofs.Ytbmlbjpiodiihaa
/-
  Inequality of numbers by value, as the model runs it.
-/
namespace Go.Proofs.Ytbmlbjpiodiihaa
open Go.RowKit
set_option maxHeartbeats 1000000 in
theorem neq_num (x y : N4) (w : World) : (binOp .neq 26 x.v y.v).run Try.prog w = .ok (.bool (!x.eqb y)) w := by
  have key : ∀ q0 q1 q2 q3 : Bool, (x.a == y.a) = q0 → (x.b == y.b) = q1 → (x.c == y.c) = q2 → (x.d == y.d) = q3 → (binOp .neq 26 x.v y.v).run Try.prog w = .ok (.bool (!(q0 && q1 && q2 && q3))) w := by
    intro q0 q1 q2 q3 e0 e1 e2 e3
    cases q0 <;> cases q1 <;> cases q2 <;> cases q3 <;> go_simp
  exact key _ _ _ _ rfl rfl rfl rfl
theorem neq_num0 (x : N4) (w : World) : (binOp .neq 26 (.agg #[V x.a, V x.b, V x.c, V x.d]) (.agg #[.int .u64 0, .int .u64 0, .int .u64 0, .int .u64 0])).run Try.prog w = .ok (.bool (!x.eqb ⟨0#64, 0#64, 0#64, 0#64⟩)) w := neq_num x ⟨0#64, 0#64, 0#64, 0#64⟩ w
attribute [go_sem ↓] neq_num neq_num0
end Go.Proofs.Ytbmlbjpiodiihaa
/-
  The contract of the thin package's MulDivOverflow over cells.
-/
namespace Go.Proofs.Ytbmlbjpiodiihaa
open Go.RowKit
set_option linter.unusedVariables false

set_option maxHeartbeats 1000000 in
theorem implMulDivOverflow_any (k : W4) (c : C4) (w : World) (hk : k.ok) : Calls Try.prog 22 #[k.v, c.v] w (RetBel (ansV (c.put (ix k.z) (ofN (mulDivT (c.get (ix k.x)) (c.get (ix k.y)) (c.get (ix k.m))))) (mulDivC (c.get (ix k.x)) (c.get (ix k.y)) (c.get (ix k.m)))) w) := by
  go_enter Try.func22, Try.ntmps22
  go_wp2_with fail
  refine (open_any k c _ hk).mono ?_
  rintro e w1 ⟨d, bc, rfl, hd, hbc, desk, hb⟩
  have hres : w1.there (w.heap.size + 2) 0 17 := there_bel (there_at _ _ _ _ _ (Nat.le_refl _) (by simp)) (by omega) hb
  have hbel : Below w.heap.size w w1 := bel_trans (bel_alloc (bel_alloc (bel_alloc (bel_refl w) _) _) _) hb
  have hge : w.heap.size ≤ bc := by simp at hbc; omega
  clear hb hd hbc
  obtain ⟨p0, p1, p2, p3, p4⟩ := desk.ptrs
  go_wp2_with fail
  go_region_held3 (fun w' => w'.cell? ⟨d, 1, none⟩ = some (.pointer (some ⟨bc, off4 k.z, none⟩)) ∧ w'.cell? ⟨d, 2, none⟩ = some (.pointer (some ⟨bc, off4 k.x, none⟩)) ∧ w'.cell? ⟨d, 3, none⟩ = some (.pointer (some ⟨bc, off4 k.y, none⟩)) ∧ w'.cell? ⟨d, 4, none⟩ = some (.pointer (some ⟨bc, off4 k.m, none⟩))) (first | exact ⟨p1, p2, p3, p4⟩ | exact ⟨cl.p1, cl.p2, cl.p3, cl.p4⟩)
    (first | (go_at_call 52; refine (left_of_leftB (mulDivInt_c bc (off4 k.z) bc (off4 k.x) bc (off4 k.y) bc (off4 k.m) _ _ _ _ _ ((desk.drewN 1).cells.at k.z) ((desk.drewN 1).cells.free k.z) ((desk.drewN 1).cells.at k.x) ((desk.drewN 1).cells.at k.y) ((desk.drewN 1).cells.at k.m))).mono ?_; rintro e w2 hR; obtain ⟨hv, hcl⟩ := hR; subst hv; have cl := (hcl.desk (desk.drewN 1)).ptrs))
  have D2 := Lib.hid (hcl.desk (desk.drewN 1))
  have hres2 := hcl.there (there_drewN hres 1) (by omega)
  have hbel2 := hcl.bel' (bel_drewN hbel 1) hge
  clear cl desk p0 p1 p2 p3 p4 hcl
  go_wp2_with fail
  refine (answer_any d bc k _ (mulDivC (c.get (ix k.x)) (c.get (ix k.y)) (c.get (ix k.m))) _ D2.out).mono ?_
  rintro e w3 ⟨rfl, hb3⟩
  have hres3 := there_bel hres2 (by omega) hb3
  have hbel3 := bel_trans hbel2 hb3
  go_wp2_with (refine wpList_store_mid rfl 31 _ _ rfl (w.heap.size + 2) 0 ((c.put (ix k.z) (ofN (mulDivT (c.get (ix k.x)) (c.get (ix k.y)) (c.get (ix k.m))))).l ++ [Value.bool (mulDivC (c.get (ix k.x)) (c.get (ix k.y)) (c.get (ix k.m)))]).toArray rfl rfl hres3 (by kernel_rfl) (by simp [Value.oneCell']) ?_)
  refine bodyPost_ret (v := ansV (c.put (ix k.z) (ofN (mulDivT (c.get (ix k.x)) (c.get (ix k.y)) (c.get (ix k.m))))) (mulDivC (c.get (ix k.x)) (c.get (ix k.y)) (c.get (ix k.m)))) (results_cell_mid rfl _ _ (w.heap.size + 2) ((c.put (ix k.z) (ofN (mulDivT (c.get (ix k.x)) (c.get (ix k.y)) (c.get (ix k.m))))).l ++ [Value.bool (mulDivC (c.get (ix k.x)) (c.get (ix k.y)) (c.get (ix k.m)))]) _ rfl (World.rangeAt_setCells_same w3 (w.heap.size + 2) 0 ((c.put (ix k.z) (ofN (mulDivT (c.get (ix k.x)) (c.get (ix k.y)) (c.get (ix k.m))))).l ++ [Value.bool (mulDivC (c.get (ix k.x)) (c.get (ix k.y)) (c.get (ix k.m)))]) hres3) Try.underlying31 rfl (by kernel_rfl)) rfl (retBel rfl ?_)
  exact setCells_bel hbel3 (by omega)
end Go.Proofs.Ytbmlbjpiodiihaa
/-
  A region with stores of long values: a block that holds a list of cells.
-/
namespace Go.Proofs.Ytbmlbjpiodiihaa
open Go.RowKit
set_option linter.unusedVariables false
/-- Block B holds the cells l, from its start. -/
structure AtL (w : World) (B : Nat) (l : List Value) : Prop where
  lt : B < w.heap.size
  cells : w.rangeAt B 0 l
theorem AtL.bel {a b : World} {B : Nat} {l : List Value} (h : AtL a B l) (k : Below a.heap.size a b) : AtL b B l := ⟨Nat.lt_of_lt_of_le h.lt k.size, rangeAt_bel h.cells k⟩
theorem AtL.setNew {w : World} {g : Nat} {l : List Value} (h : w.there g 0 l.length) (hl : 0 < l.length) : AtL (w.setCells g 0 l) g l := by
  refine ⟨?_, World.rangeAt_setCells_same w g 0 l h⟩
  rw [setCells_size]
  obtain ⟨v0, hv0⟩ := Option.isSome_iff_exists.1 (h 0 hl).1
  exact World.block_lt_of_cell? w _ hv0
theorem AtL.setFar4 {w : World} {b g k : Nat} {l cs : List Value} (h : AtL w b l) (hne : b ≠ g) : AtL (w.setCells g k cs) b l := ⟨by rw [setCells_size]; exact h.lt, rangeAt_far h.cells hne⟩
/-- The first number of an answer, and its flag. -/
theorem AtL.ansA {w : World} {B : Nat} {C : C4} {f : Bool} (h : AtL w B (C.l ++ [Value.bool f])) : At4 w B 0 C.a := ⟨h.cells 0 _ rfl, h.cells 1 _ rfl, h.cells 2 _ rfl, h.cells 3 _ rfl⟩
theorem AtL.ansF {w : World} {B : Nat} {C : C4} {f : Bool} (h : AtL w B (C.l ++ [Value.bool f])) : w.cell? ⟨B, 16, none⟩ = some (.bool f) := by
  have := h.cells 16 _ rfl
  simpa using this
theorem slot_ev {t : Array Value} {d : List Deferred} {i : Nat} {v : Value} (h : t[i]? = some v) : Act.eval ⟨t, d⟩ (.tmp i) = v := by
  simp [Act.eval, h]
theorem slot_eva {a : Act} {i : Nat} {v : Value} (h : a.tmps[i]? = some v) : a.eval (.tmp i) = v := by
  simp [Act.eval, h]
end Go.Proofs.Ytbmlbjpiodiihaa
/-
  A drawn region walked by hand in the text's order: operations that yield, operations whose guard is false, calls.
-/
namespace Go.Proofs.Ytbmlbjpiodiihaa
open Go.RowKit
set_option linter.unusedVariables false
section
variable {P : Program} {ops : Array Oper} {Q : Exit → Act → World → Prop} {md : Region.Mode} {S : World → Prop}
theorem of_list {i : Nat} {oi : Oper} (h : ops.toList[i]? = some oi) : ops[i]? = some oi := by simpa using h
theorem hm_take {i d : Nat} {oi : Oper} {v : Value} {fuel : Nat} {listed : Array Bool} {a : Act} {w : World} (hi : ops.toList[i]? = some oi) (hd : oi.dst = some d)
    (hs : Region.noSelect ops = true) (hf : Region.free md ops listed i = true) (hr : (Region.ready md ops listed).contains i = true)
    (hQ : ∀ c a w, Q (.panic c) (a.put (some d) v) w → Q (.panic c) a w) (hw : Region.wanted oi (yielded ops a.tmps) = true) (hy : ∀ w, S w → (execOp a.eval oi).run P w = .ok (.value v) w) (hS : S w)
    (h : wpAnyH P md ops Q S fuel (listed.setIfInBounds i true) (a.put (some d) v) w) : wpAnyH P md ops Q S (fuel + 1) listed a w :=
  wpAnyH_take (of_list hi) hs hf hr (by rw [hd]; exact hQ) (.inl ⟨hw, hy⟩) hS (by rw [hd]; exact h)
theorem hm_skip {i d : Nat} {oi : Oper} {fuel : Nat} {listed : Array Bool} {a : Act} {w : World} (hi : ops.toList[i]? = some oi) (hd : oi.dst = some d)
    (hs : Region.noSelect ops = true) (hf : Region.free md ops listed i = true) (hr : (Region.ready md ops listed).contains i = true)
    (hQ : ∀ c a w, Q (.panic c) (a.put (some d) undef) w → Q (.panic c) a w) (hw : Region.wanted oi (yielded ops a.tmps) = false) (hS : S w)
    (h : wpAnyH P md ops Q S fuel (listed.setIfInBounds i true) (a.put (some d) undef) w) : wpAnyH P md ops Q S (fuel + 1) listed a w :=
  wpAnyH_take (of_list hi) hs hf hr (by rw [hd]; exact hQ) (.inr ⟨hw, rfl⟩) hS (by rw [hd]; exact h)
theorem hm_call {i : Nat} {oi : Oper} {fuel : Nat} {listed : Array Bool} {a : Act} {w : World} (hi : ops.toList[i]? = some oi) (hr : Region.ready md ops listed = [i]) (hw : Region.wanted oi (yielded ops a.tmps) = true)
    (h : ∀ K' : Act → World → Prop, Shut (∀ a w, S w → (S w → wpAnyH P md ops Q S fuel (listed.setIfInBounds i true) a w) → K' a w) → Oper.wp P oi a w K' Q) : wpAnyH P md ops Q S (fuel + 1) listed a w :=
  wpAnyH_ready hr (by simp) (AllReadyH.cons (of_list hi) (fun K' hK => by rw [if_pos hw]; exact h K' hK) AllReadyH.nil)
end
end Go.Proofs.Ytbmlbjpiodiihaa
namespace Go.Proofs.Ytbmlbjpiodiihaa.fnMulDivRoads
open Go.ChangeShapes Go.WideShapes Go.ChangeAt Go.RowKit
set_option linter.unusedVariables false
set_option linter.unusedSimpArgs false

attribute [local go_sem ↓] fldAns fldA
theorem roads_law (x y m : N4) (hm : 0 < m.toNat) (h : x.toNat * y.toNat < 2 ^ 256) : mulDivC x y m = false ∧ ofN (mulDivT x y m) = ofN ((x.mul y).toNat / m.toNat) := by
  unfold mulDivC mulDivT
  rw [mul_toNat, Nat.mod_eq_of_lt h]
  refine ⟨decide_eq_false ?_, rfl⟩
  have := Nat.div_le_self (x.toNat * y.toNat) m.toNat
  omega
theorem at4_belB {a b : World} {B c o : Nat} {x : N4} (h : At4 a c o x) (k : Below B a b) (hc : c < B) : At4 b c o x :=
  ⟨(k.cell (p := ⟨c, o, none⟩) hc).trans h.c0, (k.cell (p := ⟨c, o + 1, none⟩) hc).trans h.c1, (k.cell (p := ⟨c, o + 2, none⟩) hc).trans h.c2, (k.cell (p := ⟨c, o + 3, none⟩) hc).trans h.c3⟩
theorem arrayN53 {l : Array Value} (h : l.size = 53) : ∃ x0 x1 x2 x3 x4 x5 x6 x7 x8 x9 x10 x11 x12 x13 x14 x15 x16 x17 x18 x19 x20 x21 x22 x23 x24 x25 x26 x27 x28 x29 x30 x31 x32 x33 x34 x35 x36 x37 x38 x39 x40 x41 x42 x43 x44 x45 x46 x47 x48 x49 x50 x51 x52, l = #[x0, x1, x2, x3, x4, x5, x6, x7, x8, x9, x10, x11, x12, x13, x14, x15, x16, x17, x18, x19, x20, x21, x22, x23, x24, x25, x26, x27, x28, x29, x30, x31, x32, x33, x34, x35, x36, x37, x38, x39, x40, x41, x42, x43, x44, x45, x46, x47, x48, x49, x50, x51, x52] := by
  obtain ⟨l⟩ := l
  have h0 : l.length = 52 + 1 := h
  clear h
  obtain ⟨x0, l1, rfl, h1⟩ := cons_of h0
  obtain ⟨x1, l2, rfl, h2⟩ := cons_of h1
  obtain ⟨x2, l3, rfl, h3⟩ := cons_of h2
  obtain ⟨x3, l4, rfl, h4⟩ := cons_of h3
  obtain ⟨x4, l5, rfl, h5⟩ := cons_of h4
  obtain ⟨x5, l6, rfl, h6⟩ := cons_of h5
  obtain ⟨x6, l7, rfl, h7⟩ := cons_of h6
  obtain ⟨x7, l8, rfl, h8⟩ := cons_of h7
  obtain ⟨x8, l9, rfl, h9⟩ := cons_of h8
  obtain ⟨x9, l10, rfl, h10⟩ := cons_of h9
  obtain ⟨x10, l11, rfl, h11⟩ := cons_of h10
  obtain ⟨x11, l12, rfl, h12⟩ := cons_of h11
  obtain ⟨x12, l13, rfl, h13⟩ := cons_of h12
  obtain ⟨x13, l14, rfl, h14⟩ := cons_of h13
  obtain ⟨x14, l15, rfl, h15⟩ := cons_of h14
  obtain ⟨x15, l16, rfl, h16⟩ := cons_of h15
  obtain ⟨x16, l17, rfl, h17⟩ := cons_of h16
  obtain ⟨x17, l18, rfl, h18⟩ := cons_of h17
  obtain ⟨x18, l19, rfl, h19⟩ := cons_of h18
  obtain ⟨x19, l20, rfl, h20⟩ := cons_of h19
  obtain ⟨x20, l21, rfl, h21⟩ := cons_of h20
  obtain ⟨x21, l22, rfl, h22⟩ := cons_of h21
  obtain ⟨x22, l23, rfl, h23⟩ := cons_of h22
  obtain ⟨x23, l24, rfl, h24⟩ := cons_of h23
  obtain ⟨x24, l25, rfl, h25⟩ := cons_of h24
  obtain ⟨x25, l26, rfl, h26⟩ := cons_of h25
  obtain ⟨x26, l27, rfl, h27⟩ := cons_of h26
  obtain ⟨x27, l28, rfl, h28⟩ := cons_of h27
  obtain ⟨x28, l29, rfl, h29⟩ := cons_of h28
  obtain ⟨x29, l30, rfl, h30⟩ := cons_of h29
  obtain ⟨x30, l31, rfl, h31⟩ := cons_of h30
  obtain ⟨x31, l32, rfl, h32⟩ := cons_of h31
  obtain ⟨x32, l33, rfl, h33⟩ := cons_of h32
  obtain ⟨x33, l34, rfl, h34⟩ := cons_of h33
  obtain ⟨x34, l35, rfl, h35⟩ := cons_of h34
  obtain ⟨x35, l36, rfl, h36⟩ := cons_of h35
  obtain ⟨x36, l37, rfl, h37⟩ := cons_of h36
  obtain ⟨x37, l38, rfl, h38⟩ := cons_of h37
  obtain ⟨x38, l39, rfl, h39⟩ := cons_of h38
  obtain ⟨x39, l40, rfl, h40⟩ := cons_of h39
  obtain ⟨x40, l41, rfl, h41⟩ := cons_of h40
  obtain ⟨x41, l42, rfl, h42⟩ := cons_of h41
  obtain ⟨x42, l43, rfl, h43⟩ := cons_of h42
  obtain ⟨x43, l44, rfl, h44⟩ := cons_of h43
  obtain ⟨x44, l45, rfl, h45⟩ := cons_of h44
  obtain ⟨x45, l46, rfl, h46⟩ := cons_of h45
  obtain ⟨x46, l47, rfl, h47⟩ := cons_of h46
  obtain ⟨x47, l48, rfl, h48⟩ := cons_of h47
  obtain ⟨x48, l49, rfl, h49⟩ := cons_of h48
  obtain ⟨x49, l50, rfl, h50⟩ := cons_of h49
  obtain ⟨x50, l51, rfl, h51⟩ := cons_of h50
  obtain ⟨x51, l52, rfl, h52⟩ := cons_of h51
  obtain ⟨x52, l53, rfl, h53⟩ := cons_of h52
  cases l53 with
  | nil => exact ⟨x0, x1, x2, x3, x4, x5, x6, x7, x8, x9, x10, x11, x12, x13, x14, x15, x16, x17, x18, x19, x20, x21, x22, x23, x24, x25, x26, x27, x28, x29, x30, x31, x32, x33, x34, x35, x36, x37, x38, x39, x40, x41, x42, x43, x44, x45, x46, x47, x48, x49, x50, x51, x52, rfl⟩
  | cons a t => simp at h53
def VF6 (x : N4) (y : N4) (m : N4) (z : N4) (fl : Bool) (gc : Nat) : Nat → Value → World → Prop
  | 0, v, w => v = freshW.v
  | 1, v, w => v = .agg #[.int .u64 0, .int .u64 0, .int .u64 0, .int .u64 0, V x.a, V x.b, V x.c, V x.d, V y.a, V y.b, V y.c, V y.d, V m.a, V m.b, V m.c, V m.d]
  | 2, v, w => v = ansV ⟨z, x, y, m⟩ fl
  | 3, v, w => ∃ B, v = .pointer (some ⟨B, 0, none⟩) ∧ w.there B 0 17
  | 4, v, w => ∃ B, v = .pointer (some ⟨B, 0, none⟩) ∧ AtL w B ((C4.l ⟨z, x, y, m⟩ ++ [Value.bool fl]))
  | _, _, _ => False
theorem VF6_mono (x : N4) (y : N4) (m : N4) (z : N4) (fl : Bool) (gc : Nat) : ∀ j v w w', Below w.heap.size w w' → VF6 x y m z fl gc j v w → VF6 x y m z fl gc j v w' := by
  intro j v w w' hb h
  match j, h with
  | 0, h => exact h
  | 1, h => exact h
  | 2, h => exact h
  | 3, h => obtain ⟨B, rfl, h1⟩ := h; exact ⟨B, rfl, there_bel h1 (by omega) hb⟩
  | 4, h => obtain ⟨B, rfl, h1⟩ := h; exact ⟨B, rfl, AtL.bel h1 hb⟩
set_option maxRecDepth 20000 in
set_option maxHeartbeats 8000000 in
theorem walk (x y m : N4) (w : World) : Calls Try.prog 6 #[x.v, y.v, m.v] w (RetBel (.bool true) w) := by
  obtain ⟨f1, hf1⟩ : ∃ f, f = mulDivC x ⟨1#64, 0#64, 0#64, 0#64⟩ ⟨1#64, 0#64, 0#64, 0#64⟩ := ⟨_, rfl⟩
  have M0 : Hid (∀ w, Calls Try.prog 22 #[freshW.v, .agg #[.int .u64 0, .int .u64 0, .int .u64 0, .int .u64 0, V x.a, V x.b, V x.c, V x.d, .int .u64 1, .int .u64 0, .int .u64 0, .int .u64 0, .int .u64 1, .int .u64 0, .int .u64 0, .int .u64 0]] w (RetBel (ansV ⟨x, x, ⟨1#64, 0#64, 0#64, 0#64⟩, ⟨1#64, 0#64, 0#64, 0#64⟩⟩ f1) w)) := fun w => by
    have h := implMulDivOverflow_any freshW ⟨nulN, x, ⟨1#64, 0#64, 0#64, 0#64⟩, ⟨1#64, 0#64, 0#64, 0#64⟩⟩ w freshW_ok
    have e1 : mulDivT x ⟨1#64, 0#64, 0#64, 0#64⟩ ⟨1#64, 0#64, 0#64, 0#64⟩ = x.toNat := by
      unfold mulDivT
      rw [show N4.toNat ⟨1#64, 0#64, 0#64, 0#64⟩ = 1 from rfl, Nat.mul_one, Nat.div_one]
    have e2 : ofN (mulDivT x ⟨1#64, 0#64, 0#64, 0#64⟩ ⟨1#64, 0#64, 0#64, 0#64⟩) = x := by rw [e1, ofN_self]
    have e3 : (C4.put ⟨nulN, x, ⟨1#64, 0#64, 0#64, 0#64⟩, ⟨1#64, 0#64, 0#64, 0#64⟩⟩ (ix freshW.z) (ofN (mulDivT x ⟨1#64, 0#64, 0#64, 0#64⟩ ⟨1#64, 0#64, 0#64, 0#64⟩))) = ⟨x, x, ⟨1#64, 0#64, 0#64, 0#64⟩, ⟨1#64, 0#64, 0#64, 0#64⟩⟩ := by rw [e2]; rfl
    rw [hf1, ← e3]
    exact h
  have g1 : x.eqb x = true := eqb_self x
  have g0 : ∀ z : N4, z.eqb z = true := eqb_self
  have G0 := Lib.hid (g0 (ofN ((x.mul y).toNat / m.toNat)))
  clear g0
  have MU := Lib.hid (fun q hq w => mullable_law x y q hq w)
  have M1 : Hid (∀ w, Calls Try.prog 27 #[x.v, y.v] w (RetBel (N4.v (x.mul y)) w)) := fun w => mul_law x y w
  obtain ⟨p, hp⟩ : ∃ p, p = x.mul y := ⟨_, rfl⟩
  obtain ⟨z, hz⟩ : ∃ z, z = ofN (p.toNat / m.toNat) := ⟨_, rfl⟩
  obtain ⟨fl, hfl⟩ : ∃ fl, fl = false := ⟨_, rfl⟩
  have D1 : Hid (∀ w, Calls Try.prog 26 #[freshW.v, .agg #[.int .u64 0, .int .u64 0, .int .u64 0, .int .u64 0, V p.a, V p.b, V p.c, V p.d, V m.a, V m.b, V m.c, V m.d, .int .u64 0, .int .u64 0, .int .u64 0, .int .u64 0]] w (RetBel (ansV ⟨z, p, m, nulN⟩ false) w)) := fun w => by
    have h := implDiv_any freshW (xyC p m) w freshW_ok
    rw [hz]
    exact h
  have MD : Hid (0 < m.toNat → x.toNat * y.toNat < 2 ^ 256 → ∀ w, Calls Try.prog 22 #[freshW.v, .agg #[.int .u64 0, .int .u64 0, .int .u64 0, .int .u64 0, V x.a, V x.b, V x.c, V x.d, V y.a, V y.b, V y.c, V y.d, V m.a, V m.b, V m.c, V m.d]] w (RetBel (ansV ⟨z, x, y, m⟩ fl) w)) := fun h1 h2 w => by
    have h := implMulDivOverflow_any freshW ⟨nulN, x, y, m⟩ w freshW_ok
    obtain ⟨e1, e2⟩ := roads_law x y m h1 h2
    rw [hz, hp, hfl, ← e2]
    rw [← e1]
    exact h
  have G2 : Hid (z.eqb z = true) := eqb_self z
  rw [← hp] at M1
  clear hp hz G0
  clear hf1
  go_enter Try.func6, Try.ntmps6
  go_wp2
  go_region_held3 (Keeps (w.heap.size + 3) (((w.alloc (Obj.cells #[V x.a, V x.b, V x.c, V x.d] 26)).alloc (Obj.cells #[V y.a, V y.b, V y.c, V y.d] 26)).alloc (Obj.cells #[V m.a, V m.b, V m.c, V m.d] 26))) (first | exact Keeps.start _ _ | exact Keeps.step (by assumption) (by simp) hb)
    (first | (go_at_call 18; refine (fresh_any _).mono ?_; rintro e w1 ⟨rfl, hb⟩) | (go_at_call 22; refine (M0.out _).mono ?_; rintro e w1 ⟨rfl, hb⟩))
  have hk := ‹Keeps _ _ _›
  have hx1 := Lib.hid (at4_belB (a := (((w.alloc (Obj.cells #[V x.a, V x.b, V x.c, V x.d] 26)).alloc (Obj.cells #[V y.a, V y.b, V y.c, V y.d] 26)).alloc (Obj.cells #[V m.a, V m.b, V m.c, V m.d] 26))) (c := w.heap.size) (o := 0) (x := x) (by constructor <;> simp [go_sem]) hk.2 (by omega))
  have hy1 := Lib.hid (at4_belB (a := (((w.alloc (Obj.cells #[V x.a, V x.b, V x.c, V x.d] 26)).alloc (Obj.cells #[V y.a, V y.b, V y.c, V y.d] 26)).alloc (Obj.cells #[V m.a, V m.b, V m.c, V m.d] 26))) (c := w.heap.size + 1) (o := 0) (x := y) (by constructor <;> simp [go_sem]) hk.2 (by omega))
  have hm1 := Lib.hid (at4_belB (a := (((w.alloc (Obj.cells #[V x.a, V x.b, V x.c, V x.d] 26)).alloc (Obj.cells #[V y.a, V y.b, V y.c, V y.d] 26)).alloc (Obj.cells #[V m.a, V m.b, V m.c, V m.d] 26))) (c := w.heap.size + 1 + 1) (o := 0) (x := m) (by constructor <;> simp [go_sem]) hk.2 (by omega))
  have bel1 : Hid (Below w.heap.size w _) := hk.bel (by omega) (bel_alloc (bel_alloc (bel_alloc (bel_refl w) _) _) _)
  clear hk
  clear ‹Keeps _ _ _›
  obtain ⟨m0, m1, m2, m3⟩ := hm1.out
  obtain ⟨x0, x1, x2, x3⟩ := hx1.out
  obtain ⟨y0, y1, y2, y3⟩ := hy1.out
  simp only [Nat.zero_add] at x1 x2 x3 y1 y2 y3 m1 m2 m3
  cases hz : m.eqb ⟨0#64, 0#64, 0#64, 0#64⟩
  case true =>
    go_wp2
    go_ret
    exact retBel rfl bel1.out
  have hm0 : Hid (0 < m.toNat) := by
    rcases Nat.eq_zero_or_pos m.toNat with h | h
    · rw [eqb_zero, (isZ_iff m).2 h] at hz; cases hz
    · exact h
  by_cases hs : x.toNat * y.toNat < 2 ^ 256
  case neg =>
    have hq : Hid (decide (x.toNat * y.toNat < 2 ^ 256) = false) := decide_eq_false hs
    have MQ := Lib.hid (MU.out false hq)
    clear hs MU hq MD
    go_wp2_with fail
    refine (MQ.out _).mono ?_
    rintro e w2 ⟨rfl, hb2⟩
    go_wp2
    go_ret
    exact retBel rfl (bel_trans bel1.out hb2)
  have hq : Hid (decide (x.toNat * y.toNat < 2 ^ 256) = true) := decide_eq_true hs
  have MQ := Lib.hid (MU.out true hq)
  have MD := Lib.hid (MD.out hm0.out hs)
  clear hs MU hq hm0
  go_wp2_with fail
  refine (MQ.out _).mono ?_
  rintro e w2 ⟨rfl, hb2⟩
  have hx2 := Lib.hid (hx1.out.bel hb2)
  have hy2 := Lib.hid (hy1.out.bel hb2)
  have hm2 := Lib.hid (hm1.out.bel hb2)
  have bel2 := Lib.hid (bel_trans bel1.out hb2)
  clear x0 x1 x2 x3 y0 y1 y2 y3 m0 m1 m2 m3 hx1 hy1 hm1 hb2 bel1
  obtain ⟨m0, m1, m2, m3⟩ := hm2.out
  obtain ⟨x0, x1, x2, x3⟩ := hx2.out
  obtain ⟨y0, y1, y2, y3⟩ := hy2.out
  simp only [Nat.zero_add] at x1 x2 x3 y1 y2 y3 m1 m2 m3
  have hth : (w2.alloc (Obj.cells #[.int .u64 0, .int .u64 0, .int .u64 0, .int .u64 0, .int .u64 0, .int .u64 0, .int .u64 0, .int .u64 0, .int .u64 0, .int .u64 0, .int .u64 0, .int .u64 0, .int .u64 0, .int .u64 0, .int .u64 0, .int .u64 0] 28)).there w2.heap.size 0 16 := there_at _ _ _ _ _ (by simp) (by simp [go_sem])
  have CC := Lib.hid (AtL.setNew (l := [.int .u64 0, .int .u64 0, .int .u64 0, .int .u64 0, V x.a, V x.b, V x.c, V x.d, V y.a, V y.b, V y.c, V y.d, V m.a, V m.b, V m.c, V m.d]) hth (by simp))
  have hx3 := Lib.hid ((hx2.out.alloc (Obj.cells #[.int .u64 0, .int .u64 0, .int .u64 0, .int .u64 0, .int .u64 0, .int .u64 0, .int .u64 0, .int .u64 0, .int .u64 0, .int .u64 0, .int .u64 0, .int .u64 0, .int .u64 0, .int .u64 0, .int .u64 0, .int .u64 0] 28)).setFar4 (g := w2.heap.size) (k := 0) (cs := [.int .u64 0, .int .u64 0, .int .u64 0, .int .u64 0, V x.a, V x.b, V x.c, V x.d, V y.a, V y.b, V y.c, V y.d, V m.a, V m.b, V m.c, V m.d]) (by have := hx2.out.lt; omega))
  have hy3 := Lib.hid ((hy2.out.alloc (Obj.cells #[.int .u64 0, .int .u64 0, .int .u64 0, .int .u64 0, .int .u64 0, .int .u64 0, .int .u64 0, .int .u64 0, .int .u64 0, .int .u64 0, .int .u64 0, .int .u64 0, .int .u64 0, .int .u64 0, .int .u64 0, .int .u64 0] 28)).setFar4 (g := w2.heap.size) (k := 0) (cs := [.int .u64 0, .int .u64 0, .int .u64 0, .int .u64 0, V x.a, V x.b, V x.c, V x.d, V y.a, V y.b, V y.c, V y.d, V m.a, V m.b, V m.c, V m.d]) (by have := hy2.out.lt; omega))
  have hm3 := Lib.hid ((hm2.out.alloc (Obj.cells #[.int .u64 0, .int .u64 0, .int .u64 0, .int .u64 0, .int .u64 0, .int .u64 0, .int .u64 0, .int .u64 0, .int .u64 0, .int .u64 0, .int .u64 0, .int .u64 0, .int .u64 0, .int .u64 0, .int .u64 0, .int .u64 0] 28)).setFar4 (g := w2.heap.size) (k := 0) (cs := [.int .u64 0, .int .u64 0, .int .u64 0, .int .u64 0, V x.a, V x.b, V x.c, V x.d, V y.a, V y.b, V y.c, V y.d, V m.a, V m.b, V m.c, V m.d]) (by have := hm2.out.lt; omega))
  have belw := setCells_bel (B := w2.heap.size) (o := 0) (vs := [.int .u64 0, .int .u64 0, .int .u64 0, .int .u64 0, V x.a, V x.b, V x.c, V x.d, V y.a, V y.b, V y.c, V y.d, V m.a, V m.b, V m.c, V m.d]) (bel_alloc bel2.out (Obj.cells #[.int .u64 0, .int .u64 0, .int .u64 0, .int .u64 0, .int .u64 0, .int .u64 0, .int .u64 0, .int .u64 0, .int .u64 0, .int .u64 0, .int .u64 0, .int .u64 0, .int .u64 0, .int .u64 0, .int .u64 0, .int .u64 0] 28)) bel2.out.size
  clear hx2 hy2 hm2 bel2
  go_upto_region 6 with (refine wpList_store_mid rfl 28 _ _ rfl w2.heap.size 0 (List.toArray [.int .u64 0, .int .u64 0, .int .u64 0, .int .u64 0, V x.a, V x.b, V x.c, V x.d, V y.a, V y.b, V y.c, V y.d, V m.a, V m.b, V m.c, V m.d]) rfl rfl hth (by kernel_rfl) (by simp [Value.oneCell']) ?_)
  clear hth x0 x1 x2 x3 y0 y1 y2 y3 m0 m1 m2 m3
  generalize (w2.alloc (Obj.cells #[.int .u64 0, .int .u64 0, .int .u64 0, .int .u64 0, .int .u64 0, .int .u64 0, .int .u64 0, .int .u64 0, .int .u64 0, .int .u64 0, .int .u64 0, .int .u64 0, .int .u64 0, .int .u64 0, .int .u64 0, .int .u64 0] 28)).setCells w2.heap.size 0 [.int .u64 0, .int .u64 0, .int .u64 0, .int .u64 0, V x.a, V x.b, V x.c, V x.d, V y.a, V y.b, V y.c, V y.d, V m.a, V m.b, V m.c, V m.d] = W at *
  generalize w2.heap.size = gc at *
  have lx := hx3.out.lt
  have ly := hy3.out.lt
  have lm := hm3.out.lt
  have HCL := CC.out.cells
  have b0 : ∀ o, W.cell? ⟨w.heap.size, o, none⟩ = W.cell? ⟨w.heap.size, o, none⟩ := fun o => rfl
  have b1 : ∀ o, W.cell? ⟨w.heap.size + 1, o, none⟩ = W.cell? ⟨w.heap.size + 1, o, none⟩ := fun o => rfl
  have b2 : ∀ o, W.cell? ⟨w.heap.size + 2, o, none⟩ = W.cell? ⟨w.heap.size + 2, o, none⟩ := fun o => rfl
  simp only [Act.put]
  refine wp_region_all (by kernel_rfl) (GA [32, 33, 34, 8] [8] [] _ _ _) (FV (fun i => [32, 33, 34, 8, 8].getD i 0) (VF6 x y m z fl gc)) (all_ord (by kernel_rfl)) (GA.start (by simp)) ?_ ?_
  · intro j o ho a' w' hG hpre
    have hj : j < 5 := getElem?_lt ho
    have hb := hG.bel
    have s0 := hG.frame.rest 3 (by decide)
    have hc0 := fun o => (hb.cell (p := ⟨w.heap.size, o, none⟩) (show w.heap.size < _ by omega)).trans (b0 o)
    have s1 := hG.frame.rest 4 (by decide)
    have hc1 := fun o => (hb.cell (p := ⟨w.heap.size + 1, o, none⟩) (show w.heap.size + 1 < _ by omega)).trans (b1 o)
    have s2 := hG.frame.rest 5 (by decide)
    have hc2 := fun o => (hb.cell (p := ⟨w.heap.size + 2, o, none⟩) (show w.heap.size + 2 < _ by omega)).trans (b2 o)
    simp [go_sem] at s0 s1 s2
    have t7 := hG.frame.rest 7 (by decide)
    simp [go_sem] at t7
    match j, hj with
    | 0, _ =>
      cases ho
      refine all_val rfl rfl rfl hG (by decide) (by decide) (by simp) rfl (by kernel_rfl) (VF6_mono _ _ _ _ _ _) ?_
      refine step_call (f := 18) (args := #[]) (w' := w') ?_ (fresh_any w') ?_
      · simp [execOp, Act.eval, go_sem]
      · rintro e w'' ⟨rfl, hb2⟩
        exact ⟨_, rfl, rfl, hb2⟩
    | 1, _ =>
      cases ho
      refine all_val rfl rfl rfl hG (by decide) (by decide) (by simp) rfl (by kernel_rfl) (VF6_mono _ _ _ _ _ _) ?_
      refine wp_load_mid 28 _ rfl gc 0 (slot_eva t7) [.int .u64 0, .int .u64 0, .int .u64 0, .int .u64 0, V x.a, V x.b, V x.c, V x.d, V y.a, V y.b, V y.c, V y.d, V m.a, V m.b, V m.c, V m.d] _ (rangeAt_bel HCL hb) Try.underlying28 rfl (by kernel_rfl) ?_
      exact ⟨_, rfl, rfl, bel_refl _⟩
    | 2, _ =>
      cases ho
      refine all_val rfl rfl rfl hG (by decide) (by decide) (by simp) rfl (by kernel_rfl) (VF6_mono _ _ _ _ _ _) ?_
      obtain ⟨v0, e0, rfl⟩ := FV.get (d := 32) (hpre ⟨0, .data⟩ (by simp) rfl) rfl
      obtain ⟨v1, e1, rfl⟩ := FV.get (d := 33) (hpre ⟨1, .data⟩ (by simp) rfl) rfl
      refine step_call (f := 22) (args := #[freshW.v, .agg #[.int .u64 0, .int .u64 0, .int .u64 0, .int .u64 0, V x.a, V x.b, V x.c, V x.d, V y.a, V y.b, V y.c, V y.d, V m.a, V m.b, V m.c, V m.d]]) (w' := w') ?_ (MD.out w') ?_
      · simp [execOp, Act.eval, e0, e1, go_sem]
      · rintro e w'' ⟨rfl, hb2⟩
        exact ⟨_, rfl, rfl, hb2⟩
    | 3, _ =>
      cases ho
      refine all_alloc (.cells #[.int .u64 0, .int .u64 0, .int .u64 0, .int .u64 0, .int .u64 0, .int .u64 0, .int .u64 0, .int .u64 0, .int .u64 0, .int .u64 0, .int .u64 0, .int .u64 0, .int .u64 0, .int .u64 0, .int .u64 0, .int .u64 0, .bool false] 31) rfl rfl rfl hG (by decide) (by simp) rfl (by kernel_rfl) (VF6_mono _ _ _ _ _ _) ?_ ⟨_, rfl, there_new _ _ _ _ (by simp)⟩
      simp [execOp, Act.eval, go_sem]
    | 4, _ =>
      cases ho
      obtain ⟨vp, ep, B, rfl, hth⟩ := FV.get (d := 8) (hpre ⟨3, .data⟩ (by simp) rfl) rfl
      obtain ⟨vx, ex, rfl⟩ := FV.get (d := 34) (hpre ⟨2, .data⟩ (by simp) rfl) rfl
      refine all_store 31 _ _ rfl B 0 ((C4.l ⟨z, x, y, m⟩ ++ [Value.bool fl])) rfl rfl rfl hG rfl ep (slot_eva ep) ((slot_eva ex).trans rfl) hth (hG.apart.1 8 (by decide) B 0 ep).1 (by kernel_rfl) (by simp [Value.oneCell']) ⟨B, rfl, AtL.setNew hth (by simp)⟩ ?_
      intro i u hij hi hu hv
      match i, hi with
      | 0, _ => exact (show u = freshW.v from hv)
      | 1, _ => exact (show u = .agg #[.int .u64 0, .int .u64 0, .int .u64 0, .int .u64 0, V x.a, V x.b, V x.c, V x.d, V y.a, V y.b, V y.c, V y.d, V m.a, V m.b, V m.c, V m.d] from hv)
      | 2, _ => exact (show u = ansV ⟨z, x, y, m⟩ fl from hv)
      | 3, _ => obtain ⟨B2, rfl, h⟩ := hv; exact ⟨B2, rfl, World.there_setCells h _ _ _⟩
      | 4, _ => exact absurd rfl hij
      | i + 5, hi => exact absurd hi (by simp)
    | n + 5, hj => exact absurd hj (by simp)
  · intro a' w' hG hF
    obtain ⟨_, e8, B8, rfl, h8⟩ := FV.get (d := 8) (hF 4 (by decide)) rfl
    have l8 := h8.lt
    have s3 := hG.frame.rest 3 (by decide)
    have c3 := fun o => (hG.bel.cell (p := ⟨w.heap.size, o, none⟩) (show w.heap.size < _ by omega)).trans (b0 o)
    have s4 := hG.frame.rest 4 (by decide)
    have c4 := fun o => (hG.bel.cell (p := ⟨w.heap.size + 1, o, none⟩) (show w.heap.size + 1 < _ by omega)).trans (b1 o)
    have s5 := hG.frame.rest 5 (by decide)
    have c5 := fun o => (hG.bel.cell (p := ⟨w.heap.size + 2, o, none⟩) (show w.heap.size + 2 < _ by omega)).trans (b2 o)
    have s6 := hG.frame.rest 6 (by decide)
    have s7 := hG.frame.rest 7 (by decide)
    have hsz := hG.frame.size
    have hdf := hG.frame.defers
    have hgs := hG.bel.size
    have hbel : Below w.heap.size w w' := bel_trans belw hG.bel
    have z3 : w.heap.size < w'.heap.size := by omega
    have z4 : w.heap.size + 1 < w'.heap.size := by omega
    have z5 : w.heap.size + 2 < w'.heap.size := by omega
    have hx3' := Lib.hid (hx3.out.bel hG.bel)
    have hy3' := Lib.hid (hy3.out.bel hG.bel)
    have hm3' := Lib.hid (hm3.out.bel hG.bel)
    clear hF hG
    obtain ⟨tm, df⟩ := a'
    obtain ⟨x0, x1, x2, x3, x4, x5, x6, x7, x8, x9, x10, x11, x12, x13, x14, x15, x16, x17, x18, x19, x20, x21, x22, x23, x24, x25, x26, x27, x28, x29, x30, x31, x32, x33, x34, x35, x36, x37, x38, x39, x40, x41, x42, x43, x44, x45, x46, x47, x48, x49, x50, x51, x52, rfl⟩ := arrayN53 hsz
    simp [go_sem] at e8 s3 s4 s5 s6 s7 hdf
    subst e8 s3 s4 s5 s6 s7 hdf
    clear hsz
    have HA8 := Lib.hid h8
    clear h8 b0 b1 b2 c3 c4 c5 HCL
    obtain ⟨q0, q1, q2, q3⟩ := HA8.out.ansA
    simp only [Nat.zero_add] at q1 q2 q3
    have pf := HA8.out.ansF
    rw [hfl] at pf
    obtain ⟨m0, m1, m2, m3⟩ := hm3'.out
    obtain ⟨x0, x1, x2, x3⟩ := hx3'.out
    obtain ⟨y0, y1, y2, y3⟩ := hy3'.out
    simp only [Nat.zero_add] at x1 x2 x3 y1 y2 y3 m1 m2 m3
    have g2 := G2.out
    clear hfl HA8 hx3' hy3' hm3' hx3 hy3 hm3 CC g1
    go_wp2
    refine wp_region_noPanic ?_
    refine wp_region_held_drew (S := (Keeps w'.heap.size w')) (by kernel_rfl) (by exact Keeps.start _ _) (fun hHeld => ?_)
    refine hm_take (i := 0) (v := ?_) rfl rfl (by kernel_rfl) (by kernel_rfl) (by kernel_rfl) (fun _ _ _ h => h) rfl ?_ (by assumption) ?_
    rotate_left
    · (intro w hSw; (try dsimp only at hSw); go_simp; try with_reducible rfl)
    try simp only [Act.put, List.setIfInBounds_toArray, List.set_cons_zero, List.set_cons_succ]
    refine hm_take (i := 1) (v := ?_) rfl rfl (by kernel_rfl) (by kernel_rfl) (by kernel_rfl) (fun _ _ _ h => h) rfl ?_ (by assumption) ?_
    rotate_left
    · (intro w hSw; (try dsimp only at hSw); go_simp; try with_reducible rfl)
    try simp only [Act.put, List.setIfInBounds_toArray, List.set_cons_zero, List.set_cons_succ]
    refine hm_take (i := 2) (v := ?_) rfl rfl (by kernel_rfl) (by kernel_rfl) (by kernel_rfl) (fun _ _ _ h => h) rfl ?_ (by assumption) ?_
    rotate_left
    · (intro w hSw; (try dsimp only at hSw); go_simp; try with_reducible rfl)
    try simp only [Act.put, List.setIfInBounds_toArray, List.set_cons_zero, List.set_cons_succ]
    refine hm_take (i := 3) (v := ?_) rfl rfl (by kernel_rfl) (by kernel_rfl) (by kernel_rfl) (fun _ _ _ h => h) rfl ?_ (by assumption) ?_
    rotate_left
    · (intro w hSw; (try dsimp only at hSw); go_simp; try with_reducible rfl)
    try simp only [Act.put, List.setIfInBounds_toArray, List.set_cons_zero, List.set_cons_succ]
    refine hm_take (i := 4) (v := ?_) rfl rfl (by kernel_rfl) (by kernel_rfl) (by kernel_rfl) (fun _ _ _ h => h) rfl ?_ (by assumption) ?_
    rotate_left
    · (intro w hSw; (try dsimp only at hSw); go_simp; try with_reducible rfl)
    try simp only [Act.put, List.setIfInBounds_toArray, List.set_cons_zero, List.set_cons_succ]
    refine hm_take (i := 5) (v := ?_) rfl rfl (by kernel_rfl) (by kernel_rfl) (by kernel_rfl) (fun _ _ _ h => h) rfl ?_ (by assumption) ?_
    rotate_left
    · (intro w hSw; (try dsimp only at hSw); go_simp; try with_reducible rfl)
    try simp only [Act.put, List.setIfInBounds_toArray, List.set_cons_zero, List.set_cons_succ]
    refine hm_take (i := 6) (v := ?_) rfl rfl (by kernel_rfl) (by kernel_rfl) (by kernel_rfl) (fun _ _ _ h => h) rfl ?_ (by assumption) ?_
    rotate_left
    · (intro w hSw; (try dsimp only at hSw); go_simp; try with_reducible rfl)
    try simp only [Act.put, List.setIfInBounds_toArray, List.set_cons_zero, List.set_cons_succ]
    refine hm_take (i := 8) (v := ?_) rfl rfl (by kernel_rfl) (by kernel_rfl) (by kernel_rfl) (fun _ _ _ h => h) rfl ?_ (by assumption) ?_
    rotate_left
    · (intro w hSw; (try dsimp only at hSw); go_simp; try with_reducible rfl)
    try simp only [Act.put, List.setIfInBounds_toArray, List.set_cons_zero, List.set_cons_succ]
    refine hm_take (i := 9) (v := ?_) rfl rfl (by kernel_rfl) (by kernel_rfl) (by kernel_rfl) (fun _ _ _ h => h) rfl ?_ (by assumption) ?_
    rotate_left
    · (intro w hSw; (try dsimp only at hSw); go_simp; try with_reducible rfl)
    try simp only [Act.put, List.setIfInBounds_toArray, List.set_cons_zero, List.set_cons_succ]
    refine hm_take (i := 11) (v := ?_) rfl rfl (by kernel_rfl) (by kernel_rfl) (by kernel_rfl) (fun _ _ _ h => h) rfl ?_ (by assumption) ?_
    rotate_left
    · (intro w hSw; (try dsimp only at hSw); go_simp; try with_reducible rfl)
    try simp only [Act.put, List.setIfInBounds_toArray, List.set_cons_zero, List.set_cons_succ]
    refine hm_call (i := 7) rfl (by kernel_rfl) rfl (fun K hK => ?_)
    go_simp
    (go_at_call 18; refine (fresh_any _).mono ?_; rintro e w1 ⟨rfl, hb⟩)
    (try go_wp2_with fail)
    refine hK.out _ _ (by (try dsimp only); first | assumption | exact Keeps.step (by assumption) (Nat.le_refl _) hb) (fun hHeld => ?_)
    clear hK K
    try simp only [Act.put, List.setIfInBounds_toArray, List.set_cons_zero, List.set_cons_succ]
    refine hm_call (i := 10) rfl (by kernel_rfl) rfl (fun K hK => ?_)
    go_simp
    (go_at_call 27; refine (M1.out _).mono ?_; rintro e w1 ⟨rfl, hb⟩)
    (try go_wp2_with fail)
    refine hK.out _ _ (by (try dsimp only); first | assumption | exact Keeps.step (by assumption) (Nat.le_refl _) hb) (fun hHeld => ?_)
    clear hK K
    try simp only [Act.put, List.setIfInBounds_toArray, List.set_cons_zero, List.set_cons_succ]
    refine hm_take (i := 12) (v := ?_) rfl rfl (by kernel_rfl) (by kernel_rfl) (by kernel_rfl) (fun _ _ _ h => h) rfl ?_ (by assumption) ?_
    rotate_left
    · (intro w hSw; (try dsimp only at hSw); go_simp; try with_reducible rfl)
    try simp only [Act.put, List.setIfInBounds_toArray, List.set_cons_zero, List.set_cons_succ]
    refine hm_call (i := 13) rfl (by kernel_rfl) rfl (fun K hK => ?_)
    go_simp
    (go_at_call 26; refine (D1.out _).mono ?_; rintro e w1 ⟨rfl, hb⟩)
    (try go_wp2_with fail)
    refine hK.out _ _ (by (try dsimp only); first | assumption | exact Keeps.step (by assumption) (Nat.le_refl _) hb) (fun hHeld => ?_)
    clear hK K
    try simp only [Act.put, List.setIfInBounds_toArray, List.set_cons_zero, List.set_cons_succ]
    refine hm_take (i := 14) (v := ?_) rfl rfl (by kernel_rfl) (by kernel_rfl) (by kernel_rfl) (fun _ _ _ h => h) rfl ?_ (by assumption) ?_
    rotate_left
    · (intro w hSw; (try dsimp only at hSw); go_simp; try with_reducible rfl)
    try simp only [Act.put, List.setIfInBounds_toArray, List.set_cons_zero, List.set_cons_succ]
    refine hm_take (i := 15) (v := ?_) rfl rfl (by kernel_rfl) (by kernel_rfl) (by kernel_rfl) (fun _ _ _ h => h) rfl ?_ (by assumption) ?_
    rotate_left
    · (intro w hSw; (try dsimp only at hSw); go_simp; try with_reducible rfl)
    try simp only [Act.put, List.setIfInBounds_toArray, List.set_cons_zero, List.set_cons_succ]
    refine hm_take (i := 16) (v := ?_) rfl rfl (by kernel_rfl) (by kernel_rfl) (by kernel_rfl) (fun _ _ _ h => h) rfl ?_ (by assumption) ?_
    rotate_left
    · (intro w hSw; (try dsimp only at hSw); go_simp; try with_reducible rfl)
    try simp only [Act.put, List.setIfInBounds_toArray, List.set_cons_zero, List.set_cons_succ]
    refine hm_take (i := 17) (v := ?_) rfl rfl (by kernel_rfl) (by kernel_rfl) (by kernel_rfl) (fun _ _ _ h => h) rfl ?_ (by assumption) ?_
    rotate_left
    · (intro w hSw; (try dsimp only at hSw); go_simp; try with_reducible rfl)
    try simp only [Act.put, List.setIfInBounds_toArray, List.set_cons_zero, List.set_cons_succ]
    refine hm_take (i := 18) (v := ?_) rfl rfl (by kernel_rfl) (by kernel_rfl) (by kernel_rfl) (fun _ _ _ h => h) rfl ?_ (by assumption) ?_
    rotate_left
    · (intro w hSw; (try dsimp only at hSw); go_simp; try with_reducible rfl)
    try simp only [Act.put, List.setIfInBounds_toArray, List.set_cons_zero, List.set_cons_succ]
    refine wpAnyH_done (by kernel_rfl) ?_ _
    refine NoPanic.normal ?_
    go_wp2
    go_ret
    exact retBel rfl ((‹Keeps _ _ _›).bel hbel.size hbel)

set_option maxRecDepth 100000 in
theorem lifted (os : Os) (started : os.Started) (H : Type) (enc : TypeId × Value → H) :
    ReturnsInHanded {} Try.checked os 6 .any (Rows.fnMulDivRoadsSpec.pre6 enc Try.prog Try.f6 Rows.fnMulDivRoadsRow.domain false) (Rows.fnMulDivRoadsSpec.post enc Try.prog Try.f6 false true false false) := by
  refine returnsInHanded_of_change (C := Try.checked) Try.own started (by kernel_rfl) Try.func6
    (ChangeSpec.witness6 (enc := enc) (C := Try.checked) false ⟨#[], #[.agg #[.int .u64 0, .int .u64 0, .int .u64 0, .int .u64 0], .agg #[.int .u64 0, .int .u64 0, .int .u64 0, .int .u64 0], .agg #[.int .u64 0, .int .u64 0, .int .u64 0, .int .u64 0]], []⟩ 8 (by kernel_rfl) (by kernel_rfl) (by kernel_rfl) (by kernel_rfl)) ?_
  intro W base args ds gs before hval0 hW hcnd _
  have hval : ∀ (j : Nat) t v, Try.f6.params[j]? = some t → args[j]? = some v → Value.okWide Try.prog W .any base t v := hval0
  have hW' := hW
  obtain ⟨p, q, hA0, hV, rfl, hfz, hnd⟩ := hW
  have hA : DataW.TrodAll enc Try.prog W 0 (fun _ => true) true Try.f6.params.toList args.toList ds p := hA0
  rw [Try.params6] at hA hval
  obtain ⟨v0, vs0, d0, ds0, p0, q0, hargs, rfl, rfl, h0, r0⟩ := trodAll_cons hA
  obtain ⟨v1, vs1, d1, ds1, p1, q1, rfl, rfl, rfl, h1, r1⟩ := trodAll_cons r0
  obtain ⟨v2, vs2, d2, ds2, p2, q2, rfl, rfl, rfl, h2, r2⟩ := trodAll_cons r1
  obtain ⟨rfl, rfl, rfl⟩ := trodAll_nil r2
  obtain rfl : args = #[v0, v1, v2] := by cases args; simp_all
  obtain ⟨rfl, rfl⟩ := trodVars_none hV
  have k0 := h0
  have lt0 : ∀ x ∈ p0, x.block < W.heap.size := by obtain ⟨m, hm⟩ := k0; exact DataW.trod_lt m _ _ _ hm
  obtain ⟨x0, rfl⟩ := open_num (hval 0 26 v0 rfl rfl)
  have k1 := h1
  have lt1 : ∀ x ∈ p1, x.block < W.heap.size := by obtain ⟨m, hm⟩ := k1; exact DataW.trod_lt m _ _ _ hm
  obtain ⟨x1, rfl⟩ := open_num (hval 1 26 v1 rfl rfl)
  have k2 := h2
  have lt2 : ∀ x ∈ p2, x.block < W.heap.size := by obtain ⟨m, hm⟩ := k2; exact DataW.trod_lt m _ _ _ hm
  obtain ⟨x2, rfl⟩ := open_num (hval 2 26 v2 rfl rfl)
  clear hA0 hval0
  refine (walk x0 x1 x2 W).mono fun e W' ⟨he, bel⟩ => ?_
  subst he
  exact ⟨_, rfl, _, _, _, [], _, [], hW', trodAll_mk1 (shut_bool Try.underlying4 _), (trodAll_cons_mk (Below.trod Try.laidOut (by kernel_rfl) (of_decide_eq_true (by kernel_rfl)) k0 bel lt0) (trodAll_cons_mk (Below.trod Try.laidOut (by kernel_rfl) (of_decide_eq_true (by kernel_rfl)) k1 bel lt1) (trodAll_cons_mk (Below.trod Try.laidOut (by kernel_rfl) (of_decide_eq_true (by kernel_rfl)) k2 bel lt2) trodAll_mk0))), rfl, bel.frame _, fun h => by cases h⟩

theorem holds : Rows.FnMulDivRoadsSaid :=
  OpenClaim.holds_of_wide 6 Try.f6 rfl rfl rfl rfl rfl rfl rfl ⟨rfl, rfl, rfl, rfl, rfl⟩ rfl rfl rfl rfl rfl (by kernel_rfl) Try.func6 (by kernel_rfl)
    (of_decide_eq_true (by kernel_rfl)) (by unfold Func.isWrapper; first | (rw [if_pos (by decide +kernel)]; kernel_rfl) | (rw [if_neg (by decide +kernel)]; exact ⟨rfl, rfl⟩))
    (fun os started H enc _ => lifted os started H enc)
#print axioms holds
end Go.Proofs.Ytbmlbjpiodiihaa.fnMulDivRoads
