/-
  Contracts of the reference's functions without loops: Below, Not, And, Or, Xor, Cell, Get, Put, X, Y, M; and of the laws' told.
-/
import Derived.Test.YtpjljjajnfoccaaDeskG
import Derived.Test.YtpjljjajnfoccaaOrd
namespace Go.Proofs.Ytpjljjajnfoccaa
open Go.RowKit
theorem retBel_row {P : Program} {fn : Func} {a : Act} {w w' : World} {p : Tmp} {ty : TypeId} (h : fn.results = #[.cell p ty]) (hd : a.defers = []) (g : Nat) (cs : List Value) (d : TypeDesc)
    (hp : a.tmps.getD p undef = .pointer (some ⟨g, 0, none⟩)) (hc : w'.rangeAt g 0 cs) (hu : P.underlying ty = some d) (hdr : d.isRow = true) (hi : (P.info? ty).map (·.size) = some cs.length) {v : Value} (hv : v = .agg cs.toArray) (hb : Below w.heap.size w w') :
    bodyPost P fn (RetBel v w) .ret a w' :=
  bodyPost_ret (results_cell_mid h _ _ g cs d hp hc hu hdr hi) hd (by subst hv; exact retBel rfl hb)
set_option maxHeartbeats 400000 in
theorem specCell_any (n : Int) (w : World) (hn : I64 n) : Calls Try.prog 22 #[.int .i64 n] w fun e w' => e = .returned (.int .i64 (ix n)) ∧ w = w' := by
  unfold I64 at hn
  obtain ⟨h1, h2⟩ := hn
  obtain ⟨t1, t2⟩ := tmod4 n
  have E : Hid (ix n = (n.tmod 4 + 4) % 4) := rfl
  generalize ht : n.tmod 4 = t at *
  go_enter Try.func22, Try.ntmps22
  go_wp2
  go_ret
  rw [E.out]
  exact ⟨rfl, rfl⟩

theorem idxNum0 (x0 x1 x2 x3 x4 x5 x6 x7 x8 x9 x10 x11 x12 x13 x14 x15 : Value) (w : World) : (Instr.index 54 (.agg #[x0, x1, x2, x3, x4, x5, x6, x7, x8, x9, x10, x11, x12, x13, x14, x15]) (.int .i64 0)).run Try.prog w = .ok (.agg #[x0, x1, x2, x3]) w := by kernel_rfl
theorem idxNum1 (x0 x1 x2 x3 x4 x5 x6 x7 x8 x9 x10 x11 x12 x13 x14 x15 : Value) (w : World) : (Instr.index 54 (.agg #[x0, x1, x2, x3, x4, x5, x6, x7, x8, x9, x10, x11, x12, x13, x14, x15]) (.int .i64 1)).run Try.prog w = .ok (.agg #[x4, x5, x6, x7]) w := by kernel_rfl
theorem idxNum2 (x0 x1 x2 x3 x4 x5 x6 x7 x8 x9 x10 x11 x12 x13 x14 x15 : Value) (w : World) : (Instr.index 54 (.agg #[x0, x1, x2, x3, x4, x5, x6, x7, x8, x9, x10, x11, x12, x13, x14, x15]) (.int .i64 2)).run Try.prog w = .ok (.agg #[x8, x9, x10, x11]) w := by kernel_rfl
theorem idxNum3 (x0 x1 x2 x3 x4 x5 x6 x7 x8 x9 x10 x11 x12 x13 x14 x15 : Value) (w : World) : (Instr.index 54 (.agg #[x0, x1, x2, x3, x4, x5, x6, x7, x8, x9, x10, x11, x12, x13, x14, x15]) (.int .i64 3)).run Try.prog w = .ok (.agg #[x12, x13, x14, x15]) w := by kernel_rfl
attribute [go_sem ↓] idxNum0 idxNum1 idxNum2 idxNum3
set_option maxHeartbeats 400000 in
theorem specGet_any (c : C4) (n : Int) (w : World) (hn : I64 n) : Calls Try.prog 27 #[c.v, .int .i64 n] w (RetBel (c.get (ix n)).v w) := by
  have K : ∀ i : Int, ix n = i → Hid (c.get (ix n) = c.get i) := fun i hi => by show c.get (ix n) = _; rw [hi]
  rcases ix_cases n with h | h | h | h
  all_goals
    have K1 := K _ h
    clear K
    go_enter Try.func27, Try.ntmps27
    go_wp2
    go_region_held3 (Keeps (w.heap.size + 1) (w.alloc (Obj.cells #[V c.a.a, V c.a.b, V c.a.c, V c.a.d, V c.b.a, V c.b.b, V c.b.c, V c.b.d, V c.c.a, V c.c.b, V c.c.c, V c.c.d, V c.d.a, V c.d.b, V c.d.c, V c.d.d] 28))) (first | assumption | exact Keeps.of' (by simp) (bel_drew (bel_alloc (bel_refl _) _)))
      (first | (go_at_call 22; refine (specCell_any n _ hn).mono ?_; rintro e w1 ⟨rfl, rfl⟩))
    go_wp2
    rw [K1.out]
    refine bodyPost_ret (v := (c.get _).v) (by simp [results, Try.results27, go_sem]; exact ⟨rfl, rfl, rfl, rfl⟩) rfl (retBel rfl ?_)
    exact bel_drew (bel_alloc (bel_alloc (bel_refl _) _) _)
set_option maxHeartbeats 400000 in
theorem specX_any (k : W4) (c : C4) (w : World) (hk : k.ok) : Calls Try.prog 10 #[k.v, c.v] w (RetBel (c.get (ix k.x)).v w) := by
  obtain ⟨hk0, hk1, hk2, hk3⟩ := hk
  go_enter Try.func10, Try.ntmps10
  go_wp2_with fail
  refine (specGet_any c _ _ (by assumption)).mono ?_
  rintro e w1 ⟨rfl, hb⟩
  have hbel : Below w.heap.size w w1 := bel_trans (bel_alloc (bel_alloc (bel_alloc (bel_refl w) _) _) _) hb
  have hres : w1.there (w.heap.size + 2) 0 4 := there_bel (there_at _ _ _ _ _ (Nat.le_refl _) (by simp)) (by omega) hb
  clear hb
  go_wp2_with (refine wpList_store_mid rfl 26 _ _ rfl (w.heap.size + 2) 0 [V (c.get (ix k.x)).a, V (c.get (ix k.x)).b, V (c.get (ix k.x)).c, V (c.get (ix k.x)).d].toArray rfl rfl hres (by kernel_rfl) (by simp [Value.oneCell']) ?_)
  exact retBel_row rfl rfl (w.heap.size + 2) [V (c.get (ix k.x)).a, V (c.get (ix k.x)).b, V (c.get (ix k.x)).c, V (c.get (ix k.x)).d] _ rfl (World.rangeAt_setCells_same w1 _ 0 _ hres) Try.underlying26 rfl (by kernel_rfl) rfl (setCells_bel hbel (by omega))
set_option maxHeartbeats 400000 in
theorem specY_any (k : W4) (c : C4) (w : World) (hk : k.ok) : Calls Try.prog 11 #[k.v, c.v] w (RetBel (c.get (ix k.y)).v w) := by
  obtain ⟨hk0, hk1, hk2, hk3⟩ := hk
  go_enter Try.func11, Try.ntmps11
  go_wp2_with fail
  refine (specGet_any c _ _ (by assumption)).mono ?_
  rintro e w1 ⟨rfl, hb⟩
  have hbel : Below w.heap.size w w1 := bel_trans (bel_alloc (bel_alloc (bel_alloc (bel_refl w) _) _) _) hb
  have hres : w1.there (w.heap.size + 2) 0 4 := there_bel (there_at _ _ _ _ _ (Nat.le_refl _) (by simp)) (by omega) hb
  clear hb
  go_wp2_with (refine wpList_store_mid rfl 26 _ _ rfl (w.heap.size + 2) 0 [V (c.get (ix k.y)).a, V (c.get (ix k.y)).b, V (c.get (ix k.y)).c, V (c.get (ix k.y)).d].toArray rfl rfl hres (by kernel_rfl) (by simp [Value.oneCell']) ?_)
  exact retBel_row rfl rfl (w.heap.size + 2) [V (c.get (ix k.y)).a, V (c.get (ix k.y)).b, V (c.get (ix k.y)).c, V (c.get (ix k.y)).d] _ rfl (World.rangeAt_setCells_same w1 _ 0 _ hres) Try.underlying26 rfl (by kernel_rfl) rfl (setCells_bel hbel (by omega))
set_option maxHeartbeats 400000 in
theorem specM_any (k : W4) (c : C4) (w : World) (hk : k.ok) : Calls Try.prog 12 #[k.v, c.v] w (RetBel (c.get (ix k.m)).v w) := by
  obtain ⟨hk0, hk1, hk2, hk3⟩ := hk
  go_enter Try.func12, Try.ntmps12
  go_wp2_with fail
  refine (specGet_any c _ _ (by assumption)).mono ?_
  rintro e w1 ⟨rfl, hb⟩
  have hbel : Below w.heap.size w w1 := bel_trans (bel_alloc (bel_alloc (bel_alloc (bel_refl w) _) _) _) hb
  have hres : w1.there (w.heap.size + 2) 0 4 := there_bel (there_at _ _ _ _ _ (Nat.le_refl _) (by simp)) (by omega) hb
  clear hb
  go_wp2_with (refine wpList_store_mid rfl 26 _ _ rfl (w.heap.size + 2) 0 [V (c.get (ix k.m)).a, V (c.get (ix k.m)).b, V (c.get (ix k.m)).c, V (c.get (ix k.m)).d].toArray rfl rfl hres (by kernel_rfl) (by simp [Value.oneCell']) ?_)
  exact retBel_row rfl rfl (w.heap.size + 2) [V (c.get (ix k.m)).a, V (c.get (ix k.m)).b, V (c.get (ix k.m)).c, V (c.get (ix k.m)).d] _ rfl (World.rangeAt_setCells_same w1 _ 0 _ hres) Try.underlying26 rfl (by kernel_rfl) rfl (setCells_bel hbel (by omega))
set_option maxHeartbeats 400000 in
theorem told_any (x y : C4) (f g : Bool) (w : World) : Calls Try.prog 6 #[ansV x f, y.v, .bool g] w (RetBel (.bool (x.eqb y && (f == g))) w) := by
  cases h : x.eqb y
  all_goals
    go_enter Try.func6, Try.ntmps6
    go_wp2
    go_ret
    refine retBel rfl ?_
    repeat (first | exact bel_refl _ | apply bel_alloc)
end Go.Proofs.Ytpjljjajnfoccaa
