/-
  A number in the result's own cell beside a second result; the thin package's checked.
-/
import Derived.Test.YtfaocjcpnjmfiaaGreatDoorImpl0
import Derived.Test.YtfaocjcpnjmfiaaGreatDoorArith
import Derived.Deep.MidRow
set_option linter.unusedVariables false
set_option linter.unusedSimpArgs false
namespace Go.Proofs.YtfaocjcpnjmfiaaGreatDoor
open Go.RowKit
abbrev zeroR : N4 := ⟨0#64, 0#64, 0#64, 0#64⟩
theorem thereR_bel {w w' : World} {b o n : Nat} (h : w.there b o n) (hn : 0 < n) (k : Below w.heap.size w w') : w'.there b o n := fun j hj => by
  have h0 := (h 0 hn).1
  obtain ⟨v0, hv0⟩ := Option.isSome_iff_exists.1 h0
  have hlt := World.block_lt_of_cell? w _ hv0
  rw [k.cell (p := ⟨b, o + j, none⟩) hlt, k.frozen (p := ⟨b, o + j, none⟩) hlt]
  exact h j hj
theorem thereR_new (w : World) (t : TypeId) (cs : Array Value) (n : Nat) (hn : n ≤ cs.size) : (w.alloc (.cells cs t)).there w.heap.size 0 n := fun j hj => by
  constructor
  · simp [go_sem]; omega
  · simp [go_sem]
theorem setCellsR_bel {a w : World} {n B o : Nat} {vs : List Value} (h : Below n a w) (hb : n ≤ B) : Below n a (w.setCells B o vs) := by
  induction vs generalizing o w with
  | nil => exact h
  | cons v vs ih => exact ih (h.setCell (p := ⟨B, o, none⟩) hb v)
theorem resultsR_slot {P : Program} {fn : Func} {p q : Tmp} {ty : TypeId} (h : fn.results = #[.cell p ty, .tmp q]) (tmps : Array Value) (w : World) (g : Nat) (cs : List Value) (d : TypeDesc)
    (hp : tmps.getD p undef = .pointer (some ⟨g, 0, none⟩)) (hc : w.rangeAt g 0 cs) (hu : P.underlying ty = some d) (hd : d.isRow = true) (hi : (P.info? ty).map (·.size) = some cs.length) {u : Value} (hq : tmps.getD q undef = u) :
    (results fn tmps).run P w = .ok (.tuple #[.agg cs.toArray, u]) w := by
  have hp' : tmps[p]?.getD undef = .pointer (some ⟨g, 0, none⟩) := by simpa using hp
  have hq' : tmps[q]?.getD undef = u := by simpa using hq
  simp [results, h, hp', hq', asAddr, run_loadVar_mid w g 0 ty cs d hc hu hd hi]
abbrev Z4R : Obj := .cells #[.int .u64 0, .int .u64 0, .int .u64 0, .int .u64 0] 24
theorem thereR_z (w : World) : (w.alloc Z4R).there w.heap.size 0 4 := thereR_new w 24 #[.int .u64 0, .int .u64 0, .int .u64 0, .int .u64 0] 4 (by simp)
set_option maxHeartbeats 1000000 in
theorem checkedR_bad (p : Value) (t : TypeId) (u : Value) (w : World) : Calls Tryz.prog 20 #[p, .iface t u] w fun e w' => e = .returned (.tuple #[zeroR.v, .bool false]) ∧ Below w.heap.size w w' := by
  have hth := thereR_z w
  go_enter Tryz.func20, Tryz.ntmps20
  go_wp2_with (show wpList _ _ _ (⟨none, Op.store 24 _ _, _, _, _, _⟩ :: _) _ _; refine wpList_store_mid (op := ⟨none, Op.store 24 (.tmp 4) (.tmp 8), _, _, _, _⟩) rfl 24 _ _ rfl w.heap.size 0 [V zeroR.a, V zeroR.b, V zeroR.c, V zeroR.d].toArray rfl rfl hth (by kernel_rfl) (by simp [Value.oneCell']) ?_)
  refine bodyPost_ret (v := .tuple #[zeroR.v, .bool false]) (resultsR_slot rfl _ _ w.heap.size [V zeroR.a, V zeroR.b, V zeroR.c, V zeroR.d] _ rfl (World.rangeAt_setCells_same _ _ 0 _ hth) Tryz.underlying24 rfl (by kernel_rfl) rfl) rfl ⟨rfl, ?_⟩
  exact setCellsR_bel (bel_alloc (bel_refl w) _) (Nat.le_refl _)
set_option maxHeartbeats 1000000 in
theorem checkedR_ok (b o : Nat) (x : N4) (w : World) (hx : At4 w b o x) : Calls Tryz.prog 20 #[.pointer (some ⟨b, o, none⟩), .nilIface] w fun e w' => e = .returned (.tuple #[x.v, .bool true]) ∧ Below w.heap.size w w' := by
  have hth := thereR_z w
  have HX := Lib.hid hx
  clear hx
  go_enter Tryz.func20, Tryz.ntmps20
  go_wp2_with fail
  refine (numOf_any b o x _ (HX.out.alloc _)).mono ?_
  rintro e w3 ⟨rfl, hb3⟩
  have hth3 := thereR_bel hth (by omega) hb3
  go_wp2_with (show wpList _ _ _ (⟨none, Op.store 24 _ _, _, _, _, _⟩ :: _) _ _; refine wpList_store_mid (op := ⟨none, Op.store 24 (.tmp 4) (.tmp 10), _, _, _, _⟩) rfl 24 _ _ rfl w.heap.size 0 [V x.a, V x.b, V x.c, V x.d].toArray rfl rfl hth3 (by kernel_rfl) (by simp [Value.oneCell']) ?_)
  refine bodyPost_ret (v := .tuple #[x.v, .bool true]) (resultsR_slot rfl _ _ w.heap.size [V x.a, V x.b, V x.c, V x.d] _ rfl (World.rangeAt_setCells_same _ _ 0 _ hth3) Tryz.underlying24 rfl (by kernel_rfl) rfl) rfl ⟨rfl, ?_⟩
  exact setCellsR_bel (bel_trans (bel_alloc (bel_refl w) _) hb3) (Nat.le_refl _)
end Go.Proofs.YtfaocjcpnjmfiaaGreatDoor
