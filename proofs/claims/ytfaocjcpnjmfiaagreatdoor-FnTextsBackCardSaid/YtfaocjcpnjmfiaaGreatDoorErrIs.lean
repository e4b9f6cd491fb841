/-
  errors.Is at sentinels of errors.New's make; codeOf.
-/
import Derived.Test.YtfaocjcpnjmfiaaGreatDoorBunT
import Derived.Test.YtfaocjcpnjmfiaaGreatDoorChecked
import Derived.WalkKit
import Derived.LaidEql
import Derived.Stop.Asserts
import Derived.RowKitTokens
namespace Go.Proofs.YtfaocjcpnjmfiaaGreatDoor
open Go.RowKit Go.Extern.Stop Go.Stop Go.Extern
set_option linter.unusedVariables false
set_option linter.unusedSimpArgs false
set_option maxRecDepth 20000
theorem isTypeOf (v : Value) (w : World) : (Extern.ReflectliteType.typeOf #[.iface 116 v]).run Tryz.prog w = .ok (.iface 84 (.agg #[.pointer (some ⟨13, 116, none⟩)])) w := by kernel_rfl
theorem callTypeOf (v : Value) (w : World) : (callFunc 45 #[.iface 116 v]).run Tryz.prog w = .ok (.value (.iface 84 (.agg #[.pointer (some ⟨13, 116, none⟩)]))) w := by
  rw [@run_callFunc_extern Tryz.prog 45 _ Extern.ReflectliteType.typeOf Tryz.func45 (by kernel_rfl) (by kernel_rfl) (by kernel_rfl) (by kernel_rfl), isTypeOf]
  rfl
theorem callComparable (w : World) : (callFunc 104 #[.agg #[.pointer (some ⟨13, 116, none⟩)]]).run Tryz.prog w = .ok (.value (.bool true)) w := by
  rw [@run_callFunc_extern Tryz.prog 104 _ (Extern.ReflectliteType.method fun t => do _root_.Go.Extern.Rtype.noPackHeld "Comparable" t; pure (.bool (← typeInfo t).comparable)) Tryz.func104 (by kernel_rfl) (by kernel_rfl) (by kernel_rfl) (by kernel_rfl)]
  kernel_rfl
theorem isMethodComparable (v : Value) (w : World) : (Go.method 256 84 v "Comparable").run Tryz.prog w = .ok (104, v) w := by kernel_rfl
theorem isComp : (Tryz.prog.info? 116).map (·.comparable) = some true := by kernel_rfl
theorem isSize : (Tryz.prog.info? 118).map (·.size) = some 1 := by kernel_rfl
theorem noIsE (v : Value) (xT : TypeId) (w : World) : (Instr.typeAssert (.iface 116 v) xT 86 true).run Tryz.prog w = .ok (.tuple #[.nilIface, .bool false]) w := run_typeAssert_lacksB Tryz.underlying86 (by kernel_rfl) (by kernel_rfl) v xT w
theorem noUnwrapE (v : Value) (xT : TypeId) (w : World) : (Instr.typeAssert (.iface 116 v) xT 89 true).run Tryz.prog w = .ok (.tuple #[.nilIface, .bool false]) w := run_typeAssert_lacksB Tryz.underlying89 (by kernel_rfl) (by kernel_rfl) v xT w
theorem noUnwrapsE (v : Value) (xT : TypeId) (w : World) : (Instr.typeAssert (.iface 116 v) xT 91 true).run Tryz.prog w = .ok (.tuple #[.nilIface, .bool false]) w := run_typeAssert_lacksB Tryz.underlying91 (by kernel_rfl) (by kernel_rfl) v xT w
theorem is_same (a : Addr) (w : World) :
    Calls Tryz.prog 34 #[.iface 116 (.pointer (some a)), .iface 116 (.pointer (some a))] w fun e w' => e = .returned (.bool true) ∧ w' = w := by
  obtain ⟨i, hi, hcmp⟩ := Option.map_eq_some_iff.1 isComp
  obtain ⟨j, hj, hjs⟩ := Option.map_eq_some_iff.1 isSize
  have h8 := callTypeOf
  have h32 := callComparable
  have mR := isMethodComparable
  have heq := run_eql_iface_ptr_same (P := Tryz.prog) w a Tryz.underlying33 Tryz.underlying116 hi hcmp hj
  go_enter Tryz.func34, Tryz.ntmps34
  go_wp2
  refine wp_loop_rounds 1 ?_
  rw [rounds_succ]
  go_wp2
  go_ret
  exact ⟨rfl, rfl⟩
theorem is_other (a b : Addr) (w : World) (hne : a ≠ b) (ha : ∃ c t, w.heap[a.block]? = some (.cells c t (0, 0))) (hb : ∃ c t, w.heap[b.block]? = some (.cells c t (0, 0))) :
    Calls Tryz.prog 34 #[.iface 116 (.pointer (some a)), .iface 116 (.pointer (some b))] w fun e w' => e = .returned (.bool false) ∧ w' = w := by
  obtain ⟨ca, ta, ha⟩ := ha
  obtain ⟨cb, tb, hb⟩ := hb
  obtain ⟨i, hi, hcmp⟩ := Option.map_eq_some_iff.1 isComp
  obtain ⟨j, hj, hjs⟩ := Option.map_eq_some_iff.1 isSize
  have h8 := callTypeOf
  have h32 := callComparable
  have mR := isMethodComparable
  have nE := noIsE
  have uE := noUnwrapE
  have vE := noUnwrapsE
  have heq := run_eql_iface_ptr_other (P := Tryz.prog) w Tryz.underlying33 Tryz.underlying116 hi hcmp hj (by rw [hjs]; decide) hne ha hb
  go_enter Tryz.func34, Tryz.ntmps34
  go_wp2
  refine wp_loop_rounds 1 ?_
  rw [rounds_succ]
  go_wp2
  go_ret
  exact ⟨rfl, rfl⟩
/-- The sentinels are different places. -/
structure HexD (a : Nat → Addr) (w : World) : Prop where
  ne : ∀ i j, 1 ≤ i → i ≤ 6 → 1 ≤ j → j ≤ 6 → i ≠ j → a i ≠ a j
  blk : ∀ i, 1 ≤ i → i ≤ 6 → ∃ c t, w.heap[(a i).block]? = some (.cells c t (0, 0))
theorem HexD.bel {a : Nat → Addr} {w w' : World} (h : HexD a w) (k : Below w.heap.size w w') : HexD a w' :=
  ⟨h.ne, fun i h1 h2 => by
    obtain ⟨c, t, e⟩ := h.blk i h1 h2
    exact ⟨c, t, by rw [k.block _ (Array.getElem?_eq_some_iff.1 e).1]; exact e⟩⟩
theorem idxErr0 (v0 v1 v2 v3 v4 v5 : Value) (w : World) : (Instr.index 56 (.agg #[v0, v1, v2, v3, v4, v5]) (.int .i64 0)).run Tryz.prog w = .ok v0 w := by kernel_rfl
theorem idxErr1 (v0 v1 v2 v3 v4 v5 : Value) (w : World) : (Instr.index 56 (.agg #[v0, v1, v2, v3, v4, v5]) (.int .i64 1)).run Tryz.prog w = .ok v1 w := by kernel_rfl
theorem idxErr2 (v0 v1 v2 v3 v4 v5 : Value) (w : World) : (Instr.index 56 (.agg #[v0, v1, v2, v3, v4, v5]) (.int .i64 2)).run Tryz.prog w = .ok v2 w := by kernel_rfl
theorem idxErr3 (v0 v1 v2 v3 v4 v5 : Value) (w : World) : (Instr.index 56 (.agg #[v0, v1, v2, v3, v4, v5]) (.int .i64 3)).run Tryz.prog w = .ok v3 w := by kernel_rfl
theorem idxErr4 (v0 v1 v2 v3 v4 v5 : Value) (w : World) : (Instr.index 56 (.agg #[v0, v1, v2, v3, v4, v5]) (.int .i64 4)).run Tryz.prog w = .ok v4 w := by kernel_rfl
theorem idxErr5 (v0 v1 v2 v3 v4 v5 : Value) (w : World) : (Instr.index 56 (.agg #[v0, v1, v2, v3, v4, v5]) (.int .i64 5)).run Tryz.prog w = .ok v5 w := by kernel_rfl
set_option maxHeartbeats 2000000 in
theorem codeOf_any (a : Nat → Addr) (k : Nat) (w : World) (hE : HexE a w) (hD : HexD a w) (h1 : 1 ≤ k) (h6 : k ≤ 6) :
    Calls Tryz.prog 17 #[.iface 116 (.pointer (some (a k)))] w fun e w' => e = .returned (.int .i64 (k : Int)) ∧ w' = w := by
  obtain ⟨e1, e2, e3, e4, e5, e6⟩ := hE
  have IS : Hid (∀ i, 1 ≤ i → i ≤ 6 → i ≠ k → Calls Tryz.prog 34 #[.iface 116 (.pointer (some (a k))), .iface 116 (.pointer (some (a i)))] w fun e w' => e = .returned (.bool false) ∧ w' = w) := fun i i1 i6 hne => is_other (a k) (a i) w (hD.ne k i h1 h6 i1 i6 (fun e => hne e.symm)) (hD.blk k h1 h6) (hD.blk i i1 i6)
  have SAME := Lib.hid (is_same (a k) w)
  clear hD
  have x0 := idxErr0
  have x1 := idxErr1
  have x2 := idxErr2
  have x3 := idxErr3
  have x4 := idxErr4
  have x5 := idxErr5
  rcases (by omega : k = 1 ∨ k = 2 ∨ k = 3 ∨ k = 4 ∨ k = 5 ∨ k = 6) with rfl | rfl | rfl | rfl | rfl | rfl
  · go_enter Tryz.func17, Tryz.ntmps17
    go_wp2
    refine wp_loop_rounds 1 ?_
    rw [rounds_succ]
    go_wp2_with (go_at_call 34; (first | (with_reducible refine SAME.out.mono ?_) | (with_reducible refine (IS.out 2 (by omega) (by omega) (by omega)).mono ?_) | (with_reducible refine (IS.out 3 (by omega) (by omega) (by omega)).mono ?_) | (with_reducible refine (IS.out 4 (by omega) (by omega) (by omega)).mono ?_) | (with_reducible refine (IS.out 5 (by omega) (by omega) (by omega)).mono ?_) | (with_reducible refine (IS.out 6 (by omega) (by omega) (by omega)).mono ?_)); rintro e w1 ⟨rfl, rfl⟩)
    go_ret
    exact ⟨rfl, rfl⟩
  · go_enter Tryz.func17, Tryz.ntmps17
    go_wp2
    refine wp_loop_rounds 2 ?_
    rw [rounds_succ]
    go_wp2_with (go_at_call 34; (first | (with_reducible refine SAME.out.mono ?_) | (with_reducible refine (IS.out 1 (by omega) (by omega) (by omega)).mono ?_) | (with_reducible refine (IS.out 3 (by omega) (by omega) (by omega)).mono ?_) | (with_reducible refine (IS.out 4 (by omega) (by omega) (by omega)).mono ?_) | (with_reducible refine (IS.out 5 (by omega) (by omega) (by omega)).mono ?_) | (with_reducible refine (IS.out 6 (by omega) (by omega) (by omega)).mono ?_)); rintro e w1 ⟨rfl, rfl⟩)
    rw [rounds_succ]
    go_wp2_with (go_at_call 34; (first | (with_reducible refine SAME.out.mono ?_) | (with_reducible refine (IS.out 1 (by omega) (by omega) (by omega)).mono ?_) | (with_reducible refine (IS.out 3 (by omega) (by omega) (by omega)).mono ?_) | (with_reducible refine (IS.out 4 (by omega) (by omega) (by omega)).mono ?_) | (with_reducible refine (IS.out 5 (by omega) (by omega) (by omega)).mono ?_) | (with_reducible refine (IS.out 6 (by omega) (by omega) (by omega)).mono ?_)); rintro e w1 ⟨rfl, rfl⟩)
    go_ret
    exact ⟨rfl, rfl⟩
  · go_enter Tryz.func17, Tryz.ntmps17
    go_wp2
    refine wp_loop_rounds 3 ?_
    rw [rounds_succ]
    go_wp2_with (go_at_call 34; (first | (with_reducible refine SAME.out.mono ?_) | (with_reducible refine (IS.out 1 (by omega) (by omega) (by omega)).mono ?_) | (with_reducible refine (IS.out 2 (by omega) (by omega) (by omega)).mono ?_) | (with_reducible refine (IS.out 4 (by omega) (by omega) (by omega)).mono ?_) | (with_reducible refine (IS.out 5 (by omega) (by omega) (by omega)).mono ?_) | (with_reducible refine (IS.out 6 (by omega) (by omega) (by omega)).mono ?_)); rintro e w1 ⟨rfl, rfl⟩)
    rw [rounds_succ]
    go_wp2_with (go_at_call 34; (first | (with_reducible refine SAME.out.mono ?_) | (with_reducible refine (IS.out 1 (by omega) (by omega) (by omega)).mono ?_) | (with_reducible refine (IS.out 2 (by omega) (by omega) (by omega)).mono ?_) | (with_reducible refine (IS.out 4 (by omega) (by omega) (by omega)).mono ?_) | (with_reducible refine (IS.out 5 (by omega) (by omega) (by omega)).mono ?_) | (with_reducible refine (IS.out 6 (by omega) (by omega) (by omega)).mono ?_)); rintro e w1 ⟨rfl, rfl⟩)
    rw [rounds_succ]
    go_wp2_with (go_at_call 34; (first | (with_reducible refine SAME.out.mono ?_) | (with_reducible refine (IS.out 1 (by omega) (by omega) (by omega)).mono ?_) | (with_reducible refine (IS.out 2 (by omega) (by omega) (by omega)).mono ?_) | (with_reducible refine (IS.out 4 (by omega) (by omega) (by omega)).mono ?_) | (with_reducible refine (IS.out 5 (by omega) (by omega) (by omega)).mono ?_) | (with_reducible refine (IS.out 6 (by omega) (by omega) (by omega)).mono ?_)); rintro e w1 ⟨rfl, rfl⟩)
    go_ret
    exact ⟨rfl, rfl⟩
  · go_enter Tryz.func17, Tryz.ntmps17
    go_wp2
    refine wp_loop_rounds 4 ?_
    rw [rounds_succ]
    go_wp2_with (go_at_call 34; (first | (with_reducible refine SAME.out.mono ?_) | (with_reducible refine (IS.out 1 (by omega) (by omega) (by omega)).mono ?_) | (with_reducible refine (IS.out 2 (by omega) (by omega) (by omega)).mono ?_) | (with_reducible refine (IS.out 3 (by omega) (by omega) (by omega)).mono ?_) | (with_reducible refine (IS.out 5 (by omega) (by omega) (by omega)).mono ?_) | (with_reducible refine (IS.out 6 (by omega) (by omega) (by omega)).mono ?_)); rintro e w1 ⟨rfl, rfl⟩)
    rw [rounds_succ]
    go_wp2_with (go_at_call 34; (first | (with_reducible refine SAME.out.mono ?_) | (with_reducible refine (IS.out 1 (by omega) (by omega) (by omega)).mono ?_) | (with_reducible refine (IS.out 2 (by omega) (by omega) (by omega)).mono ?_) | (with_reducible refine (IS.out 3 (by omega) (by omega) (by omega)).mono ?_) | (with_reducible refine (IS.out 5 (by omega) (by omega) (by omega)).mono ?_) | (with_reducible refine (IS.out 6 (by omega) (by omega) (by omega)).mono ?_)); rintro e w1 ⟨rfl, rfl⟩)
    rw [rounds_succ]
    go_wp2_with (go_at_call 34; (first | (with_reducible refine SAME.out.mono ?_) | (with_reducible refine (IS.out 1 (by omega) (by omega) (by omega)).mono ?_) | (with_reducible refine (IS.out 2 (by omega) (by omega) (by omega)).mono ?_) | (with_reducible refine (IS.out 3 (by omega) (by omega) (by omega)).mono ?_) | (with_reducible refine (IS.out 5 (by omega) (by omega) (by omega)).mono ?_) | (with_reducible refine (IS.out 6 (by omega) (by omega) (by omega)).mono ?_)); rintro e w1 ⟨rfl, rfl⟩)
    rw [rounds_succ]
    go_wp2_with (go_at_call 34; (first | (with_reducible refine SAME.out.mono ?_) | (with_reducible refine (IS.out 1 (by omega) (by omega) (by omega)).mono ?_) | (with_reducible refine (IS.out 2 (by omega) (by omega) (by omega)).mono ?_) | (with_reducible refine (IS.out 3 (by omega) (by omega) (by omega)).mono ?_) | (with_reducible refine (IS.out 5 (by omega) (by omega) (by omega)).mono ?_) | (with_reducible refine (IS.out 6 (by omega) (by omega) (by omega)).mono ?_)); rintro e w1 ⟨rfl, rfl⟩)
    go_ret
    exact ⟨rfl, rfl⟩
  · go_enter Tryz.func17, Tryz.ntmps17
    go_wp2
    refine wp_loop_rounds 5 ?_
    rw [rounds_succ]
    go_wp2_with (go_at_call 34; (first | (with_reducible refine SAME.out.mono ?_) | (with_reducible refine (IS.out 1 (by omega) (by omega) (by omega)).mono ?_) | (with_reducible refine (IS.out 2 (by omega) (by omega) (by omega)).mono ?_) | (with_reducible refine (IS.out 3 (by omega) (by omega) (by omega)).mono ?_) | (with_reducible refine (IS.out 4 (by omega) (by omega) (by omega)).mono ?_) | (with_reducible refine (IS.out 6 (by omega) (by omega) (by omega)).mono ?_)); rintro e w1 ⟨rfl, rfl⟩)
    rw [rounds_succ]
    go_wp2_with (go_at_call 34; (first | (with_reducible refine SAME.out.mono ?_) | (with_reducible refine (IS.out 1 (by omega) (by omega) (by omega)).mono ?_) | (with_reducible refine (IS.out 2 (by omega) (by omega) (by omega)).mono ?_) | (with_reducible refine (IS.out 3 (by omega) (by omega) (by omega)).mono ?_) | (with_reducible refine (IS.out 4 (by omega) (by omega) (by omega)).mono ?_) | (with_reducible refine (IS.out 6 (by omega) (by omega) (by omega)).mono ?_)); rintro e w1 ⟨rfl, rfl⟩)
    rw [rounds_succ]
    go_wp2_with (go_at_call 34; (first | (with_reducible refine SAME.out.mono ?_) | (with_reducible refine (IS.out 1 (by omega) (by omega) (by omega)).mono ?_) | (with_reducible refine (IS.out 2 (by omega) (by omega) (by omega)).mono ?_) | (with_reducible refine (IS.out 3 (by omega) (by omega) (by omega)).mono ?_) | (with_reducible refine (IS.out 4 (by omega) (by omega) (by omega)).mono ?_) | (with_reducible refine (IS.out 6 (by omega) (by omega) (by omega)).mono ?_)); rintro e w1 ⟨rfl, rfl⟩)
    rw [rounds_succ]
    go_wp2_with (go_at_call 34; (first | (with_reducible refine SAME.out.mono ?_) | (with_reducible refine (IS.out 1 (by omega) (by omega) (by omega)).mono ?_) | (with_reducible refine (IS.out 2 (by omega) (by omega) (by omega)).mono ?_) | (with_reducible refine (IS.out 3 (by omega) (by omega) (by omega)).mono ?_) | (with_reducible refine (IS.out 4 (by omega) (by omega) (by omega)).mono ?_) | (with_reducible refine (IS.out 6 (by omega) (by omega) (by omega)).mono ?_)); rintro e w1 ⟨rfl, rfl⟩)
    rw [rounds_succ]
    go_wp2_with (go_at_call 34; (first | (with_reducible refine SAME.out.mono ?_) | (with_reducible refine (IS.out 1 (by omega) (by omega) (by omega)).mono ?_) | (with_reducible refine (IS.out 2 (by omega) (by omega) (by omega)).mono ?_) | (with_reducible refine (IS.out 3 (by omega) (by omega) (by omega)).mono ?_) | (with_reducible refine (IS.out 4 (by omega) (by omega) (by omega)).mono ?_) | (with_reducible refine (IS.out 6 (by omega) (by omega) (by omega)).mono ?_)); rintro e w1 ⟨rfl, rfl⟩)
    go_ret
    exact ⟨rfl, rfl⟩
  · go_enter Tryz.func17, Tryz.ntmps17
    go_wp2
    refine wp_loop_rounds 6 ?_
    rw [rounds_succ]
    go_wp2_with (go_at_call 34; (first | (with_reducible refine SAME.out.mono ?_) | (with_reducible refine (IS.out 1 (by omega) (by omega) (by omega)).mono ?_) | (with_reducible refine (IS.out 2 (by omega) (by omega) (by omega)).mono ?_) | (with_reducible refine (IS.out 3 (by omega) (by omega) (by omega)).mono ?_) | (with_reducible refine (IS.out 4 (by omega) (by omega) (by omega)).mono ?_) | (with_reducible refine (IS.out 5 (by omega) (by omega) (by omega)).mono ?_)); rintro e w1 ⟨rfl, rfl⟩)
    rw [rounds_succ]
    go_wp2_with (go_at_call 34; (first | (with_reducible refine SAME.out.mono ?_) | (with_reducible refine (IS.out 1 (by omega) (by omega) (by omega)).mono ?_) | (with_reducible refine (IS.out 2 (by omega) (by omega) (by omega)).mono ?_) | (with_reducible refine (IS.out 3 (by omega) (by omega) (by omega)).mono ?_) | (with_reducible refine (IS.out 4 (by omega) (by omega) (by omega)).mono ?_) | (with_reducible refine (IS.out 5 (by omega) (by omega) (by omega)).mono ?_)); rintro e w1 ⟨rfl, rfl⟩)
    rw [rounds_succ]
    go_wp2_with (go_at_call 34; (first | (with_reducible refine SAME.out.mono ?_) | (with_reducible refine (IS.out 1 (by omega) (by omega) (by omega)).mono ?_) | (with_reducible refine (IS.out 2 (by omega) (by omega) (by omega)).mono ?_) | (with_reducible refine (IS.out 3 (by omega) (by omega) (by omega)).mono ?_) | (with_reducible refine (IS.out 4 (by omega) (by omega) (by omega)).mono ?_) | (with_reducible refine (IS.out 5 (by omega) (by omega) (by omega)).mono ?_)); rintro e w1 ⟨rfl, rfl⟩)
    rw [rounds_succ]
    go_wp2_with (go_at_call 34; (first | (with_reducible refine SAME.out.mono ?_) | (with_reducible refine (IS.out 1 (by omega) (by omega) (by omega)).mono ?_) | (with_reducible refine (IS.out 2 (by omega) (by omega) (by omega)).mono ?_) | (with_reducible refine (IS.out 3 (by omega) (by omega) (by omega)).mono ?_) | (with_reducible refine (IS.out 4 (by omega) (by omega) (by omega)).mono ?_) | (with_reducible refine (IS.out 5 (by omega) (by omega) (by omega)).mono ?_)); rintro e w1 ⟨rfl, rfl⟩)
    rw [rounds_succ]
    go_wp2_with (go_at_call 34; (first | (with_reducible refine SAME.out.mono ?_) | (with_reducible refine (IS.out 1 (by omega) (by omega) (by omega)).mono ?_) | (with_reducible refine (IS.out 2 (by omega) (by omega) (by omega)).mono ?_) | (with_reducible refine (IS.out 3 (by omega) (by omega) (by omega)).mono ?_) | (with_reducible refine (IS.out 4 (by omega) (by omega) (by omega)).mono ?_) | (with_reducible refine (IS.out 5 (by omega) (by omega) (by omega)).mono ?_)); rintro e w1 ⟨rfl, rfl⟩)
    rw [rounds_succ]
    go_wp2_with (go_at_call 34; (first | (with_reducible refine SAME.out.mono ?_) | (with_reducible refine (IS.out 1 (by omega) (by omega) (by omega)).mono ?_) | (with_reducible refine (IS.out 2 (by omega) (by omega) (by omega)).mono ?_) | (with_reducible refine (IS.out 3 (by omega) (by omega) (by omega)).mono ?_) | (with_reducible refine (IS.out 4 (by omega) (by omega) (by omega)).mono ?_) | (with_reducible refine (IS.out 5 (by omega) (by omega) (by omega)).mono ?_)); rintro e w1 ⟨rfl, rfl⟩)
    go_ret
    exact ⟨rfl, rfl⟩
end Go.Proofs.YtfaocjcpnjmfiaaGreatDoor
