/-
  The tables of powers of ten: what the row lists of them, and the cells.
-/
import Derived.Test.YtpjljjajnfoccaaDoorRows
import Derived.Test.YtpjljjajnfoccaaDoorArith
import Derived.Lib.LaidU8
import Derived.OpenShut
import Derived.LaidMore
import Derived.Stop.Joined
namespace Go.Proofs.YtpjljjajnfoccaaDoor
open Go.RowKit Go.Lib
set_option linter.unusedVariables false
set_option linter.unusedSimpArgs false
set_option maxRecDepth 100000
def p64L : List Int := (List.range 20).map fun i => ((10 ^ i : Nat) : Int)
def powW (i : Nat) : List Int := (List.range 4).map fun j => ((10 ^ (20 + i) / 2 ^ (64 * j) % 2 ^ 64 : Nat) : Int)
theorem p64_datum : (Rows.laid_loop_example_pub_g03023_pub_uint256_pows64 : DataW Unit) = tabData .u64 p64L := by kernel_rfl
theorem pows_datum : (Rows.laid_loop_example_pub_g03023_pub_uint256_pows : DataW Unit) = .agg ((List.range 60).map fun i => tabData .u64 (powW i)) := by kernel_rfl
/-- The tables in memory. -/
structure Pows (w : World) : Prop where
  p64 : ∀ i, i < 20 → w.cell? ⟨0, i, none⟩ = some (.int .u64 ((10 ^ i : Nat) : Int))
  pw : ∀ i, i < 58 → At4 w 1 (i * 4) (ofN (10 ^ (20 + i)))
theorem Pows.bel {w w' : World} (h : Pows w) (k : Below w.heap.size w w') : Pows w' :=
  ⟨fun i hi => bel_cell k (h.p64 i hi), fun i hi => (h.pw i hi).bel k⟩
theorem Pows.drewN {w : World} (h : Pows w) (n : Nat) : Pows (w.drewN n) := ⟨h.p64, fun i hi => (h.pw i hi).drewN n⟩
theorem pows_of {w : World} (h1 : VarReads Tryd.prog w "loop.example/pub-g03023/pub/uint256.pows64" Rows.laid_loop_example_pub_g03023_pub_uint256_pows64) (h2 : VarReads Tryd.prog w "loop.example/pub-g03023/pub/uint256.pows" Rows.laid_loop_example_pub_g03023_pub_uint256_pows) : Pows w := by
  refine ⟨fun i hi => ?_, fun i hi => ?_⟩
  · obtain ⟨g, t, cs, fuel, p, hg, hty, hvar, hd⟩ := h1
    obtain rfl := Option.some.inj ((show Tryd.prog.globalNamed "loop.example/pub-g03023/pub/uint256.pows64" = some 0 by kernel_rfl).symm.trans hg)
    obtain rfl := Option.some.inj ((show (Tryd.prog.globals[0]?).map (·.type) = some 79 by kernel_rfl).symm.trans hty)
    rw [p64_datum] at hd
    have hcs := cells_of_tab (t := 79) (e := 22) (n := 20) (k := .u64) (by kernel_rfl) (by kernel_rfl) (by kernel_rfl) (by kernel_rfl) hd
    have := World.var?_cell hg hvar i
    rw [this, ← Array.getElem?_toList, hcs]
    simp [p64L, hi]
  · obtain ⟨g, t, cs, fuel, p, hg, hty, hvar, hd⟩ := h2
    obtain rfl := Option.some.inj ((show Tryd.prog.globalNamed "loop.example/pub-g03023/pub/uint256.pows" = some 1 by kernel_rfl).symm.trans hg)
    obtain rfl := Option.some.inj ((show (Tryd.prog.globals[1]?).map (·.type) = some 81 by kernel_rfl).symm.trans hty)
    rw [pows_datum] at hd
    obtain ⟨fuel', d, q, hdi, he⟩ := array_elem (t := 81) (e := 65) (n := 60) (by kernel_rfl) hd i (by omega)
    simp only [List.getElem?_map, List.getElem?_range (show i < 60 by omega), Option.map_some, Option.some.injEq] at hdi
    subst hdi
    rw [show Tryd.prog.cellsOf 65 = 4 by kernel_rfl] at he
    have hcs := cells_of_tab (t := 65) (e := 22) (n := 4) (k := .u64) (by kernel_rfl) (by kernel_rfl) (by kernel_rfl) (by kernel_rfl) he
    have key : ∀ j, j < 4 → w.cell? ⟨1, i * 4 + j, none⟩ = some (.int .u64 ((10 ^ (20 + i) / 2 ^ (64 * j) % 2 ^ 64 : Nat) : Int)) := fun j hj => by
      have e0 := congrArg (·[j]?) hcs
      simp only [List.getElem?_take, List.getElem?_drop, if_pos hj] at e0
      rw [World.var?_cell hg hvar (i * 4 + j), ← Array.getElem?_toList, e0]
      simp [powW, hj]
    have k0 := key 0 (by omega)
    have k1 := key 1 (by omega)
    have k2 := key 2 (by omega)
    have k3 := key 3 (by omega)
    obtain ⟨P, hP⟩ : ∃ P, P = 10 ^ (20 + i) := ⟨_, rfl⟩
    rw [← hP] at k0 k1 k2 k3 ⊢
    have wd : ∀ n : Nat, V (BitVec.ofNat 64 n) = .int .u64 ((n % 2 ^ 64 : Nat) : Int) := fun n => by
      show Value.int .u64 (U (BitVec.ofNat 64 n)) = _
      unfold U
      rw [BitVec.toNat_ofNat]
    refine ⟨?_, ?_, ?_, ?_⟩
    · refine k0.trans ?_
      unfold ofN
      rw [wd]
      simp
    · refine k1.trans ?_
      unfold ofN
      rw [wd]
    · refine k2.trans ?_
      unfold ofN
      rw [wd]
    · refine k3.trans ?_
      unfold ofN
      rw [wd]
end Go.Proofs.YtpjljjajnfoccaaDoor
