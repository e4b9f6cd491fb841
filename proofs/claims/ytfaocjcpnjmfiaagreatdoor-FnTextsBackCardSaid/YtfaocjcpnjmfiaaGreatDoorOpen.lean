/-
  How a law's arguments are opened: numbers, cells, ways, words, integers by value; and the program's two closed facts.
-/
import Derived.Test.YtfaocjcpnjmfiaaGreatDoorRows
import Derived.Test.YtfaocjcpnjmfiaaGreatDoorBase
import Derived.ProofKit
import Derived.OpenShut
import Derived.ShutString
import Derived.ChangeOld
namespace Go.Proofs.YtfaocjcpnjmfiaaGreatDoor
set_option maxRecDepth 20000
open Go.ChangeShapes Go.WideShapes Go.ChangeAt Go.RowKit

theorem Tryz.own : ownKnob Tryz.prog.godebug = none := by kernel_rfl
theorem Tryz.laidOut : laidOutB Tryz.prog = true := by kernel_rfl

theorem u64_has {n : Int} (h : IntKind.u64.has n) : ∃ x : W64, n = U x := by
  have hb : 0 ≤ n ∧ n ≤ 18446744073709551615 := by
    simp [IntKind.has, IntKind.min, IntKind.max, IntKind.signed, IntKind.bits] at h
    omega
  exact ⟨BitVec.ofNat 64 n.toNat, by rw [U_ofNat _ (by omega)]; omega⟩
theorem i64_has {n : Int} (h : IntKind.i64.has n) : -9223372036854775808 ≤ n ∧ n ≤ 9223372036854775807 := by
  simp [IntKind.has, IntKind.min, IntKind.max, IntKind.signed, IntKind.bits] at h
  omega

/-- The cells of a row all of whose leaves are words. -/
theorem row_words {P : Program} {w : World} {r : Reach} {base : Nat} {t u : TypeId} {cs : Array Value} {k : Nat} (hu : P.underlying u = some (.int .u64)) (hts : P.cellTypes P.depth t = some (List.replicate k u)) (h : Row.okWide P w r base t cs) (i : Nat) (hi : i < cs.size) :
    ∃ x : W64, cs[i]? = some (V x) := by
  obtain ⟨ts, hts', _, hc⟩ := h
  rw [hts] at hts'
  cases hts'
  obtain ⟨u', hu', hok⟩ := hc i cs[i] (Array.getElem?_eq_getElem hi)
  have hm := List.mem_of_getElem? hu'
  rw [List.mem_replicate] at hm
  obtain ⟨_, rfl⟩ := hm
  rw [Array.getElem?_eq_getElem hi]
  revert hok
  generalize cs[i] = v
  intro hok
  simp only [Cell.okWide, hu, Cell.ok] at hok
  cases v <;> simp at hok
  obtain ⟨rfl, hh⟩ := hok
  obtain ⟨x, rfl⟩ := u64_has hh
  exact ⟨x, rfl⟩
theorem row_ints {P : Program} {w : World} {r : Reach} {base : Nat} {t u : TypeId} {cs : Array Value} {k : Nat} (hu : P.underlying u = some (.int .i64)) (hts : P.cellTypes P.depth t = some (List.replicate k u)) (h : Row.okWide P w r base t cs) (i : Nat) (hi : i < cs.size) :
    ∃ n : Int, cs[i]? = some (.int .i64 n) ∧ -9223372036854775808 ≤ n ∧ n ≤ 9223372036854775807 := by
  obtain ⟨ts, hts', _, hc⟩ := h
  rw [hts] at hts'
  cases hts'
  obtain ⟨u', hu', hok⟩ := hc i cs[i] (Array.getElem?_eq_getElem hi)
  have hm := List.mem_of_getElem? hu'
  rw [List.mem_replicate] at hm
  obtain ⟨_, rfl⟩ := hm
  rw [Array.getElem?_eq_getElem hi]
  revert hok
  generalize cs[i] = v
  intro hok
  simp only [Cell.okWide, hu, Cell.ok] at hok
  cases v <;> simp at hok
  obtain ⟨rfl, hh⟩ := hok
  exact ⟨_, rfl, i64_has hh⟩
theorem array4 {cs : Array Value} {a b c d : Value} (h : cs.size = 4) (h0 : cs[0]? = some a) (h1 : cs[1]? = some b) (h2 : cs[2]? = some c) (h3 : cs[3]? = some d) : cs = #[a, b, c, d] := by
  apply Array.ext_getElem?
  intro i
  match i with
  | 0 => simpa using h0
  | 1 => simpa using h1
  | 2 => simpa using h2
  | 3 => simpa using h3
  | i + 4 => rw [Array.getElem?_eq_none (by omega)]; simp
theorem array16 {cs : Array Value} {a0 a1 a2 a3 a4 a5 a6 a7 a8 a9 a10 a11 a12 a13 a14 a15 : Value} (h : cs.size = 16) (h0 : cs[0]? = some a0) (h1 : cs[1]? = some a1) (h2 : cs[2]? = some a2) (h3 : cs[3]? = some a3)
    (h4 : cs[4]? = some a4) (h5 : cs[5]? = some a5) (h6 : cs[6]? = some a6) (h7 : cs[7]? = some a7) (h8 : cs[8]? = some a8) (h9 : cs[9]? = some a9) (h10 : cs[10]? = some a10) (h11 : cs[11]? = some a11)
    (h12 : cs[12]? = some a12) (h13 : cs[13]? = some a13) (h14 : cs[14]? = some a14) (h15 : cs[15]? = some a15) : cs = #[a0, a1, a2, a3, a4, a5, a6, a7, a8, a9, a10, a11, a12, a13, a14, a15] := by
  apply Array.ext_getElem?
  intro i
  match i with
  | 0 => simpa using h0
  | 1 => simpa using h1
  | 2 => simpa using h2
  | 3 => simpa using h3
  | 4 => simpa using h4
  | 5 => simpa using h5
  | 6 => simpa using h6
  | 7 => simpa using h7
  | 8 => simpa using h8
  | 9 => simpa using h9
  | 10 => simpa using h10
  | 11 => simpa using h11
  | 12 => simpa using h12
  | 13 => simpa using h13
  | 14 => simpa using h14
  | 15 => simpa using h15
  | i + 16 => rw [Array.getElem?_eq_none (by omega)]; simp

theorem open_word {w : World} {r : Reach} {base : Nat} {v : Value} (h : Value.okWide Tryz.prog w r base 22 v) : ∃ x : W64, v = V x := by
  simp only [Value.okWide, Tryz.underlying22, Cell.okWide, Cell.ok] at h
  cases v <;> simp at h
  obtain ⟨rfl, hh⟩ := h
  obtain ⟨x, rfl⟩ := u64_has hh
  exact ⟨x, rfl⟩
theorem open_i64 {w : World} {r : Reach} {base : Nat} {v : Value} (h : Value.okWide Tryz.prog w r base 3 v) : ∃ n : Int, v = .int .i64 n ∧ I64 n := by
  simp only [Value.okWide, Tryz.underlying3, Cell.okWide, Cell.ok] at h
  cases v <;> simp at h
  obtain ⟨rfl, hh⟩ := h
  exact ⟨_, rfl, i64_has hh⟩
theorem Tryz.leavesNum : Tryz.prog.cellTypes Tryz.prog.depth 24 = some (List.replicate 4 22) := by kernel_rfl
theorem Tryz.cellsNum : Tryz.prog.cellsOf 24 = 4 := by kernel_rfl
theorem open_num {w : World} {r : Reach} {base : Nat} {v : Value} (h : Value.okWide Tryz.prog w r base 24 v) : ∃ x : N4, v = x.v := by
  simp only [Value.okWide, Tryz.underlying24, Tryz.cellsNum] at h
  obtain ⟨cs, rfl, hs, hr⟩ := h
  have k := row_words Tryz.underlying22 Tryz.leavesNum hr
  obtain ⟨x0, h0⟩ := k 0 (by omega)
  obtain ⟨x1, h1⟩ := k 1 (by omega)
  obtain ⟨x2, h2⟩ := k 2 (by omega)
  obtain ⟨x3, h3⟩ := k 3 (by omega)
  exact ⟨⟨x0, x1, x2, x3⟩, by rw [array4 hs h0 h1 h2 h3]⟩
end Go.Proofs.YtfaocjcpnjmfiaaGreatDoor
