/-
  strconv.FormatUint and AppendUint at base 10 (the kit's contracts of the parts, laid at this program by its tool: XShelf).
-/
import Derived.Test.YtbgmeppidedfbaaDoorShelf
import Derived.Lib.AppendIntMem
import Derived.Lib.BufferKept
import Derived.Lib.OwnKind
import Derived.Test.YtbgmeppidedfbaaDoorImpl0
namespace Go.Proofs.YtbgmeppidedfbaaDoor
open Go.RowKit Go.Sort Go.Lib

/-- The powers of ten of the library hold what its text lays into them. -/
def P10 (w : World) : Prop := Lib.TabIs Tryd.prog w "internal/strconv.uint64pow10" .u64 Lib.pow10Tab
theorem P10.bel {w w1 : World} (h : P10 w) (hb : Below w.heap.size w w1) : P10 w1 := Lib.tabBelow_of_tabIs h w1 hb

theorem appendUintIn (B n u : Nat) (hu64 : u < 18446744073709551616) (sv : Value) (xs : List Value) (w : World) (hown : w.ownsRow B 5 1 sv n xs) (hBw : B ≤ w.heap.size) (hlim : n + 20 ≤ 140737488355328) (htab : P10 w) :
    Calls Tryd.prog 72 #[sv, .int .u64 u, .int .i64 10] w fun e w' => ∃ v', e = .returned v' ∧ w'.ownsRow B 5 1 v' (n + (Lib.decDigits u).length) (xs ++ Lib.byteCells (Lib.decDigits u)) ∧ Below B w w' := by
  by_cases h : u < 100
  · exact (Tryd.internal_strconv_AppendUint_10_small B n u h sv xs w hown hBw hlim).mono fun e w' ⟨v', h1, h2, h3, _⟩ => ⟨v', h1, h2, h3⟩
  · exact (Tryd.internal_strconv_AppendUint_10_big B n u (by omega) hu64 sv xs w hown hBw hlim htab).mono fun e w' ⟨v', h1, h2, h3, _⟩ => ⟨v', h1, h2, h3⟩

theorem appendUint_any (B n u : Nat) (hu64 : u < 18446744073709551616) (sv : Value) (xs : List Value) (w : World) (hown : w.ownsRow B 5 1 sv n xs) (hBw : B ≤ w.heap.size) (hlim : n + 20 ≤ 140737488355328) (htab : P10 w) :
    Calls Tryd.prog 55 #[sv, .int .u64 u, .int .i64 10] w fun e w' => ∃ v', e = .returned v' ∧ w'.ownsRow B 5 1 v' (n + (Lib.decDigits u).length) (xs ++ Lib.byteCells (Lib.decDigits u)) ∧ Below B w w' := by
  have HC := Lib.hid (appendUintIn B n u hu64 sv xs w hown hBw hlim htab)
  clear hown htab
  go_enter Tryd.func55, Tryd.ntmps55
  go_wp2_with fail
  refine HC.out.mono ?_
  rintro e w2 ⟨v2, rfl, hown2, hnx2⟩
  go_wp2
  go_ret
  exact ⟨v2, rfl, hown2, hnx2⟩

set_option maxHeartbeats 6400000 in
set_option maxRecDepth 100000 in
theorem formatUintIn (u : Nat) (hu64 : u < 18446744073709551616) (w : World) (htab : P10 w) :
    Calls Tryd.prog 73 #[.int .u64 u, .int .i64 10] w (RetBel (.string ⟨(Lib.decDigits u).toArray⟩) w) := by
  by_cases hs : u < 100
  · have hu : (u : Int) < 100 := by omega
    go_enter Tryd.func73, Tryd.ntmps73
    go_wp2_with fail
    refine (Tryd.internal_strconv_small u hs _).mono ?_
    rintro e w' ⟨rfl, rfl⟩
    go_wp2
    go_ret
    exact retBel rfl (bel_refl _)
  · have hu1 : 1 ≤ u := by omega
    have hu : (100 : Int) ≤ (u : Int) := by omega
    have hnd20 : Lib.nDigits u ≤ 20 := by have := Lib.numDigits_eq u hu1 hu64; split at this <;> omega
    have hal : Tryd.prog.arrayLen 103 = 24 := by kernel_rfl
    have hsl : ∀ W, (Instr.sliceAt 103 (.pointer (some ⟨w.heap.size, 0, none⟩)) none (some (.int .i64 (Lib.nDigits u : Int))) none).run Tryd.prog W = .ok (.slice (some ⟨w.heap.size, 0, none⟩) (Lib.nDigits u) 24) W := fun W => by
      rw [run_sliceAt_array_h W 103 ⟨w.heap.size, 0, none⟩ (by kernel_rfl) .i64 (Lib.nDigits u : Int) (by omega) (by rw [hal]; omega)]
      go_simp
    have hH0 := Lib.holds_zero0 w 103 (Lib.nDigits u) (by omega)
    have hfmt := Tryd.internal_strconv_formatBase10 w.heap.size 0 24 u (Array.replicate (Lib.nDigits u) 0) (w.alloc (.cells Lib.zeros24 103)) hH0 (by rw [Array.size_replicate]; exact Lib.lt_pow_nDigits u) hu64 (by rw [Array.size_replicate]; omega)
    rw [Array.size_replicate] at hfmt
    have HH0 := Lib.hid hH0
    clear hH0 hal
    go_enter Tryd.func73, Tryd.ntmps73
    go_wp2_with fail
    refine (Tryd.internal_strconv_numDigits u hu1 hu64 _ (Lib.tabIs_alloc htab _)).mono ?_
    rintro e w' ⟨rfl, rfl⟩
    go_wp2_with fail
    refine hfmt.mono ?_
    rintro e w' ⟨rfl, k, v', dk, rfl, hF⟩
    have hcv : (convert 49 9 (.slice (some ⟨w.heap.size, 0, none⟩) (Lib.nDigits u) 24)).run Tryd.prog ((putRow (fun (b : UInt8) => Value.int .u8 (b.toNat : Int)) (w.alloc (.cells Lib.zeros24 103)) w.heap.size 0 dk).drewN k) = .ok (.string ⟨(Lib.decDigits u).toArray⟩) ((putRow (fun (b : UInt8) => Value.int .u8 (b.toNat : Int)) (w.alloc (.cells Lib.zeros24 103)) w.heap.size 0 dk).drewN k) := by
      have h := run_convert_bytes_back (P := Tryd.prog) ((putRow (fun (b : UInt8) => Value.int .u8 (b.toNat : Int)) (w.alloc (.cells Lib.zeros24 103)) w.heap.size 0 dk).drewN k) 49 9 5 ⟨w.heap.size, 0, none⟩ 24 (Lib.decDigits u) (by kernel_rfl) (by kernel_rfl) (by kernel_rfl) (fun j hj => by
        rw [Lib.row_is_numeral hF j hj, Lib.add_plain, World.cell?_drewN]
        exact cell?_putRow (fun (b : UInt8) => Value.int .u8 (b.toNat : Int)) _ w.heap.size 0 _ dk HH0.out (by rw [hF.size, Array.size_replicate]) j (by rw [hF.size]; rw [Lib.decDigits_length] at hj; exact hj))
      rw [Lib.decDigits_length] at h
      exact h
    go_wp2
    go_ret
    obtain ⟨os, eo⟩ := Lib.fin_at w (.cells Lib.zeros24 103) dk k 0
    refine retBel rfl ?_
    rw [eo]
    exact Lib.below_grow w.heap.size w (Nat.le_refl _) k os

theorem formatUint_any (u : Nat) (hu64 : u < 18446744073709551616) (w : World) (htab : P10 w) :
    Calls Tryd.prog 62 #[.int .u64 u, .int .i64 10] w (RetBel (.string ⟨(Lib.decDigits u).toArray⟩) w) := by
  have HC := Lib.hid (formatUintIn u hu64 w htab)
  clear htab
  go_enter Tryd.func62, Tryd.ntmps62
  go_wp2_with fail
  refine HC.out.mono ?_
  rintro e w2 ⟨rfl, hb⟩
  go_wp2
  go_ret
  exact retBel rfl hb

end Go.Proofs.YtbgmeppidedfbaaDoor
