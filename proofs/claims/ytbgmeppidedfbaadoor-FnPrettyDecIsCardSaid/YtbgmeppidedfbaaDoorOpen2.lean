/-
  How a law's slice of bytes and its byte are opened.
-/
import Derived.Test.YtbgmeppidedfbaaDoorOpen
import Derived.Test.YtbgmeppidedfbaaDoorByt
import Derived.ChangeSlices
namespace Go.Proofs.YtbgmeppidedfbaaDoor
set_option maxRecDepth 20000
open Go.ChangeShapes Go.WideShapes Go.ChangeAt Go.RowKit
set_option linter.unusedVariables false
theorem u8_wf {n : Int} (h : (Lit.int .u8 n).wf = true) : 0 ≤ n ∧ n ≤ 255 := by
  simp [Lit.wf, IntKind.min, IntKind.max, IntKind.signed, IntKind.bits] at h
  omega
theorem Tryd.cellsU8 : Tryd.prog.cellsOf 5 = 1 := by kernel_rfl
theorem open_bytes {H : Type} {enc : TypeId × Value → H} {W : World} {base : Nat} {v : Value} {d : DataW H} {p : List MemPlace} (hval : Value.okWide Tryd.prog W .any base 49 v)
    (h : DataW.Trod enc Tryd.prog W 0 (fun _ => true) true 49 v d p) : ∃ l : List UInt8, SlB W v l := by
  obtain ⟨a1, len, cap, rfl⟩ := okWide_slice Tryd.underlying49 hval
  obtain ⟨fuel, hf⟩ := h
  rcases open_ints Tryd.underlying49 Tryd.underlying5 Tryd.cellsU8 hf with ⟨hcs, hx⟩ | ⟨a, len', cap', zs, hcs, _, hl, hm, hz, hx, hcell, hwz⟩
  · simp [Value.cells] at hcs
    obtain ⟨rfl, rfl, rfl⟩ := hcs
    exact ⟨[], SlB.nil W⟩
  · simp [Value.cells] at hcs
    obtain ⟨rfl, rfl, rfl⟩ := hcs
    simp only [if_true] at hz
    have hlen : ((zs.take len).map fun n => UInt8.ofNat n.toNat).length = len := by simp; omega
    refine ⟨(zs.take len).map fun n => UInt8.ofNat n.toNat, _, cap, by rw [hlen], by rw [hlen]; exact hl, fun i b hb => ?_⟩
    have hi : i < len := by
      have := (List.getElem?_eq_some_iff.1 hb).1
      omega
    obtain ⟨ab, ao, spot⟩ := a
    have hc := hcell i (by omega)
    have hspot : spot = none := by simpa [Addr.add] using World.cell?_spot (hcell 0 (by omega))
    subst hspot
    rw [Addr.add_lit] at hc
    refine ⟨ab, ao, rfl, ?_⟩
    rw [hc]
    have e : zs.getD i 0 = zs[i]'(by omega) := by simp [List.getD, List.getElem?_eq_getElem (show i < zs.length by omega)]
    rw [e]
    have hw := u8_wf (hwz _ (List.getElem_mem (show i < zs.length by omega)))
    rw [List.getElem?_map, List.getElem?_take, if_pos hi, List.getElem?_eq_getElem (show i < zs.length by omega)] at hb
    simp at hb
    subst hb
    congr 2
    rw [UInt8.toNat_ofNat']
    omega
theorem u8_has {n : Int} (h : IntKind.u8.has n) : 0 ≤ n ∧ n ≤ 255 := by
  simp [IntKind.has, IntKind.min, IntKind.max, IntKind.signed, IntKind.bits] at h
  omega
theorem open_byte {w : World} {r : Reach} {base : Nat} {v : Value} (h : Value.okWide Tryd.prog w r base 5 v) : ∃ b : UInt8, v = .int .u8 (b.toNat : Int) := by
  simp only [Value.okWide, Tryd.underlying5, Cell.okWide, Cell.ok] at h
  cases v <;> simp at h
  obtain ⟨rfl, hh⟩ := h
  rename_i n
  have hb := u8_has hh
  exact ⟨UInt8.ofNat n.toNat, by congr 1; rw [UInt8.toNat_ofNat']; omega⟩
end Go.Proofs.YtbgmeppidedfbaaDoor
