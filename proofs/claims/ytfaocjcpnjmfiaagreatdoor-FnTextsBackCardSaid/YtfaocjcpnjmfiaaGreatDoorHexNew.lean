/-
  uint256's FromHex, the thin package's FromHex.
-/
import Derived.Test.YtfaocjcpnjmfiaaGreatDoorBunT
import Derived.Test.YtfaocjcpnjmfiaaGreatDoorErrIs
import Derived.Test.YtfaocjcpnjmfiaaGreatDoorCellR
set_option linter.unusedVariables false
set_option linter.unusedSimpArgs false
namespace Go.Proofs.YtfaocjcpnjmfiaaGreatDoor
open Go.RowKit
set_option maxHeartbeats 2000000 in
/-- FromHex: a new number, or the error. -/
theorem fromHexNew_ok (a : Nat → Addr) (s : List UInt8) (w : World) (hE : HexE a w) (hw : 5 < w.heap.size) (h0 : hexFault s = 0) :
    Calls Tryz.prog 16 #[.string ⟨s.toArray⟩] w fun e w' => Below w.heap.size w w' ∧ ∃ B, e = .returned (.tuple #[.pointer (some ⟨B, 0, none⟩), .nilIface]) ∧ At4 w' B 0 (ofN (hv (s.drop 2))) := by
  have hz : At4 (w.alloc (Obj.cells #[.int .u64 0, .int .u64 0, .int .u64 0, .int .u64 0] 41)) w.heap.size 0 ⟨0#64, 0#64, 0#64, 0#64⟩ := by constructor <;> simp [go_sem] <;> rfl
  have hf : Free4 (w.alloc (Obj.cells #[.int .u64 0, .int .u64 0, .int .u64 0, .int .u64 0] 41)) w.heap.size 0 := by constructor <;> simp [go_sem]
  have h := fromHex_any a w.heap.size _ s _ hz hf (hE.bel (bel_alloc (bel_refl w) _)) hw
  rw [h0] at h
  have FH := Lib.hid h
  clear hE hz hf h
  go_enter Tryz.func16, Tryz.ntmps16
  go_wp2_with fail
  refine FH.out.mono ?_
  rintro e w1 ⟨rfl, hb, h4⟩
  have HB := Lib.hid (hb.bel (bel_alloc (bel_refl w) _) (fun x hx => by simp at hx; omega))
  have H4 := Lib.hid (h4 (by trivial))
  rw [errV_zero]
  clear hb h4 FH
  go_wp2
  go_ret2
  exact ⟨HB.out, _, rfl, H4.out⟩
set_option maxHeartbeats 2000000 in
theorem fromHexNew_bad (a : Nat → Addr) (s : List UInt8) (w : World) (hE : HexE a w) (hw : 5 < w.heap.size) (h0 : hexFault s ≠ 0) :
    Calls Tryz.prog 16 #[.string ⟨s.toArray⟩] w fun e w' => Below w.heap.size w w' ∧ e = .returned (.tuple #[.pointer none, .iface 116 (.pointer (some (a (hexFault s))))]) := by
  have hz : At4 (w.alloc (Obj.cells #[.int .u64 0, .int .u64 0, .int .u64 0, .int .u64 0] 41)) w.heap.size 0 ⟨0#64, 0#64, 0#64, 0#64⟩ := by constructor <;> simp [go_sem] <;> rfl
  have hf : Free4 (w.alloc (Obj.cells #[.int .u64 0, .int .u64 0, .int .u64 0, .int .u64 0] 41)) w.heap.size 0 := by constructor <;> simp [go_sem]
  have h := fromHex_any a w.heap.size _ s _ hz hf (hE.bel (bel_alloc (bel_refl w) _)) hw
  have hev : errV a (hexFault s) = .iface 116 (.pointer (some (a (hexFault s)))) := by unfold errV; rw [if_neg h0]
  rw [hev] at h
  have FH := Lib.hid h
  clear hE hz hf h hev h0
  generalize hexFault s = k at *
  go_enter Tryz.func16, Tryz.ntmps16
  go_wp2_with fail
  refine FH.out.mono ?_
  rintro e w1 ⟨rfl, hb, h4⟩
  have HB := Lib.hid (hb.bel (bel_alloc (bel_refl w) _) (fun x hx => by simp at hx; omega))
  clear hb h4 FH
  go_wp2
  go_ret2
  exact ⟨HB.out, rfl⟩
set_option maxHeartbeats 1000000 in
theorem implFromHex_ok (a : Nat → Addr) (s : List UInt8) (w : World) (hE : HexE a w) (hw : 5 < w.heap.size) (h0 : hexFault s = 0) :
    Calls Tryz.prog 6 #[.string ⟨s.toArray⟩] w fun e w' => e = .returned (.tuple #[(ofN (hv (s.drop 2))).v, .int .i64 0]) ∧ Below w.heap.size w w' := by
  have hth := thereR_z w
  have NE := Lib.hid (fromHexNew_ok a s (w.alloc Z4R) (hE.bel (bel_alloc (bel_refl w) _)) (by simp; omega) h0)
  generalize ofN (hv (s.drop 2)) = x at *
  clear h0 hE
  go_enter Tryz.func6, Tryz.ntmps6
  go_wp2_with fail
  refine NE.out.mono ?_
  rintro e w2 ⟨hb2, B, rfl, h4⟩
  have H4 := Lib.hid h4
  have hth2 := thereR_bel hth (by omega) hb2
  clear h4
  go_wp2_with fail
  refine (numOf_any B 0 x _ H4.out).mono ?_
  rintro e w3 ⟨rfl, hb3⟩
  have hth3 := thereR_bel hth2 (by omega) hb3
  go_wp2_with (show wpList _ _ _ (⟨none, Op.store 24 _ _, _, _, _, _⟩ :: _) _ _; refine wpList_store_mid (op := ⟨none, Op.store 24 (.tmp 2) (.tmp 17), _, _, _, _⟩) rfl 24 _ _ rfl w.heap.size 0 [V x.a, V x.b, V x.c, V x.d].toArray rfl rfl hth3 (by kernel_rfl) (by simp [Value.oneCell']) ?_)
  go_wp2
  refine bodyPost_ret (v := .tuple #[x.v, .int .i64 0]) (resultsR_slot rfl _ _ w.heap.size [V x.a, V x.b, V x.c, V x.d] _ rfl (World.rangeAt_setCells_same _ _ 0 _ hth3) Tryz.underlying24 rfl (by kernel_rfl) rfl) rfl ⟨rfl, ?_⟩
  exact setCellsR_bel (bel_trans (bel_trans (bel_alloc (bel_refl w) _) hb2) hb3) (Nat.le_refl _)
set_option maxHeartbeats 1000000 in
theorem implFromHex_bad (a : Nat → Addr) (s : List UInt8) (w : World) (hE : HexE a w) (hD : HexD a w) (hw : 5 < w.heap.size) (h0 : hexFault s ≠ 0) (h6 : hexFault s ≤ 6) :
    Calls Tryz.prog 6 #[.string ⟨s.toArray⟩] w fun e w' => e = .returned (.tuple #[zeroR.v, .int .i64 (hexFault s : Int)]) ∧ Below w.heap.size w w' := by
  have hth := thereR_z w
  have bz := bel_alloc (bel_refl w) Z4R
  have NE := Lib.hid (fromHexNew_bad a s (w.alloc Z4R) (hE.bel bz) (by simp; omega) h0)
  generalize hexFault s = k at *
  have CO : Hid (∀ w2, Below (w.alloc Z4R).heap.size (w.alloc Z4R) w2 → Calls Tryz.prog 17 #[.iface 116 (.pointer (some (a k)))] w2 fun e w' => e = .returned (.int .i64 (k : Int)) ∧ w' = w2) := fun w2 hb => codeOf_any a k w2 ((hE.bel bz).bel hb) ((hD.bel bz).bel hb) (by omega) h6
  clear h0 hE hD h6 bz
  go_enter Tryz.func6, Tryz.ntmps6
  go_wp2_with fail
  refine NE.out.mono ?_
  rintro e w2 ⟨hb2, rfl⟩
  have HB2 := Lib.hid hb2
  have hth2 := thereR_bel hth (by omega) hb2
  clear hb2
  go_wp2_with fail
  refine (CO.out w2 HB2.out).mono ?_
  rintro e w3 ⟨rfl, hw3⟩
  have hw4 := hw3.symm
  subst hw4
  go_wp2_with (show wpList _ _ _ (⟨none, Op.store 24 _ _, _, _, _, _⟩ :: _) _ _; refine wpList_store_mid (op := ⟨none, Op.store 24 (.tmp 2) (.tmp 13), _, _, _, _⟩) rfl 24 _ _ rfl w.heap.size 0 [V zeroR.a, V zeroR.b, V zeroR.c, V zeroR.d].toArray rfl rfl hth2 (by kernel_rfl) (by simp [Value.oneCell']) ?_)
  go_wp2
  refine bodyPost_ret (v := .tuple #[zeroR.v, .int .i64 (k : Int)]) (resultsR_slot rfl _ _ w.heap.size [V zeroR.a, V zeroR.b, V zeroR.c, V zeroR.d] _ rfl (World.rangeAt_setCells_same _ _ 0 _ hth2) Tryz.underlying24 rfl (by kernel_rfl) rfl) rfl ⟨rfl, ?_⟩
  exact setCellsR_bel (bel_trans (bel_alloc (bel_refl w) _) HB2.out) (Nat.le_refl _)
end Go.Proofs.YtfaocjcpnjmfiaaGreatDoor
