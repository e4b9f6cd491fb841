/-
  uint256's FromDecimal, the thin package's FromDecimal.
-/
import Derived.Test.YtfaocjcpnjmfiaaDoorSetDec
import Derived.Test.YtfaocjcpnjmfiaaDoorCellR
set_option linter.unusedVariables false
set_option linter.unusedSimpArgs false
namespace Go.Proofs.YtfaocjcpnjmfiaaDoor
open Go.RowKit
theorem RetTxt.yes {ok : Prop} {n b : Nat} {w w' : World} {e : Ending} (h : RetTxt ok n b w e w') (k : ok) : e = .returned .nilIface ∧ But [b] w w' ∧ At4 w' b 0 (ofN n) ∧ Free4 w' b 0 := by
  obtain ⟨v, rfl, hb, h | h⟩ := h
  · obtain ⟨_, rfl, h1, h2⟩ := h
    exact ⟨rfl, hb, h1, h2⟩
  · exact absurd k h.1
theorem RetTxt.no {ok : Prop} {n b : Nat} {w w' : World} {e : Ending} (h : RetTxt ok n b w e w') (k : ¬ ok) : But [b] w w' ∧ ∃ t u, e = .returned (.iface t u) := by
  obtain ⟨v, rfl, hb, h | h⟩ := h
  · exact absurd h.1 k
  · obtain ⟨_, t, u, rfl⟩ := h
    exact ⟨hb, t, u, rfl⟩
/-- What the decimal readers ask of the memory, no receiver in sight. -/
structure DecW (a : Nat → Addr) (w : World) : Prop where
  syn : SynE w
  mul : MulT a w
  eof : ∃ t u, w.cell? ⟨2, 0, none⟩ = some (.iface t u)
  big : ∃ t u, w.cell? ⟨0, 0, none⟩ = some (.iface t u)
theorem DecW.bel {a : Nat → Addr} {w w' : World} (h : DecW a w) (k : Below w.heap.size w w') : DecW a w' := by
  obtain ⟨h1, h2, ⟨t, u, h4⟩, ⟨t2, u2, h5⟩⟩ := h
  exact ⟨h1.bel k, h2.bel k, ⟨t, u, bel_cell k h4⟩, ⟨t2, u2, bel_cell k h5⟩⟩
theorem DecW.away {a : Nat → Addr} {w w' : World} (h : DecW a w) (k : Below w.heap.size w w') (b : Nat) (hb : w.heap.size ≤ b) : DecE a b w' := by
  have h' := h.bel k
  obtain ⟨t0, u0, h1⟩ := h.syn
  obtain ⟨t, u, h4⟩ := h.eof
  have l1 := World.block_lt_of_cell? w _ h1
  have l2 := World.block_lt_of_cell? w _ h4
  have l3 := World.block_lt_of_cell? w _ h.mul.c0
  exact ⟨h'.syn, h'.mul, fun j h1 h2 => by have := (h.mul.at4 j h1 h2).lt; omega, h'.eof, h'.big, Nat.lt_of_lt_of_le l1 hb, Nat.lt_of_lt_of_le l2 hb, Nat.lt_of_lt_of_le l3 hb⟩
abbrev Z4I : Obj := .cells #[.int .u64 0, .int .u64 0, .int .u64 0, .int .u64 0] 43
theorem z4_at (w : World) : At4 (w.alloc Z4I) w.heap.size 0 ⟨0#64, 0#64, 0#64, 0#64⟩ := by constructor <;> simp [go_sem] <;> rfl
theorem z4_free (w : World) : Free4 (w.alloc Z4I) w.heap.size 0 := by constructor <;> simp [go_sem]
set_option maxHeartbeats 2000000 in
/-- FromDecimal: a new number, or an error. -/
theorem fromDecNew_ok (a : Nat → Addr) (s : List UInt8) (w : World) (hE : DecW a w) (h0 : DecOk s) :
    Calls Tryd.prog 19 #[.string ⟨s.toArray⟩] w fun e w' => Below w.heap.size w w' ∧ ∃ B, e = .returned (.tuple #[.pointer (some ⟨B, 0, none⟩), .nilIface]) ∧ At4 w' B 0 (ofN (dv (unplus s))) := by
  have FH := Lib.hid ((setFromDecimal_any a w.heap.size _ s _ (z4_at w) (z4_free w) (hE.away (bel_alloc (bel_refl w) _) _ (Nat.le_refl _))).mono fun e w' h => h.yes h0)
  clear hE h0
  go_enter Tryd.func19, Tryd.ntmps19
  go_wp2_with fail
  refine FH.out.mono ?_
  rintro e w1 ⟨rfl, hb, h4, _⟩
  have HB := Lib.hid (hb.bel (bel_alloc (bel_refl w) _) (fun x hx => by simp at hx; omega))
  have H4 := Lib.hid h4
  clear hb h4 FH
  go_wp2
  go_ret2
  exact ⟨HB.out, _, rfl, H4.out⟩
set_option maxHeartbeats 2000000 in
theorem fromDecNew_bad (a : Nat → Addr) (s : List UInt8) (w : World) (hE : DecW a w) (h0 : ¬ DecOk s) :
    Calls Tryd.prog 19 #[.string ⟨s.toArray⟩] w fun e w' => Below w.heap.size w w' ∧ ∃ t u, e = .returned (.tuple #[.pointer none, .iface t u]) := by
  have FH := Lib.hid ((setFromDecimal_any a w.heap.size _ s _ (z4_at w) (z4_free w) (hE.away (bel_alloc (bel_refl w) _) _ (Nat.le_refl _))).mono fun e w' h => h.no h0)
  clear hE h0
  go_enter Tryd.func19, Tryd.ntmps19
  go_wp2_with fail
  refine FH.out.mono ?_
  rintro e w1 ⟨hb, t, u, rfl⟩
  have HB := Lib.hid (hb.bel (bel_alloc (bel_refl w) _) (fun x hx => by simp at hx; omega))
  clear hb FH
  go_wp2
  go_ret2
  exact ⟨HB.out, _, _, rfl⟩
set_option maxHeartbeats 1000000 in
theorem implFromDec_ok (a : Nat → Addr) (s : List UInt8) (w : World) (hE : DecW a w) (h0 : DecOk s) :
    Calls Tryd.prog 8 #[.string ⟨s.toArray⟩] w fun e w' => e = .returned (.tuple #[(ofN (dv (unplus s))).v, .bool true]) ∧ Below w.heap.size w w' := by
  have hth := thereR_z w
  have NE := Lib.hid (fromDecNew_ok a s (w.alloc Z4R) (hE.bel (bel_alloc (bel_refl w) _)) h0)
  generalize ofN (dv (unplus s)) = x at *
  clear h0 hE
  go_enter Tryd.func8, Tryd.ntmps8
  go_wp2_with fail
  refine NE.out.mono ?_
  rintro e w2 ⟨hb2, B, rfl, h4⟩
  have H4 := Lib.hid h4
  have hth2 := thereR_bel hth (by omega) hb2
  clear h4
  go_wp2_with fail
  refine (numOf_any B 0 x _ H4.out).mono ?_
  rintro e w3 ⟨rfl, hb3⟩
  have hth3 := thereR_bel hth2 (by omega) hb3
  go_wp2_with (show wpList _ _ _ (⟨none, Op.store 24 _ _, _, _, _, _⟩ :: _) _ _; refine wpList_store_mid (op := ⟨none, Op.store 24 (.tmp 2) (.tmp 15), _, _, _, _⟩) rfl 24 _ _ rfl w.heap.size 0 [V x.a, V x.b, V x.c, V x.d].toArray rfl rfl hth3 (by kernel_rfl) (by simp [Value.oneCell']) ?_)
  go_wp2
  refine bodyPost_ret (v := .tuple #[x.v, .bool true]) (resultsR_slot rfl _ _ w.heap.size [V x.a, V x.b, V x.c, V x.d] _ rfl (World.rangeAt_setCells_same _ _ 0 _ hth3) Tryd.underlying24 rfl (by kernel_rfl) rfl) rfl ⟨rfl, ?_⟩
  exact setCellsR_bel (bel_trans (bel_trans (bel_alloc (bel_refl w) _) hb2) hb3) (Nat.le_refl _)
set_option maxHeartbeats 1000000 in
theorem implFromDec_bad (a : Nat → Addr) (s : List UInt8) (w : World) (hE : DecW a w) (h0 : ¬ DecOk s) :
    Calls Tryd.prog 8 #[.string ⟨s.toArray⟩] w fun e w' => e = .returned (.tuple #[zeroR.v, .bool false]) ∧ Below w.heap.size w w' := by
  have hth := thereR_z w
  have NE := Lib.hid (fromDecNew_bad a s (w.alloc Z4R) (hE.bel (bel_alloc (bel_refl w) _)) h0)
  clear h0 hE
  go_enter Tryd.func8, Tryd.ntmps8
  go_wp2_with fail
  refine NE.out.mono ?_
  rintro e w2 ⟨hb2, t, u, rfl⟩
  have hth2 := thereR_bel hth (by omega) hb2
  go_wp2_with (show wpList _ _ _ (⟨none, Op.store 24 _ _, _, _, _, _⟩ :: _) _ _; refine wpList_store_mid (op := ⟨none, Op.store 24 (.tmp 2) (.tmp 13), _, _, _, _⟩) rfl 24 _ _ rfl w.heap.size 0 [V zeroR.a, V zeroR.b, V zeroR.c, V zeroR.d].toArray rfl rfl hth2 (by kernel_rfl) (by simp [Value.oneCell']) ?_)
  go_wp2
  refine bodyPost_ret (v := .tuple #[zeroR.v, .bool false]) (resultsR_slot rfl _ _ w.heap.size [V zeroR.a, V zeroR.b, V zeroR.c, V zeroR.d] _ rfl (World.rangeAt_setCells_same _ _ 0 _ hth2) Tryd.underlying24 rfl (by kernel_rfl) rfl) rfl ⟨rfl, ?_⟩
  exact setCellsR_bel (bel_trans (bel_alloc (bel_refl w) _) hb2) (Nat.le_refl _)
end Go.Proofs.YtfaocjcpnjmfiaaDoor
