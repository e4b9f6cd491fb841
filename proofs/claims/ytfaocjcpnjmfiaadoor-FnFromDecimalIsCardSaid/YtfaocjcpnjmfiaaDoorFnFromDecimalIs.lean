/-
  For every text: FromDecimal is the number of decimal digits, of which noughts and one plus may stand ahead, and refuses all others, and what is 2^256 or more (the card FnFromDecimalIsCardSaid; the listed variables hold what the text lays into them, which the card ties).
-/
import Derived.Test.YtfaocjcpnjmfiaaDoorEql
import Derived.Test.YtfaocjcpnjmfiaaDoorOfDec
import Derived.Test.YtfaocjcpnjmfiaaDoorDecNew
import Derived.Test.YtfaocjcpnjmfiaaDoorRows
import Derived.Test.YtfaocjcpnjmfiaaDoorTie
import Derived.Test.YtfaocjcpnjmfiaaDoorCards
import Derived.Test.YtfaocjcpnjmfiaaDoorOpen
import Derived.ProofKit
import Derived.LaidMore
import Derived.OpenShut
import Derived.OpenVars
import Derived.Stop.Joined
import Derived.SevenTiedAt
import Derived.Lib.LaidU8
import Derived.LaidLaws
import Derived.Lib.LaidTab
/-
  The reference's OfDecimal, its contract.
-/
set_option linter.unusedVariables false
set_option linter.unusedSimpArgs false
namespace Go.Proofs.YtfaocjcpnjmfiaaDoor
open Go.RowKit
theorem od_get (u : List UInt8) (p : Nat) (h : p < (⟨u.toArray⟩ : ByteArray).size) : u[p]? = some ((⟨u.toArray⟩ : ByteArray)[p]'h) := by
  show u[p]? = some (u.toArray[p]'h)
  rw [List.getElem_toArray]
  exact List.getElem?_eq_getElem _
set_option maxHeartbeats 16000000 in
set_option maxRecDepth 20000 in
theorem ofDecimal_any (s : List UInt8) (w : World) (hmax : s.length ≤ 65536) : Calls Tryd.prog 7 #[.string ⟨s.toArray⟩] w fun e w' => Below w.heap.size w w' ∧
    ((DecOk s ∧ e = .returned (.tuple #[(ofN (dv (unplus s))).v, .bool true])) ∨ (¬ DecOk s ∧ e = .returned (.tuple #[zeroR.v, .bool false]))) := by
  have hth := thereR_z w
  rcases hs0 : s[0]? with _ | c0
  · obtain rfl : s = [] := by
      rcases s with _ | ⟨x, s⟩
      · rfl
      · cases hs0
    have HU : Hid (unplus ([] : List UInt8) = []) := by show _ = _; rfl
    have hul : ([] : List UInt8).length ≤ 65536 := by simp
    clear hs0
    go_enter Tryd.func7, Tryd.ntmps7
    go_wp2_with fail
    have OS : Hid (OdS (((w.alloc Z4R).alloc (.cells #[] 3))) [] 0 (.slice (some ⟨w.heap.size + 1, 0, none⟩) 0 0) (((w.alloc Z4R).alloc (.cells #[] 3)))) := by
      refine ⟨Nat.zero_le _, (fun c hc => by simp at hc), ⟨0, ⟨[], ⟨some ⟨w.heap.size + 1, 0, none⟩, 0, rfl, Nat.le_refl _, fun i d hd => by simp at hd⟩, (fun d hd => by simp at hd), rfl, Nat.zero_le _⟩, .inl ⟨Nat.two_pow_pos 256, by rw [List.take_zero, dv_nil]⟩⟩, bel_refl _⟩
    have hth1 : ((((w.alloc Z4R).alloc (.cells #[] 3)))).there w.heap.size 0 4 := thereR_bel hth (by omega) (bel_alloc (bel_refl _) _)
    have bel1 : Below w.heap.size w ((((w.alloc Z4R).alloc (.cells #[] 3)))) := bel_alloc (bel_alloc (bel_refl w) _) _
    have BEL1 := Lib.hid bel1
    have HTH1 := Lib.hid hth1
    clear bel1 hth1 hth
    generalize (((w.alloc Z4R).alloc (.cells #[] 3))) = W1 at *
    refine od_loop W1 [] w.heap.size 0 _ 0 W1 _ _ _ _ _ _ _ _ _ _ _ _ _ _ _ _ _ _ _ _ _ _ _ _ _ _ _ _ _ _ _ _ _ _ _ _ _ _ _ _ _ _ _ _ _ _ _ _ _ _ _ _ OS.out rfl (by omega) HTH1.out ?_ ?_
    · show ∀ _, _
      intro l I W' u17 u18 u19 u20 u21 u22 u23 u24 u25 u26 u27 u28 u29 u30 u31 u32 u33 u34 u35 u36 u37 u38 u39 u40 u41 u42 u43 u44 u45 hnd hb
      have HNOT : Hid (¬ DecOk []) := fun k => hnd (HU.out ▸ k.2.1)
      have HB := Lib.hid (bel_trans BEL1.out hb)
      have hthF := thereR_bel HTH1.out (by omega) hb
      clear hnd hb
      go_wp2
      refine bodyPost_ret (v := .tuple #[zeroR.v, .bool false]) (resultsR_slot rfl _ _ w.heap.size [V zeroR.a, V zeroR.b, V zeroR.c, V zeroR.d] _ rfl (World.rangeAt_setCells_same _ _ 0 _ hthF) Tryd.underlying24 rfl (by kernel_rfl) rfl) rfl ⟨?_, ?_⟩
      · exact setCellsR_bel HB.out (Nat.le_refl _)
      · exact .inr ⟨HNOT.out, rfl⟩
    · show ∀ _, _
      intro l I W' u17 u18 u19 u20 u21 u22 u23 u24 u25 u26 u27 u28 u29 u30 u31 u32 u33 u34 u35 u36 u37 u38 u39 u40 u41 u42 u43 u44 u45 HW
      have HB := Lib.hid (bel_trans BEL1.out HW.bel)
      have hthF := thereR_bel HTH1.out (by omega) HW.bel
      obtain ⟨n, hdg, hn⟩ := HW.dg
      have hdd := HW.decs
      rw [List.take_length] at hn hdd
      have HDG := Lib.hid hdg
      have HDD := Lib.hid hdd
      clear hdg HW hdd
      have HNOT : Hid (¬ DecOk []) := fun k => k.1 HU.out
      clear hn
      go_wp2_with (show wpList _ _ _ (⟨none, Op.store 24 _ _, _, _, _, _⟩ :: _) _ _; refine wpList_store_mid (op := ⟨none, Op.store 24 (.tmp 2) (.tmp 53), _, _, _, _⟩) rfl 24 _ _ rfl w.heap.size 0 [V zeroR.a, V zeroR.b, V zeroR.c, V zeroR.d].toArray rfl rfl hthF (by kernel_rfl) (by simp [Value.oneCell']) ?_)
      refine bodyPost_ret (v := .tuple #[zeroR.v, .bool false]) (resultsR_slot rfl _ _ w.heap.size [V zeroR.a, V zeroR.b, V zeroR.c, V zeroR.d] _ rfl (World.rangeAt_setCells_same _ _ 0 _ hthF) Tryd.underlying24 rfl (by kernel_rfl) rfl) rfl ⟨?_, ?_⟩
      · exact setCellsR_bel HB.out (Nat.le_refl _)
      · exact .inr ⟨HNOT.out, rfl⟩
  · have hsl : 0 < s.length := (List.getElem?_eq_some_iff.1 hs0).1
    by_cases h43 : c0 = 43
    · obtain ⟨u, hu⟩ : ∃ u, u = s.drop 1 := ⟨_, rfl⟩
      have HU : Hid (unplus s = u) := by show _ = _; unfold unplus; rw [if_pos (by rw [hs0, h43]), hu]
      have hul : u.length ≤ 65536 := by rw [hu, List.length_drop]; omega
      obtain ⟨S, hS⟩ : ∃ S : ByteArray, S = ⟨s.toArray⟩ := ⟨_, rfl⟩
      have hSz : S.size = s.length := by rw [hS]; rfl
      have hSi : (0 : Int) < (S.size : Int) := by omega
      have hS1 : (1 : Int) ≤ (S.size : Int) := by omega
      have hg0 : ∀ h, S[0]'h = c0 := by subst hS; exact fun h => (Option.some.inj ((od_get s 0 h).symm.trans hs0))
      have c43 : ((c0.toNat : Int) == 43) = true := by rw [h43]; rfl
      have hext : S.extract 1 S.size = ⟨u.toArray⟩ := by
        apply ByteArray.ext
        rw [ByteArray.data_extract, hSz, hS, hu]
        simp
        exact List.take_of_length_le (by simp)
      rw [← hS]
      clear hs0 h43 hsl hSz hS hu hmax
      by_cases hu0 : u = []
      · have q : u.isEmpty = true := by rw [hu0]; rfl
        have q2 : (u == []) = true := by rw [hu0]; rfl
        rw [hu0] at HU
        have HU2 : Hid (unplus s = u) := by show _ = _; rw [HU.out, hu0]
        clear hu0
        go_enter Tryd.func7, Tryd.ntmps7
        go_wp2_with fail
        have OS : Hid (OdS (((w.alloc Z4R).alloc (.cells #[] 3))) u 0 (.slice (some ⟨w.heap.size + 1, 0, none⟩) 0 0) (((w.alloc Z4R).alloc (.cells #[] 3)))) := by
          refine ⟨Nat.zero_le _, (fun c hc => by simp at hc), ⟨0, ⟨[], ⟨some ⟨w.heap.size + 1, 0, none⟩, 0, rfl, Nat.le_refl _, fun i d hd => by simp at hd⟩, (fun d hd => by simp at hd), rfl, Nat.zero_le _⟩, .inl ⟨Nat.two_pow_pos 256, by rw [List.take_zero, dv_nil]⟩⟩, bel_refl _⟩
        have hth1 : ((((w.alloc Z4R).alloc (.cells #[] 3)))).there w.heap.size 0 4 := thereR_bel hth (by omega) (bel_alloc (bel_refl _) _)
        have bel1 : Below w.heap.size w ((((w.alloc Z4R).alloc (.cells #[] 3)))) := bel_alloc (bel_alloc (bel_refl w) _) _
        have BEL1 := Lib.hid bel1
        have HTH1 := Lib.hid hth1
        clear bel1 hth1 hth
        generalize (((w.alloc Z4R).alloc (.cells #[] 3))) = W1 at *
        refine od_loop W1 u w.heap.size 0 _ 0 W1 _ _ _ _ _ _ _ _ _ _ _ _ _ _ _ _ _ _ _ _ _ _ _ _ _ _ _ _ _ _ _ _ _ _ _ _ _ _ _ _ _ _ _ _ _ _ _ _ _ _ _ _ OS.out rfl (by omega) HTH1.out ?_ ?_
        · show ∀ _, _
          intro l I W' u17 u18 u19 u20 u21 u22 u23 u24 u25 u26 u27 u28 u29 u30 u31 u32 u33 u34 u35 u36 u37 u38 u39 u40 u41 u42 u43 u44 u45 hnd hb
          have HNOT : Hid (¬ DecOk s) := fun k => hnd (HU2.out ▸ k.2.1)
          have HB := Lib.hid (bel_trans BEL1.out hb)
          have hthF := thereR_bel HTH1.out (by omega) hb
          clear hnd hb
          go_wp2
          refine bodyPost_ret (v := .tuple #[zeroR.v, .bool false]) (resultsR_slot rfl _ _ w.heap.size [V zeroR.a, V zeroR.b, V zeroR.c, V zeroR.d] _ rfl (World.rangeAt_setCells_same _ _ 0 _ hthF) Tryd.underlying24 rfl (by kernel_rfl) rfl) rfl ⟨?_, ?_⟩
          · exact setCellsR_bel HB.out (Nat.le_refl _)
          · exact .inr ⟨HNOT.out, rfl⟩
        · show ∀ _, _
          intro l I W' u17 u18 u19 u20 u21 u22 u23 u24 u25 u26 u27 u28 u29 u30 u31 u32 u33 u34 u35 u36 u37 u38 u39 u40 u41 u42 u43 u44 u45 HW
          have HB := Lib.hid (bel_trans BEL1.out HW.bel)
          have hthF := thereR_bel HTH1.out (by omega) HW.bel
          obtain ⟨n, hdg, hn⟩ := HW.dg
          have hdd := HW.decs
          rw [List.take_length] at hn hdd
          have HDG := Lib.hid hdg
          have HDD := Lib.hid hdd
          clear hdg HW hdd
          have HNOT : Hid (¬ DecOk s) := fun k => k.1 HU.out
          clear hn
          go_wp2_with (show wpList _ _ _ (⟨none, Op.store 24 _ _, _, _, _, _⟩ :: _) _ _; refine wpList_store_mid (op := ⟨none, Op.store 24 (.tmp 2) (.tmp 53), _, _, _, _⟩) rfl 24 _ _ rfl w.heap.size 0 [V zeroR.a, V zeroR.b, V zeroR.c, V zeroR.d].toArray rfl rfl hthF (by kernel_rfl) (by simp [Value.oneCell']) ?_)
          refine bodyPost_ret (v := .tuple #[zeroR.v, .bool false]) (resultsR_slot rfl _ _ w.heap.size [V zeroR.a, V zeroR.b, V zeroR.c, V zeroR.d] _ rfl (World.rangeAt_setCells_same _ _ 0 _ hthF) Tryd.underlying24 rfl (by kernel_rfl) rfl) rfl ⟨?_, ?_⟩
          · exact setCellsR_bel HB.out (Nat.le_refl _)
          · exact .inr ⟨HNOT.out, rfl⟩
      · have q : u.isEmpty = false := by simp [hu0]
        have HU0 : Hid (u ≠ []) := hu0
        clear hu0
        go_enter Tryd.func7, Tryd.ntmps7
        go_wp2_with fail
        have OS : Hid (OdS (((w.alloc Z4R).alloc (.cells #[] 3))) u 0 (.slice (some ⟨w.heap.size + 1, 0, none⟩) 0 0) (((w.alloc Z4R).alloc (.cells #[] 3)))) := by
          refine ⟨Nat.zero_le _, (fun c hc => by simp at hc), ⟨0, ⟨[], ⟨some ⟨w.heap.size + 1, 0, none⟩, 0, rfl, Nat.le_refl _, fun i d hd => by simp at hd⟩, (fun d hd => by simp at hd), rfl, Nat.zero_le _⟩, .inl ⟨Nat.two_pow_pos 256, by rw [List.take_zero, dv_nil]⟩⟩, bel_refl _⟩
        have hth1 : ((((w.alloc Z4R).alloc (.cells #[] 3)))).there w.heap.size 0 4 := thereR_bel hth (by omega) (bel_alloc (bel_refl _) _)
        have bel1 : Below w.heap.size w ((((w.alloc Z4R).alloc (.cells #[] 3)))) := bel_alloc (bel_alloc (bel_refl w) _) _
        have BEL1 := Lib.hid bel1
        have HTH1 := Lib.hid hth1
        clear bel1 hth1 hth
        generalize (((w.alloc Z4R).alloc (.cells #[] 3))) = W1 at *
        refine od_loop W1 u w.heap.size 0 _ 0 W1 _ _ _ _ _ _ _ _ _ _ _ _ _ _ _ _ _ _ _ _ _ _ _ _ _ _ _ _ _ _ _ _ _ _ _ _ _ _ _ _ _ _ _ _ _ _ _ _ _ _ _ _ OS.out rfl (by omega) HTH1.out ?_ ?_
        · show ∀ _, _
          intro l I W' u17 u18 u19 u20 u21 u22 u23 u24 u25 u26 u27 u28 u29 u30 u31 u32 u33 u34 u35 u36 u37 u38 u39 u40 u41 u42 u43 u44 u45 hnd hb
          have HNOT : Hid (¬ DecOk s) := fun k => hnd (HU.out ▸ k.2.1)
          have HB := Lib.hid (bel_trans BEL1.out hb)
          have hthF := thereR_bel HTH1.out (by omega) hb
          clear hnd hb
          go_wp2
          refine bodyPost_ret (v := .tuple #[zeroR.v, .bool false]) (resultsR_slot rfl _ _ w.heap.size [V zeroR.a, V zeroR.b, V zeroR.c, V zeroR.d] _ rfl (World.rangeAt_setCells_same _ _ 0 _ hthF) Tryd.underlying24 rfl (by kernel_rfl) rfl) rfl ⟨?_, ?_⟩
          · exact setCellsR_bel HB.out (Nat.le_refl _)
          · exact .inr ⟨HNOT.out, rfl⟩
        · show ∀ _, _
          intro l I W' u17 u18 u19 u20 u21 u22 u23 u24 u25 u26 u27 u28 u29 u30 u31 u32 u33 u34 u35 u36 u37 u38 u39 u40 u41 u42 u43 u44 u45 HW
          have HB := Lib.hid (bel_trans BEL1.out HW.bel)
          have hthF := thereR_bel HTH1.out (by omega) HW.bel
          obtain ⟨n, hdg, hn⟩ := HW.dg
          have hdd := HW.decs
          rw [List.take_length] at hn hdd
          have HDG := Lib.hid hdg
          have HDD := Lib.hid hdd
          clear hdg HW hdd
          have FI := Lib.hid (fits_big l n _ W' HDG.out (by omega))
          rcases hn with ⟨hn1, hn2⟩ | ⟨hn1, hn2⟩
          · rw [decide_eq_true hn1] at FI
            have HOK : Hid (DecOk s) := ⟨by rw [HU.out]; exact HU0.out, by rw [HU.out]; exact HDD.out, by rw [HU.out, ← hn2]; exact hn1⟩
            have CU := Lib.hid (cut_big l n _ W' HDG.out (by omega))
            rw [hn2, ← HU.out] at CU
            obtain ⟨x, hx⟩ : ∃ x, x = ofN (dv (unplus s)) := ⟨_, rfl⟩
            rw [← hx] at CU
            have HXX := Lib.hid hx
            clear hn1 hn2 hx
            go_wp2_with (go_at_call 15; refine FI.out.mono ?_; rintro e w1 ⟨rfl, hw1⟩; subst hw1)
            refine CU.out.mono ?_
            rintro e w3 ⟨rfl, hb3⟩
            have HB3 := Lib.hid (bel_trans HB.out hb3)
            have hthG := thereR_bel hthF (by omega) hb3
            clear hb3
            go_wp2_with (show wpList _ _ _ (⟨none, Op.store 24 _ _, _, _, _, _⟩ :: _) _ _; refine wpList_store_mid (op := ⟨none, Op.store 24 (.tmp 2) (.tmp 55), _, _, _, _⟩) rfl 24 _ _ rfl w.heap.size 0 [V x.a, V x.b, V x.c, V x.d].toArray rfl rfl hthG (by kernel_rfl) (by simp [Value.oneCell']) ?_)
            refine bodyPost_ret (v := .tuple #[x.v, .bool true]) (resultsR_slot rfl _ _ w.heap.size [V x.a, V x.b, V x.c, V x.d] _ rfl (World.rangeAt_setCells_same _ _ 0 _ hthG) Tryd.underlying24 rfl (by kernel_rfl) rfl) rfl ⟨?_, ?_⟩
            · exact setCellsR_bel HB3.out (Nat.le_refl _)
            · exact .inl ⟨HOK.out, by rw [HXX.out]⟩
          · rw [decide_eq_false hn1] at FI
            have HNOT : Hid (¬ DecOk s) := fun k => hn2 (HU.out ▸ k.2.2)
            clear hn1 hn2
            go_wp2_with (first | (go_at_call 15; refine FI.out.mono ?_; rintro e w1 ⟨rfl, hw1⟩; subst hw1) | (show wpList _ _ _ (⟨none, Op.store 24 _ _, _, _, _, _⟩ :: _) _ _; refine wpList_store_mid (op := ⟨none, Op.store 24 (.tmp 2) (.tmp 53), _, _, _, _⟩) rfl 24 _ _ rfl w.heap.size 0 [V zeroR.a, V zeroR.b, V zeroR.c, V zeroR.d].toArray rfl rfl hthF (by kernel_rfl) (by simp [Value.oneCell']) ?_))
            refine bodyPost_ret (v := .tuple #[zeroR.v, .bool false]) (resultsR_slot rfl _ _ w.heap.size [V zeroR.a, V zeroR.b, V zeroR.c, V zeroR.d] _ rfl (World.rangeAt_setCells_same _ _ 0 _ hthF) Tryd.underlying24 rfl (by kernel_rfl) rfl) rfl ⟨?_, ?_⟩
            · exact setCellsR_bel HB.out (Nat.le_refl _)
            · exact .inr ⟨HNOT.out, rfl⟩
    · obtain ⟨u, hu⟩ : ∃ u, u = s := ⟨_, rfl⟩
      have HU : Hid (unplus s = u) := by show _ = _; unfold unplus; rw [if_neg (by rw [hs0]; simpa using h43), hu]
      have hul : u.length ≤ 65536 := by rw [hu]; exact hmax
      have c43 : ((c0.toNat : Int) == 43) = false := by
        have : c0.toNat ≠ 43 := fun e => h43 (UInt8.toNat.inj e)
        simp; omega
      have hu0 : u ≠ [] := by
        intro e
        rw [e] at hu
        rw [← hu] at hsl
        simp at hsl
      have q : u.isEmpty = false := by simp [hu0]
      have HU0 : Hid (u ≠ []) := hu0
      rw [← hu] at hs0 hsl ⊢
      have hsli : (0 : Int) < (u.length : Int) := by omega
      have hg0 : ∀ h, (⟨u.toArray⟩ : ByteArray)[0]'h = c0 := fun h => (Option.some.inj ((od_get u 0 h).symm.trans hs0))
      rw [← hu] at HU
      clear h43 hu hs0 hsl hu0 hmax
      go_enter Tryd.func7, Tryd.ntmps7
      go_wp2_with fail
      have OS : Hid (OdS (((w.alloc Z4R).alloc (.cells #[] 3))) u 0 (.slice (some ⟨w.heap.size + 1, 0, none⟩) 0 0) (((w.alloc Z4R).alloc (.cells #[] 3)))) := by
        refine ⟨Nat.zero_le _, (fun c hc => by simp at hc), ⟨0, ⟨[], ⟨some ⟨w.heap.size + 1, 0, none⟩, 0, rfl, Nat.le_refl _, fun i d hd => by simp at hd⟩, (fun d hd => by simp at hd), rfl, Nat.zero_le _⟩, .inl ⟨Nat.two_pow_pos 256, by rw [List.take_zero, dv_nil]⟩⟩, bel_refl _⟩
      have hth1 : ((((w.alloc Z4R).alloc (.cells #[] 3)))).there w.heap.size 0 4 := thereR_bel hth (by omega) (bel_alloc (bel_refl _) _)
      have bel1 : Below w.heap.size w ((((w.alloc Z4R).alloc (.cells #[] 3)))) := bel_alloc (bel_alloc (bel_refl w) _) _
      have BEL1 := Lib.hid bel1
      have HTH1 := Lib.hid hth1
      clear bel1 hth1 hth
      generalize (((w.alloc Z4R).alloc (.cells #[] 3))) = W1 at *
      refine od_loop W1 u w.heap.size 0 _ 0 W1 _ _ _ _ _ _ _ _ _ _ _ _ _ _ _ _ _ _ _ _ _ _ _ _ _ _ _ _ _ _ _ _ _ _ _ _ _ _ _ _ _ _ _ _ _ _ _ _ _ _ _ _ OS.out rfl (by omega) HTH1.out ?_ ?_
      · show ∀ _, _
        intro l I W' u17 u18 u19 u20 u21 u22 u23 u24 u25 u26 u27 u28 u29 u30 u31 u32 u33 u34 u35 u36 u37 u38 u39 u40 u41 u42 u43 u44 u45 hnd hb
        have HNOT : Hid (¬ DecOk u) := fun k => hnd (HU.out ▸ k.2.1)
        have HB := Lib.hid (bel_trans BEL1.out hb)
        have hthF := thereR_bel HTH1.out (by omega) hb
        clear hnd hb
        go_wp2
        refine bodyPost_ret (v := .tuple #[zeroR.v, .bool false]) (resultsR_slot rfl _ _ w.heap.size [V zeroR.a, V zeroR.b, V zeroR.c, V zeroR.d] _ rfl (World.rangeAt_setCells_same _ _ 0 _ hthF) Tryd.underlying24 rfl (by kernel_rfl) rfl) rfl ⟨?_, ?_⟩
        · exact setCellsR_bel HB.out (Nat.le_refl _)
        · exact .inr ⟨HNOT.out, rfl⟩
      · show ∀ _, _
        intro l I W' u17 u18 u19 u20 u21 u22 u23 u24 u25 u26 u27 u28 u29 u30 u31 u32 u33 u34 u35 u36 u37 u38 u39 u40 u41 u42 u43 u44 u45 HW
        have HB := Lib.hid (bel_trans BEL1.out HW.bel)
        have hthF := thereR_bel HTH1.out (by omega) HW.bel
        obtain ⟨n, hdg, hn⟩ := HW.dg
        have hdd := HW.decs
        rw [List.take_length] at hn hdd
        have HDG := Lib.hid hdg
        have HDD := Lib.hid hdd
        clear hdg HW hdd
        have FI := Lib.hid (fits_big l n _ W' HDG.out (by omega))
        rcases hn with ⟨hn1, hn2⟩ | ⟨hn1, hn2⟩
        · rw [decide_eq_true hn1] at FI
          have HOK : Hid (DecOk u) := ⟨by rw [HU.out]; exact HU0.out, by rw [HU.out]; exact HDD.out, by rw [HU.out, ← hn2]; exact hn1⟩
          have CU := Lib.hid (cut_big l n _ W' HDG.out (by omega))
          rw [hn2, ← HU.out] at CU
          obtain ⟨x, hx⟩ : ∃ x, x = ofN (dv (unplus u)) := ⟨_, rfl⟩
          rw [← hx] at CU
          have HXX := Lib.hid hx
          clear hn1 hn2 hx
          go_wp2_with (go_at_call 15; refine FI.out.mono ?_; rintro e w1 ⟨rfl, hw1⟩; subst hw1)
          refine CU.out.mono ?_
          rintro e w3 ⟨rfl, hb3⟩
          have HB3 := Lib.hid (bel_trans HB.out hb3)
          have hthG := thereR_bel hthF (by omega) hb3
          clear hb3
          go_wp2_with (show wpList _ _ _ (⟨none, Op.store 24 _ _, _, _, _, _⟩ :: _) _ _; refine wpList_store_mid (op := ⟨none, Op.store 24 (.tmp 2) (.tmp 55), _, _, _, _⟩) rfl 24 _ _ rfl w.heap.size 0 [V x.a, V x.b, V x.c, V x.d].toArray rfl rfl hthG (by kernel_rfl) (by simp [Value.oneCell']) ?_)
          refine bodyPost_ret (v := .tuple #[x.v, .bool true]) (resultsR_slot rfl _ _ w.heap.size [V x.a, V x.b, V x.c, V x.d] _ rfl (World.rangeAt_setCells_same _ _ 0 _ hthG) Tryd.underlying24 rfl (by kernel_rfl) rfl) rfl ⟨?_, ?_⟩
          · exact setCellsR_bel HB3.out (Nat.le_refl _)
          · exact .inl ⟨HOK.out, by rw [HXX.out]⟩
        · rw [decide_eq_false hn1] at FI
          have HNOT : Hid (¬ DecOk u) := fun k => hn2 (HU.out ▸ k.2.2)
          clear hn1 hn2
          go_wp2_with (first | (go_at_call 15; refine FI.out.mono ?_; rintro e w1 ⟨rfl, hw1⟩; subst hw1) | (show wpList _ _ _ (⟨none, Op.store 24 _ _, _, _, _, _⟩ :: _) _ _; refine wpList_store_mid (op := ⟨none, Op.store 24 (.tmp 2) (.tmp 53), _, _, _, _⟩) rfl 24 _ _ rfl w.heap.size 0 [V zeroR.a, V zeroR.b, V zeroR.c, V zeroR.d].toArray rfl rfl hthF (by kernel_rfl) (by simp [Value.oneCell']) ?_))
          refine bodyPost_ret (v := .tuple #[zeroR.v, .bool false]) (resultsR_slot rfl _ _ w.heap.size [V zeroR.a, V zeroR.b, V zeroR.c, V zeroR.d] _ rfl (World.rangeAt_setCells_same _ _ 0 _ hthF) Tryd.underlying24 rfl (by kernel_rfl) rfl) rfl ⟨?_, ?_⟩
          · exact setCellsR_bel HB.out (Nat.le_refl _)
          · exact .inr ⟨HNOT.out, rfl⟩
end Go.Proofs.YtfaocjcpnjmfiaaDoor
/-
  What the decimal readers ask of the memory, off the row's own list of variables: the errors are there, the multipliers are powers of ten.
-/
set_option linter.unusedVariables false
set_option linter.unusedSimpArgs false
namespace Go.Proofs.YtfaocjcpnjmfiaaDoor
open Go.RowKit Go.Lib
theorem errCell {w : World} {n nm : String} {d : DataW Unit} {g : Nat} (h : VarReads Tryd.prog w n (.iface nm d)) (hg : Tryd.prog.globalNamed n = some g) (ht : (Tryd.prog.globals[g]?).map (·.type) = some 36) : ∃ t u, w.cell? ⟨g, 0, none⟩ = some (.iface t u) := by
  obtain ⟨g', t, cs, fuel, p, hg', hty, hvar, hd⟩ := h
  obtain rfl := Option.some.inj (hg.symm.trans hg')
  obtain rfl := Option.some.inj (ht.symm.trans hty)
  obtain ⟨_, u, v, hcs, _, _⟩ := iface_of_trod Tryd.underlying36 hd
  refine ⟨u, v, ?_⟩
  rw [World.var?_cell hg hvar 0, ← Array.getElem?_toList, hcs]
  rfl
theorem nilPtr {P : Program} {w : World} {fuel : Nat} {t e : TypeId} {cs : List Value} {p : List MemPlace} (ht : P.underlying t = some (.pointer e))
    (h : DataW.trod (fun _ => ()) P w 0 (fun _ => true) false fuel t cs = some (.nil, p)) : cs = [.pointer none] := by
  cases fuel with
  | zero => simp [DataW.trod] at h
  | succ fuel =>
    match cs with
    | [] => simp [DataW.trod, ht] at h
    | _ :: _ :: _ => simp [DataW.trod, ht] at h
    | [c] =>
      cases c <;> simp [DataW.trod, ht] at h
      rename_i o
      cases o with
      | none => rfl
      | some a =>
        simp only [Option.bind_eq_some_iff, Function.comp, Option.map_eq_some_iff, Prod.mk.injEq] at h
        obtain ⟨_, _, _, _, h, _⟩ := h
        cases h
/-- The words of a multiplier. -/
def mulW (j : Nat) : List Int := (List.range 4).map fun i => ((10 ^ (19 * j) / 2 ^ (64 * i) % 2 ^ 64 : Nat) : Int)
theorem mul_datum : (Rows.laid_loop_example_pub_g03023_pub_uint256_multipliers : DataW Unit) = .agg [.nil, .ptr (tabData .u64 (mulW 1)), .ptr (tabData .u64 (mulW 2)), .ptr (tabData .u64 (mulW 3)), .ptr (tabData .u64 (mulW 4))] := by kernel_rfl
theorem cells4 {w : World} {a : Addr} {l : List Value} (h : w.cells? 0 a 4 = some l) (hl : l.length = 4) : a.spot = none ∧ ∀ i, i < 4 → w.cell? ⟨a.block, a.off + i, none⟩ = l[i]? := by
  unfold World.cells? at h
  rw [if_pos (Nat.zero_le _)] at h
  have h4 : (List.range 4) = [0, 1, 2, 3] := rfl
  rw [h4] at h
  simp only [List.mapM_cons, List.mapM_nil, Option.pure_def, Option.bind_eq_bind, Option.bind_eq_some_iff] at h
  obtain ⟨c0, e0, t1, ⟨c1, e1, t2, ⟨c2, e2, t3, ⟨c3, e3, t4, h5, h6⟩, h7⟩, h8⟩, h9⟩ := h
  simp at h5 h6 h7 h8 h9
  subst h5 h6 h7 h8 h9
  have hs : a.spot = none := by
    rw [show a.add 0 = a from rfl] at e0
    unfold World.cell? at e0
    split at e0
    · rcases hsp : a.spot with _ | x
      · rfl
      · rw [hsp] at e0; simp at e0
    · cases e0
  refine ⟨hs, fun i hi => ?_⟩
  obtain ⟨ab, ao, asp⟩ := a
  simp only at hs
  subst hs
  match i, hi with
  | 0, _ => exact e0
  | 1, _ => exact e1
  | 2, _ => exact e2
  | 3, _ => exact e3
theorem mul_of {w : World} (h : VarReads Tryd.prog w "loop.example/pub-g03023/pub/uint256.multipliers" Rows.laid_loop_example_pub_g03023_pub_uint256_multipliers) : ∃ a, MulT a w := by
  obtain ⟨g, t, cs, fuel, p, hg, hty, hvar, hd⟩ := h
  obtain rfl := Option.some.inj ((show Tryd.prog.globalNamed "loop.example/pub-g03023/pub/uint256.multipliers" = some 3 by kernel_rfl).symm.trans hg)
  obtain rfl := Option.some.inj ((show (Tryd.prog.globals[3]?).map (·.type) = some 58 by kernel_rfl).symm.trans hty)
  rw [mul_datum] at hd
  have cell1 : Tryd.prog.cellsOf 34 = 1 := by kernel_rfl
  have cell4 : Tryd.prog.cellsOf 43 = 4 := by kernel_rfl
  have one : ∀ j, 1 ≤ j → j ≤ 4 → ∃ a : Addr, w.cell? ⟨3, j, none⟩ = some (.pointer (some ⟨a.block, a.off, none⟩)) ∧ At4 w a.block a.off (ofN (10 ^ (19 * j))) := fun j h1 h2 => by
    obtain ⟨fuel', d, q, hdi, he⟩ := array_elem (t := 58) (e := 34) (n := 5) (by kernel_rfl) hd j (by omega)
    have hdj : d = .ptr (tabData .u64 (mulW j)) := by
      rcases (by omega : j = 1 ∨ j = 2 ∨ j = 3 ∨ j = 4) with rfl | rfl | rfl | rfl <;> simpa using hdi.symm
    subst hdj
    rw [cell1, Nat.mul_one] at he
    obtain ⟨fuel2, a, cs', q2, hcs, hc4, he2, _⟩ := ptr_of_trod Tryd.underlying34 he
    rw [cell4] at hc4
    have hw := cells_of_tab (t := 43) (e := 22) (n := 4) (k := .u64) (by kernel_rfl) (by kernel_rfl) (by kernel_rfl) (by kernel_rfl) he2
    obtain ⟨hsp, hcell⟩ := cells4 hc4 (by rw [hw]; simp [mulW])
    obtain ⟨ab, ao, asp⟩ := a
    simp only at hsp hcell
    subst hsp
    refine ⟨⟨ab, ao, none⟩, ?_, ?_⟩
    · have e0 := congrArg (·[0]?) hcs
      simp only [List.getElem?_take, List.getElem?_drop, Nat.zero_lt_one, if_true, Nat.add_zero] at e0
      rw [World.var?_cell hg hvar j, ← Array.getElem?_toList, e0]
      rfl
    · rw [hw] at hcell
      have k0 := hcell 0 (by omega)
      have k1 := hcell 1 (by omega)
      have k2 := hcell 2 (by omega)
      have k3 := hcell 3 (by omega)
      simp only [mulW, List.getElem?_map, List.getElem?_range (show (0 : Nat) < 4 by omega), List.getElem?_range (show (1 : Nat) < 4 by omega), List.getElem?_range (show (2 : Nat) < 4 by omega), List.getElem?_range (show (3 : Nat) < 4 by omega), Option.map_some] at k0 k1 k2 k3
      obtain ⟨P, hP⟩ : ∃ P, P = 10 ^ (19 * j) := ⟨_, rfl⟩
      rw [← hP] at k0 k1 k2 k3 ⊢
      have wd : ∀ n : Nat, V (BitVec.ofNat 64 n) = .int .u64 ((n % 2 ^ 64 : Nat) : Int) := fun n => by
        show Value.int .u64 (U (BitVec.ofNat 64 n)) = _
        unfold U
        rw [BitVec.toNat_ofNat]
      refine ⟨?_, ?_, ?_, ?_⟩
      · rw [show (ofN P).a = BitVec.ofNat 64 P from rfl, wd]
        simpa using k0
      · rw [show (ofN P).b = BitVec.ofNat 64 (P / 2 ^ 64) from rfl, wd]
        simpa using k1
      · rw [show (ofN P).c = BitVec.ofNat 64 (P / 2 ^ 128) from rfl, wd]
        simpa using k2
      · rw [show (ofN P).d = BitVec.ofNat 64 (P / 2 ^ 192) from rfl, wd]
        simpa using k3
  have c0 : w.cell? ⟨3, 0, none⟩ = some (.pointer none) := by
    obtain ⟨fuel', d, q, hdi, he⟩ := array_elem (t := 58) (e := 34) (n := 5) (by kernel_rfl) hd 0 (by omega)
    have hdj : d = .nil := by simpa using hdi.symm
    subst hdj
    rw [cell1, Nat.mul_one] at he
    have hn : (cs.toList.drop 0).take 1 = [.pointer none] := nilPtr Tryd.underlying34 he
    have e0 := congrArg (·[0]?) hn
    simp only [List.getElem?_take, List.getElem?_drop, Nat.zero_lt_one, if_true, Nat.add_zero] at e0
    rw [World.var?_cell hg hvar 0, ← Array.getElem?_toList, e0]
    rfl
  obtain ⟨a1, p1, q1⟩ := one 1 (by omega) (by omega)
  obtain ⟨a2, p2, q2⟩ := one 2 (by omega) (by omega)
  obtain ⟨a3, p3, q3⟩ := one 3 (by omega) (by omega)
  obtain ⟨a4, p4, q4⟩ := one 4 (by omega) (by omega)
  refine ⟨fun j => if j = 1 then a1 else if j = 2 then a2 else if j = 3 then a3 else a4, c0, fun j h1 h2 => ?_, fun j h1 h2 => ?_⟩
  · rcases (by omega : j = 1 ∨ j = 2 ∨ j = 3 ∨ j = 4) with rfl | rfl | rfl | rfl
    · exact p1
    · exact p2
    · exact p3
    · exact p4
  · rcases (by omega : j = 1 ∨ j = 2 ∨ j = 3 ∨ j = 4) with rfl | rfl | rfl | rfl
    · exact q1
    · exact q2
    · exact q3
    · exact q4
theorem decW_of {w : World} (h1 : VarReads Tryd.prog w "strconv.ErrSyntax" Rows.laid_strconv_ErrSyntax) (h2 : VarReads Tryd.prog w "io.EOF" Rows.laid_io_EOF) (h3 : VarReads Tryd.prog w "loop.example/pub-g03023/pub/uint256.ErrBig256Range" Rows.laid_loop_example_pub_g03023_pub_uint256_ErrBig256Range) (h4 : VarReads Tryd.prog w "loop.example/pub-g03023/pub/uint256.multipliers" Rows.laid_loop_example_pub_g03023_pub_uint256_multipliers) : ∃ a, DecW a w := by
  obtain ⟨a, hm⟩ := mul_of h4
  exact ⟨a, errCell h1 (by kernel_rfl) (by kernel_rfl), hm, errCell h2 (by kernel_rfl) (by kernel_rfl), errCell h3 (by kernel_rfl) (by kernel_rfl)⟩
end Go.Proofs.YtfaocjcpnjmfiaaDoor
namespace Go.Proofs.YtfaocjcpnjmfiaaDoor.fnFromDecimalIs
open Go.ChangeShapes Go.WideShapes Go.ChangeAt Go.RowKit Go.Lib
set_option linter.unusedVariables false
set_option linter.unusedSimpArgs false

set_option maxRecDepth 20000 in
set_option maxHeartbeats 4000000 in
theorem walk (B : ByteArray) (w : World) (a : Nat → Addr) (hD : DecW a w) : Calls Tryd.prog 3 #[.string B] w (RetBel (.bool true) w) := by
  obtain ⟨s, rfl⟩ : ∃ s : List UInt8, B = ⟨s.toArray⟩ := ⟨B.data.toList, by cases B; simp⟩
  by_cases c1 : 2147483647 < s.length
  · have c1' : (2147483647 : Int) < (s.length : Int) := by omega
    go_enter Tryd.func3, Tryd.ntmps3
    go_wp2
    go_ret
    exact retBel rfl (bel_refl w)
  have c1' : ¬ (2147483647 : Int) < (s.length : Int) := by omega
  by_cases c2 : 65536 < s.length
  · have c2' : (65536 : Int) < (s.length : Int) := by omega
    go_enter Tryd.func3, Tryd.ntmps3
    go_wp2
    go_ret
    exact retBel rfl (bel_refl w)
  have c2' : ¬ (65536 : Int) < (s.length : Int) := by omega
  have OH := Lib.hid (ofDecimal_any s w (by omega))
  obtain ⟨x, f, OK, FH⟩ : ∃ (x : N4) (f : Bool), Hid (Calls Tryd.prog 7 #[.string ⟨s.toArray⟩] w fun e w' => Below w.heap.size w w' ∧ e = .returned (.tuple #[x.v, .bool f])) ∧
      Hid (∀ w2, Below w.heap.size w w2 → Calls Tryd.prog 8 #[.string ⟨s.toArray⟩] w2 fun e w' => e = .returned (.tuple #[x.v, .bool f]) ∧ Below w2.heap.size w2 w') := by
    by_cases h0 : DecOk s
    · refine ⟨ofN (dv (unplus s)), true, OH.out.mono fun e w' ⟨hb, h⟩ => ⟨hb, ?_⟩, fun w2 hb => ?_⟩
      · rcases h with ⟨_, h⟩ | ⟨h, _⟩
        · exact h
        · exact absurd h0 h
      · exact implFromDec_ok a s w2 (hD.bel hb) h0
    · refine ⟨zeroR, false, OH.out.mono fun e w' ⟨hb, h⟩ => ⟨hb, ?_⟩, fun w2 hb => ?_⟩
      · rcases h with ⟨h, _⟩ | ⟨_, h⟩
        · exact absurd h h0
        · exact h
      · exact implFromDec_bad a s w2 (hD.bel hb) h0
  have ex := eqb_self x
  have ef : (f == f) = true := by cases f <;> rfl
  clear OH c1 c2 hD
  go_enter Tryd.func3, Tryd.ntmps3
  go_wp2_with (go_at_call 7; refine OK.out.mono ?_; rintro e w1 ⟨hb1, rfl⟩; have HB1 := Lib.hid hb1; clear hb1)
  refine (FH.out _ (bel_alloc HB1.out _)).mono ?_
  rintro e w2 ⟨rfl, hb2⟩
  have A4 : At4 (w1.alloc (.cells #[V x.a, V x.b, V x.c, V x.d] 24)) w1.heap.size 0 x := by constructor <;> simp [go_sem]
  obtain ⟨q0, q1, q2, q3⟩ := A4.bel hb2
  simp only [Nat.zero_add] at q1 q2 q3
  have hlt : w1.heap.size < w2.heap.size := by have := hb2.size; simp at this; omega
  have HB2 := Lib.hid (bel_trans (bel_alloc HB1.out (.cells #[V x.a, V x.b, V x.c, V x.d] 24)) hb2)
  clear hb2 A4
  go_wp2
  go_ret
  exact retBel rfl (bel_alloc HB2.out _)

theorem trodVars_len {H : Type} {enc : TypeId × Value → H} {P : Program} {W : World} {sp : Nat → Bool} : ∀ {ns : List String} {gs : List (DataW H)} {ps : List MemPlace}, DataW.TrodVars enc P W sp ns gs ps → gs.length = ns.length
  | [], [], _, _ => rfl
  | [], _ :: _, _, h => h.elim
  | _ :: _, [], _, h => h.elim
  | _ :: _, _ :: _, _, h => by
    obtain ⟨g, t, cs, fuel, p, q, h1, h2, h3, h4, hs, e⟩ := h
    simp [trodVars_len hs]
theorem own : ownKnob Tryd.prog.godebug = none := by kernel_rfl
theorem laidOut : laidOutB Tryd.prog = true := by kernel_rfl
theorem door_met (os : Os) (args : Array Value) : laidMetH Tryd.prog Rows.fnFromDecimalIsRow.laid ((World.doorLaid Tryd.prog 400 os).forCall (fun _ _ => 0) ⟨#[], args, []⟩).memory :=
  laidMetH_of_parts3 (fuel := 8) (laidMet_of_run' 8 (by kernel_rfl) (by kernel_rfl)) (by kernel_rfl) (by kernel_rfl)
set_option maxRecDepth 100000 in
theorem lifted (os : Os) (started : os.Started) (H : Type) (enc : TypeId × Value → H) :
    ReturnsInHanded {} Tryd.checked os 3 .any (fun w args => (Rows.fnFromDecimalIsSpec.pre enc Tryd.prog Tryd.f3 [] false w args ∧ laidMetH Tryd.prog Rows.fnFromDecimalIsRow.laid w) ∧ sizedMet enc Tryd.prog Tryd.f3 (OpenSpec.ofChange Rows.fnFromDecimalIsSpec) false w args)
      (Rows.fnFromDecimalIsSpec.post enc Tryd.prog Tryd.f3 false true false false) := by
  refine returnsInHanded_of_change_and (C := Tryd.checked) (X := fun w _ => laidMetH Tryd.prog Rows.fnFromDecimalIsRow.laid w) (fun _ _ _ hh h => h.of_heap hh) own started (by kernel_rfl) Tryd.func3
    (ChangeSpec.witness_shaped (enc := enc) (C := Tryd.checked) (os := os) (X := fun w _ => laidMetH Tryd.prog Rows.fnFromDecimalIsRow.laid w) false (World.doorLaid Tryd.prog 400 os) #[.string ByteArray.empty] 8 rfl (World.shaped_of_RefB (by kernel_rfl) (by kernel_rfl)) (by kernel_rfl) (by kernel_rfl) (by kernel_rfl) (door_met os _)) ?_
  intro W base args ds gs before hval0 hW _ _ hL _
  have hval : ∀ (j : Nat) t v, Tryd.f3.params[j]? = some t → args[j]? = some v → Value.okWide Tryd.prog W .any base t v := hval0
  have hW' := hW
  obtain ⟨p, q, hA0, hV, rfl, hfz, hnd⟩ := hW
  have hA : DataW.TrodAll enc Tryd.prog W 0 (fun _ => true) true Tryd.f3.params.toList args.toList ds p := hA0
  rw [Tryd.params3] at hA hval
  obtain ⟨v0, vs0, d0, ds0, p0, q0, hargs, rfl, rfl, h0, r0⟩ := trodAll_cons hA
  obtain ⟨rfl, rfl, rfl⟩ := trodAll_nil r0
  obtain rfl : args = #[v0] := by cases args; simp_all
  have k0 := h0
  have lt0 : ∀ x ∈ p0, x.block < W.heap.size := by obtain ⟨m, hm⟩ := k0; exact DataW.trod_lt m _ _ _ hm
  obtain ⟨x0, rfl⟩ := okWide_string Tryd.underlying9 (hval 0 9 v0 rfl rfl)
  have hlen := trodVars_len hV
  obtain ⟨z0, z1, rfl⟩ : ∃ z0 z1, gs = [z0, z1] := by
    match gs, hlen with
    | [z0, z1], _ => exact ⟨z0, z1, rfl⟩
  clear hA0 hval0
  have hL2 : laidMet Tryd.prog Rows.fnFromDecimalIsRow.laid W := by rw [← MakeChecks.laidMetH_plain _ _ _ (by kernel_rfl)]; exact hL
  obtain ⟨a, hD⟩ := decW_of (Go.Lib.laidMet.reads hL2 (List.mem_cons_of_mem _ (List.mem_cons_of_mem _ (List.mem_cons_of_mem _ (List.mem_cons_of_mem _ (List.mem_cons_self)))))) (Go.Lib.laidMet.reads hL2 (List.mem_cons_of_mem _ (List.mem_cons_of_mem _ (List.mem_cons_of_mem _ (List.mem_cons_of_mem _ (List.mem_cons_of_mem _ (List.mem_cons_self))))))) (Go.Lib.laidMet.reads hL2 (List.mem_cons_of_mem _ (List.mem_cons_of_mem _ (List.mem_cons_of_mem _ (List.mem_cons_of_mem _ (List.mem_cons_of_mem _ (List.mem_cons_of_mem _ (List.mem_cons_self)))))))) (Go.Lib.laidMet.reads hL2 (List.mem_cons_of_mem _ (List.mem_cons_of_mem _ (List.mem_cons_of_mem _ (List.mem_cons_of_mem _ (List.mem_cons_of_mem _ (List.mem_cons_of_mem _ (List.mem_cons_of_mem _ (List.mem_cons_self)))))))))
  refine (walk x0 W a hD).mono fun e W' ⟨he, bel⟩ => ?_
  subst he
  exact ⟨_, rfl, _, _, _, [], _, _, hW', trodAll_mk1 (shut_bool Tryd.underlying4 _), (trodAll_cons_mk (Below.trod laidOut (by kernel_rfl) (of_decide_eq_true (by kernel_rfl)) k0 bel lt0) trodAll_mk0), Below.trodVars laidOut bel (by kernel_rfl) hV, bel.frame _, fun h => by cases h⟩
theorem row_holds : Rows.FnFromDecimalIsSaid :=
  OpenClaim.holds_of_wide 3 Tryd.f3 rfl rfl rfl rfl rfl rfl rfl ⟨rfl, rfl, rfl, rfl, rfl⟩ rfl rfl rfl rfl rfl (by kernel_rfl) Tryd.func3 (by kernel_rfl)
    (of_decide_eq_true (by kernel_rfl)) (by unfold Func.isWrapper; first | (rw [if_pos (by decide +kernel)]; kernel_rfl) | (rw [if_neg (by decide +kernel)]; exact ⟨rfl, rfl⟩))
    (fun os started H enc _ => lifted os started H enc)
theorem holds : Rows.FnFromDecimalIsCardSaid :=
  Claim7.holds_tied_plain_at .later [] _ true _ true
    row_holds (fun _ h => by cases h) (by kernel_rfl) (fun _ h => by cases h) fnFromDecimalIs_row_tie rfl ⟨rfl, rfl⟩ (by kernel_rfl) rfl
    (fun f fn hf hfn => by
      obtain rfl : f = 3 := Option.some.inj ((show Tryd.prog.funcNamed "loop.example/pub-g03023/laws.FnFromDecimalIs" = some 3 by kernel_rfl).symm.trans hf) |>.symm
      obtain rfl : fn = Tryd.f3 := (Option.some.inj (Tryd.func3.symm.trans hfn)).symm
      exact ⟨by kernel_rfl, fun j t ht => by
        rw [Tryd.params3] at ht
        have hm : t ∈ [9] := by simpa using Array.mem_of_getElem? ht
        have hall : ([9].all fun u => !Tryd.prog.wantsStandIn u) = true := by kernel_rfl
        exact (show Tryd.prog.wantsStandIn t = false by simpa using List.all_eq_true.1 hall t hm)⟩)
    (by kernel_rfl)
#print axioms holds
end Go.Proofs.YtfaocjcpnjmfiaaDoor.fnFromDecimalIs
