/-
  The reference's OfHex of a text that bears its prefix.
-/
import Derived.Test.YtbgmeppidedfbaaDoorOfHex
set_option linter.unusedVariables false
set_option linter.unusedSimpArgs false
namespace Go.Proofs.YtbgmeppidedfbaaDoor
open Go.RowKit
theorem heap_setCellsR (k : Nat) (vs : List Value) : ∀ (w : World) (g o : Nat), k ≠ g → (w.setCells g o vs).heap[k]? = w.heap[k]? := by
  induction vs with
  | nil => intro w g o _; rfl
  | cons v vs ih =>
    intro w g o h
    show ((w.setCell ⟨g, o, none⟩ v).setCells g (o + 1) vs).heap[k]? = _
    rw [ih _ _ _ h]
    simp only [World.setCell, Array.getElem?_modify]
    rw [if_neg (fun e => h e.symm)]
theorem oneFault (w : World) (k : Int) : (((w.alloc Z4R).alloc (.cells #[.int .i64 k] 3)).setCells w.heap.size 0 [V zeroR.a, V zeroR.b, V zeroR.c, V zeroR.d]).cell? ⟨w.heap.size + 1, 0 + 0, none⟩ = some (.int .i64 k) := by
  have e := heap_setCellsR (w.heap.size + 1) [V zeroR.a, V zeroR.b, V zeroR.c, V zeroR.d] ((w.alloc Z4R).alloc (.cells #[.int .i64 k] 3)) w.heap.size 0 (by omega)
  unfold World.cell?
  rw [show w.heap.size + 1 = ((⟨w.heap.size + 1, 0 + 0, none⟩ : Addr)).block by rfl] at e
  have e2 : ((w.alloc Z4R).alloc (.cells #[.int .i64 k] 3)).heap[w.heap.size + 1]? = some (.cells #[.int .i64 k] 3) := by
    have e3 : (w.alloc Z4R).heap.size = w.heap.size + 1 := by simp
    rw [← e3]; exact Array.getElem?_push_size
  have e4 := e.trans e2
  rw [e4]
  rfl
theorem ownR_set {w : World} {B n g o : Nat} {e : TypeId} {v : Value} {xs vs : List Value} (h : w.ownsRow B e 1 v n xs) (hg : g < B) : (w.setCells g o vs).ownsRow B e 1 v n xs := by
  obtain ⟨h1, h2⟩ := h
  refine ⟨h1, ?_⟩
  rcases h2 with h3 | ⟨g', cap', cur, h3, h4, h5, h6⟩
  · exact .inl h3
  · exact .inr ⟨g', cap', cur, h3, h4, by rw [heap_setCellsR _ _ _ _ _ (by omega)]; exact h5, h6⟩
theorem Tryd.infoIntR : (Tryd.prog.info? 3).map (fun i => (i.zero, i.size, i.bytes)) = some (some (.int .i64 0), 1, 8) := by kernel_rfl
theorem isPre_len (s : List UInt8) (h : isPre s = true) : 2 ≤ s.length := by
  rcases s with _ | ⟨c0, _ | ⟨c1, d⟩⟩
  · cases h
  · cases h
  · simp
set_option maxHeartbeats 16000000 in
set_option maxRecDepth 20000 in
theorem ofHex_main (s : List UInt8) (w : World) (hmax : s.length ≤ 65536) (hs0 : s ≠ []) (hp : isPre s = true) (IP : Hid (∀ w, Calls Tryd.prog 26 #[.string ⟨s.toArray⟩] w fun e w' => e = .returned (.bool true) ∧ w' = w)) :
    Calls Tryd.prog 11 #[.string ⟨s.toArray⟩] w fun e w' => Below w.heap.size w w' ∧
    ((specFaults s = [] ∧ e = .returned (.tuple #[(ofN (hv (s.drop 2))).v, .slice none 0 0])) ∨ (specFaults s ≠ [] ∧ ∃ v, e = .returned (.tuple #[zeroR.v, v]) ∧ Sl w' v (specFaults s))) := by
  have hth := thereR_z w
  obtain ⟨F, hF⟩ : ∃ F, F = specFaults s := ⟨_, rfl⟩
  rw [← hF]
  unfold specFaults at hF
  rw [if_neg hs0, if_neg (by rw [hp]; simp)] at hF
  have hs2 : 2 ≤ s.length := isPre_len s hp
  obtain ⟨d, hd⟩ : ∃ d, d = s.drop 2 := ⟨_, rfl⟩
  rw [← hd] at hF ⊢
  have hdl : d.length ≤ 65536 := by rw [hd, List.length_drop]; omega
  obtain ⟨S, hS⟩ : ∃ S : ByteArray, S = ⟨s.toArray⟩ := ⟨_, rfl⟩
  rw [← hS] at IP ⊢
  have q : S.toList.isEmpty = false := by rw [ByteArray.toList_eq, hS]; simp [hs0]
  have hszS : S.size = s.length := by rw [hS]; rfl
  have hsz2 : (2 : Int) ≤ (S.size : Int) := by omega
  have hext : S.extract 2 S.size = ⟨d.toArray⟩ := by
    apply ByteArray.ext
    rw [ByteArray.data_extract, hszS, hS, hd]
    simp
    exact List.take_of_length_le (by rw [List.length_drop]; omega)
  clear hs0 hp hmax hd hS hs2 hszS
  by_cases hd0 : d = []
  · subst hd0
    rw [if_pos rfl] at hF
    have hth2 : ((w.alloc Z4R).alloc (.cells #[.int .i64 4] 3)).there w.heap.size 0 4 := thereR_bel hth (by omega) (bel_alloc (bel_refl _) _)
    have S1 : Hid (Sl ((((w.alloc Z4R).alloc (.cells #[.int .i64 4] 3))).setCells w.heap.size 0 [V zeroR.a, V zeroR.b, V zeroR.c, V zeroR.d]) (.slice (some ⟨w.heap.size + 1, 0, none⟩) 1 1) [4]) := by
      refine ⟨some ⟨w.heap.size + 1, 0, none⟩, 1, rfl, Nat.le_refl _, fun i d hd => ⟨_, _, rfl, ?_⟩⟩
      match i, hd with
      | 0, hd =>
        simp at hd
        subst hd
        have e := heap_setCellsR (w.heap.size + 1) [V zeroR.a, V zeroR.b, V zeroR.c, V zeroR.d] ((w.alloc Z4R).alloc (.cells #[.int .i64 4] 3)) w.heap.size 0 (by omega)
        unfold World.cell?
        rw [show w.heap.size + 1 = ((⟨w.heap.size + 1, 0 + 0, none⟩ : Addr)).block by rfl] at e
        have e2 : ((w.alloc Z4R).alloc (.cells #[.int .i64 4] 3)).heap[w.heap.size + 1]? = some (.cells #[.int .i64 4] 3) := by
          have e3 : (w.alloc Z4R).heap.size = w.heap.size + 1 := by simp
          rw [← e3]; exact Array.getElem?_push_size
        have e4 := e.trans e2
        rw [e4]
        rfl
      | i + 1, hd => simp at hd
    subst hF
    go_enter Tryd.func11, Tryd.ntmps11
    go_wp2_with (first | (go_at_call 26; refine (IP.out _).mono ?_; rintro e w1 ⟨rfl, hw1⟩; have hw1 := hw1.symm; subst hw1) | (show wpList _ _ _ (⟨none, Op.store 24 _ _, _, _, _, _⟩ :: _) _ _; refine wpList_store_mid (op := ⟨none, Op.store 24 (.tmp 2) (.tmp 23), _, _, _, _⟩) rfl 24 _ _ rfl w.heap.size 0 [V zeroR.a, V zeroR.b, V zeroR.c, V zeroR.d].toArray rfl rfl hth2 (by kernel_rfl) (by simp [Value.oneCell']) ?_))
    go_wp2
    refine bodyPost_ret (v := .tuple #[zeroR.v, .slice (some ⟨w.heap.size + 1, 0, none⟩) 1 1]) (resultsR_slot rfl _ _ w.heap.size [V zeroR.a, V zeroR.b, V zeroR.c, V zeroR.d] _ rfl (World.rangeAt_setCells_same _ _ 0 _ hth2) Tryd.underlying24 rfl (by kernel_rfl) rfl) rfl ⟨?_, by first | exact .inr ⟨by simp, _, rfl, S1.out⟩ | exact ⟨_, rfl, S1.out⟩⟩
    exact setCellsR_bel (bel_alloc (bel_alloc (bel_refl w) _) _) (Nat.le_refl _)
  · rw [if_neg hd0] at hF
    have q2 : d.isEmpty = false := by simp [hd0]
    have HF := Lib.hid hF
    clear hF
    go_enter Tryd.func11, Tryd.ntmps11
    go_wp2_with (first | (go_at_call 26; refine (IP.out _).mono ?_; rintro e w1 ⟨rfl, hw1⟩; have hw1 := hw1.symm; subst hw1))
    have W1sz : ((((w.alloc Z4R).alloc (.cells #[] 3)).alloc (.cells #[] 3))).heap.size = w.heap.size + 3 := by simp
    have own1 : ((((w.alloc Z4R).alloc (.cells #[] 3)).alloc (.cells #[] 3))).ownsRow (w.heap.size + 1) 3 1 (.slice (some ⟨w.heap.size + 1, 0, none⟩) 0 0) 0 (ints []) := by
      have h := World.ownsRow_made (base := w.heap.size + 1) (e := 3) (size := 1) (w.alloc Z4R) #[] 0 (by simp) (Nat.zero_le _) rfl
      have h2 := h.alloc (.cells #[] 3)
      simpa [ints] using h2
    have hth1 : ((((w.alloc Z4R).alloc (.cells #[] 3)).alloc (.cells #[] 3))).there w.heap.size 0 4 := thereR_bel (thereR_bel hth (by omega) (bel_alloc (bel_refl _) _)) (by omega) (bel_alloc (bel_refl _) _)
    have bel1 : Below w.heap.size w ((((w.alloc Z4R).alloc (.cells #[] 3)).alloc (.cells #[] 3))) := bel_alloc (bel_alloc (bel_alloc (bel_refl w) _) _) _
    have HS1 : Hid (OhS ((((w.alloc Z4R).alloc (.cells #[] 3)).alloc (.cells #[] 3))) d 0 (.slice (some ⟨w.heap.size + 2, 0, none⟩) 0 0) false ((((w.alloc Z4R).alloc (.cells #[] 3)).alloc (.cells #[] 3)))) := by
      refine ⟨Nat.zero_le _, ?_, fun _ => ⟨0, ⟨[], ⟨some ⟨w.heap.size + 2, 0, none⟩, 0, rfl, Nat.le_refl _, fun i d hd => by simp at hd⟩, (fun d hd => by simp at hd), rfl, Nat.zero_le _⟩, fun _ => rfl⟩, bel_refl _⟩
      rw [List.take_zero, decide_eq_true Nibs.nil]
      rfl
    have OWN1 := Lib.hid own1
    have HTH1 := Lib.hid hth1
    have BEL1 := Lib.hid bel1
    clear own1 hth1 bel1 hth
    generalize ((((w.alloc Z4R).alloc (.cells #[] 3)).alloc (.cells #[] 3))) = W1 at *
    refine oh_loop W1 d 0 _ _ _ false W1 _ _ _ _ _ _ _ _ _ _ _ _ _ _ _ _ _ _ _ _ _ _ _ _ _ _ _ _ _ _ _ _ _ _ _ _ _ _ _ _ _ _ _ _ _ _ _ _ _ _ _ _ _ _ _ _ _ _ _ _ _ _ _ _ _ _ _ _ _ _ _ _ HS1.out (by omega) rfl ?_
    show ∀ _, _
    intro l2 nn2 I2 syn2 W2 u27 u28 u29 u30 u31 u32 u33 u34 u35 u36 u37 u38 u39 u40 u41 u42 u43 u44 u45 u46 u47 H2
    obtain ⟨i0, hi, hz0, hz1, hz2⟩ := info_parts Tryd.infoIntR
    have hsyn := H2.syn
    rw [List.take_length] at hsyn
    have H2H := Lib.hid H2
    have HTH2 := Lib.hid (thereR_bel HTH1.out (by omega) H2.bel)
    have OWN2 := Lib.hid (ownR_bel OWN1.out H2.bel)
    have BEL2 := Lib.hid (bel_trans BEL1.out H2.bel)
    have hW2 : w.heap.size + 1 ≤ W2.heap.size := by have := H2.bel.size; omega
    clear H2 HS1 OWN1 HTH1 BEL1 W1sz
    obtain ⟨c, hc⟩ : ∃ c, d[0]? = some c := ⟨_, List.getElem?_eq_getElem (by rcases d with _ | _; exact absurd rfl hd0; simp)⟩
    have hgd0 : ∀ h, (⟨d.toArray⟩ : ByteArray)[0]'h = c := by
      intro h
      show (d.toArray[0]'h) = c
      rw [List.getElem_toArray]
      exact (List.getElem?_eq_some_iff.1 hc).2
    have hF := HF.out
    rw [hc] at hF
    have HC := Lib.hid hc
    clear hc hd0 q2 q hext hsz2 IP
    by_cases hn : Nibs d
    · rw [decide_eq_true hn] at hsyn
      simp only [Bool.not_true] at hsyn
      subst hsyn
      rw [if_pos hn] at hF
      have HNN := Lib.hid hn
      clear hn
      by_cases h1 : 1 < d.length
      · have p1 : (1 : Int) < (d.length : Int) := by omega
        by_cases h48 : c = 48
        · have p48 : ((c.toNat : Int) == 48) = true := by rw [h48]; rfl
          rw [if_pos ⟨h1, by rw [h48]⟩] at hF
          clear h48
          by_cases h64 : 64 < d.length
          · have p64 : (64 : Int) < (d.length : Int) := by omega
            rw [if_pos h64] at hF
            try simp only [List.append_nil, List.nil_append, List.singleton_append, List.cons_append] at hF
            subst hF
            go_wp2_with (at_builtin; refine wpList_append_own _ rfl _ _ 25 rfl (w.heap.size + 1) 3 i0 (.int .i64 0) 1 8 Tryd.underlying25 hi hz0 hz1 hz2 rfl (by decide) _ _ _ rfl (OWN2.out.alloc _) ⟨W2.heap.size, 0, none⟩ 1 1 [.int .i64 5] rfl rfl ?q1x1 ?q1x2 ?q1x3 ?q1x4 ?q1x5 ?_)
            try (case q1x1 => intro ii u hu; rcases ii with _ | ii; (simp at hu; subst hu; simp [Addr.add, go_sem]); (simp at hu))
            try (case q1x2 => first | rfl | (intro u hu; simp at hu; subst hu; rfl))
            try (case q1x3 => first | (unfold maxLen; omega) | (simp [maxLen]))
            try (case q1x4 => omega)
            try (case q1x5 => first | omega | (simp; omega))
            intro y1 X1 hown2 hgrow2 _
            have OW1 : Hid (X1.ownsRow (w.heap.size + 1) 3 1 y1 1 (ints [5])) := by
              show World.ownsRow _ _ _ _ _ _ _
              simpa [ints] using hown2
            have BB1 : Hid (Below (w.heap.size + 1) W2 X1) := by
              have HOO := OWN2.out
              exact ((Below.refl _ W2).alloc (by omega) _).grown hgrow2 (by simp; omega) (fun g hg => (HOO.lt g hg).1)
            have hX1 : w.heap.size + 1 ≤ X1.heap.size := by have := hgrow2.size; simp at this; omega
            clear hown2 hgrow2
            go_wp2_with (at_builtin; refine wpList_append_own _ rfl _ _ 25 rfl (w.heap.size + 1) 3 i0 (.int .i64 0) 1 8 Tryd.underlying25 hi hz0 hz1 hz2 rfl (by decide) _ _ _ rfl (OW1.out.alloc _) ⟨X1.heap.size, 0, none⟩ 1 1 [.int .i64 6] rfl rfl ?q2x1 ?q2x2 ?q2x3 ?q2x4 ?q2x5 ?_)
            try (case q2x1 => intro ii u hu; rcases ii with _ | ii; (simp at hu; subst hu; simp [Addr.add, go_sem]); (simp at hu))
            try (case q2x2 => first | rfl | (intro u hu; simp at hu; subst hu; rfl))
            try (case q2x3 => first | (unfold maxLen; omega) | (simp [maxLen]))
            try (case q2x4 => omega)
            try (case q2x5 => first | omega | (simp; omega))
            intro y2 X2 hown2 hgrow2 _
            have OW2 : Hid (X2.ownsRow (w.heap.size + 1) 3 1 y2 2 (ints [5, 6])) := by
              show World.ownsRow _ _ _ _ _ _ _
              simpa [ints] using hown2
            have BB2 : Hid (Below (w.heap.size + 1) W2 X2) := by
              have HOO := OW1.out
              exact (BB1.out.alloc (by omega) _).grown hgrow2 (by simp; omega) (fun g hg => (HOO.lt g hg).1)
            have hX2 : w.heap.size + 1 ≤ X2.heap.size := by have := hgrow2.size; simp at this; omega
            clear hown2 hgrow2
            have hthF := thereR_keep HTH2.out BB2.out (by omega)
            obtain ⟨AA, cc, hy, hcc, _⟩ := slOfR OW2.out
            simp only [List.length_cons, List.length_nil, Nat.zero_add, Nat.reduceAdd] at hy hcc
            subst hy
            go_wp2_with (show wpList _ _ _ (⟨none, Op.store 24 _ _, _, _, _, _⟩ :: _) _ _; refine wpList_store_mid (op := ⟨none, Op.store 24 (.tmp 2) (.tmp 72), _, _, _, _⟩) rfl 24 _ _ rfl w.heap.size 0 [V zeroR.a, V zeroR.b, V zeroR.c, V zeroR.d].toArray rfl rfl hthF (by kernel_rfl) (by simp [Value.oneCell']) ?_)
            go_wp2
            refine bodyPost_ret (v := .tuple #[zeroR.v, .slice AA 2 cc]) (resultsR_slot rfl _ _ w.heap.size [V zeroR.a, V zeroR.b, V zeroR.c, V zeroR.d] _ rfl (World.rangeAt_setCells_same _ _ 0 _ hthF) Tryd.underlying24 rfl (by kernel_rfl) rfl) rfl ⟨?_, by first | exact .inr ⟨by simp, _, rfl, slOfR (e := 3) (B := w.heap.size + 1) (ownR_set OW2.out (by omega))⟩ | exact ⟨_, rfl, slOfR (e := 3) (B := w.heap.size + 1) (ownR_set OW2.out (by omega))⟩⟩
            exact setCellsR_bel (BEL2.out.trans (BB2.out.mono (by omega))) (Nat.le_refl _)
          · have p64 : ¬ (64 : Int) < (d.length : Int) := by omega
            rw [if_neg h64] at hF
            try simp only [List.append_nil, List.nil_append, List.singleton_append, List.cons_append] at hF
            subst hF
            go_wp2_with (at_builtin; refine wpList_append_own _ rfl _ _ 25 rfl (w.heap.size + 1) 3 i0 (.int .i64 0) 1 8 Tryd.underlying25 hi hz0 hz1 hz2 rfl (by decide) _ _ _ rfl (OWN2.out.alloc _) ⟨W2.heap.size, 0, none⟩ 1 1 [.int .i64 5] rfl rfl ?q3x1 ?q3x2 ?q3x3 ?q3x4 ?q3x5 ?_)
            try (case q3x1 => intro ii u hu; rcases ii with _ | ii; (simp at hu; subst hu; simp [Addr.add, go_sem]); (simp at hu))
            try (case q3x2 => first | rfl | (intro u hu; simp at hu; subst hu; rfl))
            try (case q3x3 => first | (unfold maxLen; omega) | (simp [maxLen]))
            try (case q3x4 => omega)
            try (case q3x5 => first | omega | (simp; omega))
            intro y1 X1 hown2 hgrow2 _
            have OW1 : Hid (X1.ownsRow (w.heap.size + 1) 3 1 y1 1 (ints [5])) := by
              show World.ownsRow _ _ _ _ _ _ _
              simpa [ints] using hown2
            have BB1 : Hid (Below (w.heap.size + 1) W2 X1) := by
              have HOO := OWN2.out
              exact ((Below.refl _ W2).alloc (by omega) _).grown hgrow2 (by simp; omega) (fun g hg => (HOO.lt g hg).1)
            have hX1 : w.heap.size + 1 ≤ X1.heap.size := by have := hgrow2.size; simp at this; omega
            clear hown2 hgrow2
            have hthF := thereR_keep HTH2.out BB1.out (by omega)
            obtain ⟨AA, cc, hy, hcc, _⟩ := slOfR OW1.out
            simp only [List.length_cons, List.length_nil, Nat.zero_add, Nat.reduceAdd] at hy hcc
            subst hy
            go_wp2_with (show wpList _ _ _ (⟨none, Op.store 24 _ _, _, _, _, _⟩ :: _) _ _; refine wpList_store_mid (op := ⟨none, Op.store 24 (.tmp 2) (.tmp 72), _, _, _, _⟩) rfl 24 _ _ rfl w.heap.size 0 [V zeroR.a, V zeroR.b, V zeroR.c, V zeroR.d].toArray rfl rfl hthF (by kernel_rfl) (by simp [Value.oneCell']) ?_)
            go_wp2
            refine bodyPost_ret (v := .tuple #[zeroR.v, .slice AA 1 cc]) (resultsR_slot rfl _ _ w.heap.size [V zeroR.a, V zeroR.b, V zeroR.c, V zeroR.d] _ rfl (World.rangeAt_setCells_same _ _ 0 _ hthF) Tryd.underlying24 rfl (by kernel_rfl) rfl) rfl ⟨?_, by first | exact .inr ⟨by simp, _, rfl, slOfR (e := 3) (B := w.heap.size + 1) (ownR_set OW1.out (by omega))⟩ | exact ⟨_, rfl, slOfR (e := 3) (B := w.heap.size + 1) (ownR_set OW1.out (by omega))⟩⟩
            exact setCellsR_bel (BEL2.out.trans (BB1.out.mono (by omega))) (Nat.le_refl _)
        · have p48 : ((c.toNat : Int) == 48) = false := by
            have : c.toNat ≠ 48 := fun e => h48 (UInt8.toNat.inj e)
            simp; omega
          rw [if_neg (fun h => h48 (by simpa using h.2))] at hF
          clear h48
          by_cases h64 : 64 < d.length
          · have p64 : (64 : Int) < (d.length : Int) := by omega
            rw [if_pos h64] at hF
            try simp only [List.append_nil, List.nil_append, List.singleton_append, List.cons_append] at hF
            subst hF
            go_wp2_with (at_builtin; refine wpList_append_own _ rfl _ _ 25 rfl (w.heap.size + 1) 3 i0 (.int .i64 0) 1 8 Tryd.underlying25 hi hz0 hz1 hz2 rfl (by decide) _ _ _ rfl (OWN2.out.alloc _) ⟨W2.heap.size, 0, none⟩ 1 1 [.int .i64 6] rfl rfl ?q4x1 ?q4x2 ?q4x3 ?q4x4 ?q4x5 ?_)
            try (case q4x1 => intro ii u hu; rcases ii with _ | ii; (simp at hu; subst hu; simp [Addr.add, go_sem]); (simp at hu))
            try (case q4x2 => first | rfl | (intro u hu; simp at hu; subst hu; rfl))
            try (case q4x3 => first | (unfold maxLen; omega) | (simp [maxLen]))
            try (case q4x4 => omega)
            try (case q4x5 => first | omega | (simp; omega))
            intro y1 X1 hown2 hgrow2 _
            have OW1 : Hid (X1.ownsRow (w.heap.size + 1) 3 1 y1 1 (ints [6])) := by
              show World.ownsRow _ _ _ _ _ _ _
              simpa [ints] using hown2
            have BB1 : Hid (Below (w.heap.size + 1) W2 X1) := by
              have HOO := OWN2.out
              exact ((Below.refl _ W2).alloc (by omega) _).grown hgrow2 (by simp; omega) (fun g hg => (HOO.lt g hg).1)
            have hX1 : w.heap.size + 1 ≤ X1.heap.size := by have := hgrow2.size; simp at this; omega
            clear hown2 hgrow2
            have hthF := thereR_keep HTH2.out BB1.out (by omega)
            obtain ⟨AA, cc, hy, hcc, _⟩ := slOfR OW1.out
            simp only [List.length_cons, List.length_nil, Nat.zero_add, Nat.reduceAdd] at hy hcc
            subst hy
            go_wp2_with (show wpList _ _ _ (⟨none, Op.store 24 _ _, _, _, _, _⟩ :: _) _ _; refine wpList_store_mid (op := ⟨none, Op.store 24 (.tmp 2) (.tmp 72), _, _, _, _⟩) rfl 24 _ _ rfl w.heap.size 0 [V zeroR.a, V zeroR.b, V zeroR.c, V zeroR.d].toArray rfl rfl hthF (by kernel_rfl) (by simp [Value.oneCell']) ?_)
            go_wp2
            refine bodyPost_ret (v := .tuple #[zeroR.v, .slice AA 1 cc]) (resultsR_slot rfl _ _ w.heap.size [V zeroR.a, V zeroR.b, V zeroR.c, V zeroR.d] _ rfl (World.rangeAt_setCells_same _ _ 0 _ hthF) Tryd.underlying24 rfl (by kernel_rfl) rfl) rfl ⟨?_, by first | exact .inr ⟨by simp, _, rfl, slOfR (e := 3) (B := w.heap.size + 1) (ownR_set OW1.out (by omega))⟩ | exact ⟨_, rfl, slOfR (e := 3) (B := w.heap.size + 1) (ownR_set OW1.out (by omega))⟩⟩
            exact setCellsR_bel (BEL2.out.trans (BB1.out.mono (by omega))) (Nat.le_refl _)
          · have p64 : ¬ (64 : Int) < (d.length : Int) := by omega
            rw [if_neg h64] at hF
            try simp only [List.append_nil, List.nil_append, List.singleton_append, List.cons_append] at hF
            subst hF
            obtain ⟨n, hdg, hnv⟩ := H2H.out.dg (by omega)
            rw [List.take_length] at hnv
            have hn2 := hnv HNN.out
            subst hn2
            have HDG := Lib.hid hdg
            clear hdg hnv
            go_wp2_with fail
            refine (cut_dg _ (hv d) _ _ HDG.out (by omega)).mono ?_
            rintro e W3 ⟨rfl, hb3⟩
            have hthF := thereR_bel HTH2.out (by omega) hb3
            have HB3 := Lib.hid (bel_trans BEL2.out hb3)
            clear hb3
            go_wp2_with (show wpList _ _ _ (⟨none, Op.store 24 _ _, _, _, _, _⟩ :: _) _ _; refine wpList_store_mid (op := ⟨none, Op.store 24 (.tmp 2) (.tmp 75), _, _, _, _⟩) rfl 24 _ _ rfl w.heap.size 0 [V (ofN (hv d)).a, V (ofN (hv d)).b, V (ofN (hv d)).c, V (ofN (hv d)).d].toArray rfl rfl hthF (by kernel_rfl) (by simp [Value.oneCell']) ?_)
            go_wp2
            refine bodyPost_ret (v := .tuple #[(ofN (hv d)).v, .slice none 0 0]) (resultsR_slot rfl _ _ w.heap.size [V (ofN (hv d)).a, V (ofN (hv d)).b, V (ofN (hv d)).c, V (ofN (hv d)).d] _ rfl (World.rangeAt_setCells_same _ _ 0 _ hthF) Tryd.underlying24 rfl (by kernel_rfl) rfl) rfl ⟨?_, by first | exact .inl ⟨rfl, rfl⟩ | exact rfl⟩
            exact setCellsR_bel HB3.out (Nat.le_refl _)
      · have p1 : ¬ (1 : Int) < (d.length : Int) := by omega
        rw [if_neg (fun h => h1 h.1)] at hF
        rw [if_neg (by omega)] at hF
        have p64 : ¬ (64 : Int) < (d.length : Int) := by omega
        have h64 : ¬ 64 < d.length := by omega
        skip
        try simp only [List.append_nil, List.nil_append, List.singleton_append, List.cons_append] at hF
        subst hF
        obtain ⟨n, hdg, hnv⟩ := H2H.out.dg (by omega)
        rw [List.take_length] at hnv
        have hn2 := hnv HNN.out
        subst hn2
        have HDG := Lib.hid hdg
        clear hdg hnv
        go_wp2_with fail
        refine (cut_dg _ (hv d) _ _ HDG.out (by omega)).mono ?_
        rintro e W3 ⟨rfl, hb3⟩
        have hthF := thereR_bel HTH2.out (by omega) hb3
        have HB3 := Lib.hid (bel_trans BEL2.out hb3)
        clear hb3
        go_wp2_with (show wpList _ _ _ (⟨none, Op.store 24 _ _, _, _, _, _⟩ :: _) _ _; refine wpList_store_mid (op := ⟨none, Op.store 24 (.tmp 2) (.tmp 75), _, _, _, _⟩) rfl 24 _ _ rfl w.heap.size 0 [V (ofN (hv d)).a, V (ofN (hv d)).b, V (ofN (hv d)).c, V (ofN (hv d)).d].toArray rfl rfl hthF (by kernel_rfl) (by simp [Value.oneCell']) ?_)
        go_wp2
        refine bodyPost_ret (v := .tuple #[(ofN (hv d)).v, .slice none 0 0]) (resultsR_slot rfl _ _ w.heap.size [V (ofN (hv d)).a, V (ofN (hv d)).b, V (ofN (hv d)).c, V (ofN (hv d)).d] _ rfl (World.rangeAt_setCells_same _ _ 0 _ hthF) Tryd.underlying24 rfl (by kernel_rfl) rfl) rfl ⟨?_, by first | exact .inl ⟨rfl, rfl⟩ | exact rfl⟩
        exact setCellsR_bel HB3.out (Nat.le_refl _)
    · rw [decide_eq_false hn] at hsyn
      simp only [Bool.not_false] at hsyn
      subst hsyn
      rw [if_neg hn] at hF
      clear hn
      by_cases h1 : 1 < d.length
      · have p1 : (1 : Int) < (d.length : Int) := by omega
        by_cases h48 : c = 48
        · have p48 : ((c.toNat : Int) == 48) = true := by rw [h48]; rfl
          rw [if_pos ⟨h1, by rw [h48]⟩] at hF
          clear h48
          by_cases h64 : 64 < d.length
          · have p64 : (64 : Int) < (d.length : Int) := by omega
            rw [if_pos h64] at hF
            try simp only [List.append_nil, List.nil_append, List.singleton_append, List.cons_append] at hF
            subst hF
            go_wp2_with (at_builtin; refine wpList_append_own _ rfl _ _ 25 rfl (w.heap.size + 1) 3 i0 (.int .i64 0) 1 8 Tryd.underlying25 hi hz0 hz1 hz2 rfl (by decide) _ _ _ rfl (OWN2.out.alloc _) ⟨W2.heap.size, 0, none⟩ 1 1 [.int .i64 2] rfl rfl ?q5x1 ?q5x2 ?q5x3 ?q5x4 ?q5x5 ?_)
            try (case q5x1 => intro ii u hu; rcases ii with _ | ii; (simp at hu; subst hu; simp [Addr.add, go_sem]); (simp at hu))
            try (case q5x2 => first | rfl | (intro u hu; simp at hu; subst hu; rfl))
            try (case q5x3 => first | (unfold maxLen; omega) | (simp [maxLen]))
            try (case q5x4 => omega)
            try (case q5x5 => first | omega | (simp; omega))
            intro y1 X1 hown2 hgrow2 _
            have OW1 : Hid (X1.ownsRow (w.heap.size + 1) 3 1 y1 1 (ints [2])) := by
              show World.ownsRow _ _ _ _ _ _ _
              simpa [ints] using hown2
            have BB1 : Hid (Below (w.heap.size + 1) W2 X1) := by
              have HOO := OWN2.out
              exact ((Below.refl _ W2).alloc (by omega) _).grown hgrow2 (by simp; omega) (fun g hg => (HOO.lt g hg).1)
            have hX1 : w.heap.size + 1 ≤ X1.heap.size := by have := hgrow2.size; simp at this; omega
            clear hown2 hgrow2
            go_wp2_with (at_builtin; refine wpList_append_own _ rfl _ _ 25 rfl (w.heap.size + 1) 3 i0 (.int .i64 0) 1 8 Tryd.underlying25 hi hz0 hz1 hz2 rfl (by decide) _ _ _ rfl (OW1.out.alloc _) ⟨X1.heap.size, 0, none⟩ 1 1 [.int .i64 5] rfl rfl ?q6x1 ?q6x2 ?q6x3 ?q6x4 ?q6x5 ?_)
            try (case q6x1 => intro ii u hu; rcases ii with _ | ii; (simp at hu; subst hu; simp [Addr.add, go_sem]); (simp at hu))
            try (case q6x2 => first | rfl | (intro u hu; simp at hu; subst hu; rfl))
            try (case q6x3 => first | (unfold maxLen; omega) | (simp [maxLen]))
            try (case q6x4 => omega)
            try (case q6x5 => first | omega | (simp; omega))
            intro y2 X2 hown2 hgrow2 _
            have OW2 : Hid (X2.ownsRow (w.heap.size + 1) 3 1 y2 2 (ints [2, 5])) := by
              show World.ownsRow _ _ _ _ _ _ _
              simpa [ints] using hown2
            have BB2 : Hid (Below (w.heap.size + 1) W2 X2) := by
              have HOO := OW1.out
              exact (BB1.out.alloc (by omega) _).grown hgrow2 (by simp; omega) (fun g hg => (HOO.lt g hg).1)
            have hX2 : w.heap.size + 1 ≤ X2.heap.size := by have := hgrow2.size; simp at this; omega
            clear hown2 hgrow2
            go_wp2_with (at_builtin; refine wpList_append_own _ rfl _ _ 25 rfl (w.heap.size + 1) 3 i0 (.int .i64 0) 1 8 Tryd.underlying25 hi hz0 hz1 hz2 rfl (by decide) _ _ _ rfl (OW2.out.alloc _) ⟨X2.heap.size, 0, none⟩ 1 1 [.int .i64 6] rfl rfl ?q7x1 ?q7x2 ?q7x3 ?q7x4 ?q7x5 ?_)
            try (case q7x1 => intro ii u hu; rcases ii with _ | ii; (simp at hu; subst hu; simp [Addr.add, go_sem]); (simp at hu))
            try (case q7x2 => first | rfl | (intro u hu; simp at hu; subst hu; rfl))
            try (case q7x3 => first | (unfold maxLen; omega) | (simp [maxLen]))
            try (case q7x4 => omega)
            try (case q7x5 => first | omega | (simp; omega))
            intro y3 X3 hown2 hgrow2 _
            have OW3 : Hid (X3.ownsRow (w.heap.size + 1) 3 1 y3 3 (ints [2, 5, 6])) := by
              show World.ownsRow _ _ _ _ _ _ _
              simpa [ints] using hown2
            have BB3 : Hid (Below (w.heap.size + 1) W2 X3) := by
              have HOO := OW2.out
              exact (BB2.out.alloc (by omega) _).grown hgrow2 (by simp; omega) (fun g hg => (HOO.lt g hg).1)
            have hX3 : w.heap.size + 1 ≤ X3.heap.size := by have := hgrow2.size; simp at this; omega
            clear hown2 hgrow2
            have hthF := thereR_keep HTH2.out BB3.out (by omega)
            obtain ⟨AA, cc, hy, hcc, _⟩ := slOfR OW3.out
            simp only [List.length_cons, List.length_nil, Nat.zero_add, Nat.reduceAdd] at hy hcc
            subst hy
            go_wp2_with (show wpList _ _ _ (⟨none, Op.store 24 _ _, _, _, _, _⟩ :: _) _ _; refine wpList_store_mid (op := ⟨none, Op.store 24 (.tmp 2) (.tmp 72), _, _, _, _⟩) rfl 24 _ _ rfl w.heap.size 0 [V zeroR.a, V zeroR.b, V zeroR.c, V zeroR.d].toArray rfl rfl hthF (by kernel_rfl) (by simp [Value.oneCell']) ?_)
            go_wp2
            refine bodyPost_ret (v := .tuple #[zeroR.v, .slice AA 3 cc]) (resultsR_slot rfl _ _ w.heap.size [V zeroR.a, V zeroR.b, V zeroR.c, V zeroR.d] _ rfl (World.rangeAt_setCells_same _ _ 0 _ hthF) Tryd.underlying24 rfl (by kernel_rfl) rfl) rfl ⟨?_, by first | exact .inr ⟨by simp, _, rfl, slOfR (e := 3) (B := w.heap.size + 1) (ownR_set OW3.out (by omega))⟩ | exact ⟨_, rfl, slOfR (e := 3) (B := w.heap.size + 1) (ownR_set OW3.out (by omega))⟩⟩
            exact setCellsR_bel (BEL2.out.trans (BB3.out.mono (by omega))) (Nat.le_refl _)
          · have p64 : ¬ (64 : Int) < (d.length : Int) := by omega
            rw [if_neg h64] at hF
            try simp only [List.append_nil, List.nil_append, List.singleton_append, List.cons_append] at hF
            subst hF
            go_wp2_with (at_builtin; refine wpList_append_own _ rfl _ _ 25 rfl (w.heap.size + 1) 3 i0 (.int .i64 0) 1 8 Tryd.underlying25 hi hz0 hz1 hz2 rfl (by decide) _ _ _ rfl (OWN2.out.alloc _) ⟨W2.heap.size, 0, none⟩ 1 1 [.int .i64 2] rfl rfl ?q8x1 ?q8x2 ?q8x3 ?q8x4 ?q8x5 ?_)
            try (case q8x1 => intro ii u hu; rcases ii with _ | ii; (simp at hu; subst hu; simp [Addr.add, go_sem]); (simp at hu))
            try (case q8x2 => first | rfl | (intro u hu; simp at hu; subst hu; rfl))
            try (case q8x3 => first | (unfold maxLen; omega) | (simp [maxLen]))
            try (case q8x4 => omega)
            try (case q8x5 => first | omega | (simp; omega))
            intro y1 X1 hown2 hgrow2 _
            have OW1 : Hid (X1.ownsRow (w.heap.size + 1) 3 1 y1 1 (ints [2])) := by
              show World.ownsRow _ _ _ _ _ _ _
              simpa [ints] using hown2
            have BB1 : Hid (Below (w.heap.size + 1) W2 X1) := by
              have HOO := OWN2.out
              exact ((Below.refl _ W2).alloc (by omega) _).grown hgrow2 (by simp; omega) (fun g hg => (HOO.lt g hg).1)
            have hX1 : w.heap.size + 1 ≤ X1.heap.size := by have := hgrow2.size; simp at this; omega
            clear hown2 hgrow2
            go_wp2_with (at_builtin; refine wpList_append_own _ rfl _ _ 25 rfl (w.heap.size + 1) 3 i0 (.int .i64 0) 1 8 Tryd.underlying25 hi hz0 hz1 hz2 rfl (by decide) _ _ _ rfl (OW1.out.alloc _) ⟨X1.heap.size, 0, none⟩ 1 1 [.int .i64 5] rfl rfl ?q9x1 ?q9x2 ?q9x3 ?q9x4 ?q9x5 ?_)
            try (case q9x1 => intro ii u hu; rcases ii with _ | ii; (simp at hu; subst hu; simp [Addr.add, go_sem]); (simp at hu))
            try (case q9x2 => first | rfl | (intro u hu; simp at hu; subst hu; rfl))
            try (case q9x3 => first | (unfold maxLen; omega) | (simp [maxLen]))
            try (case q9x4 => omega)
            try (case q9x5 => first | omega | (simp; omega))
            intro y2 X2 hown2 hgrow2 _
            have OW2 : Hid (X2.ownsRow (w.heap.size + 1) 3 1 y2 2 (ints [2, 5])) := by
              show World.ownsRow _ _ _ _ _ _ _
              simpa [ints] using hown2
            have BB2 : Hid (Below (w.heap.size + 1) W2 X2) := by
              have HOO := OW1.out
              exact (BB1.out.alloc (by omega) _).grown hgrow2 (by simp; omega) (fun g hg => (HOO.lt g hg).1)
            have hX2 : w.heap.size + 1 ≤ X2.heap.size := by have := hgrow2.size; simp at this; omega
            clear hown2 hgrow2
            have hthF := thereR_keep HTH2.out BB2.out (by omega)
            obtain ⟨AA, cc, hy, hcc, _⟩ := slOfR OW2.out
            simp only [List.length_cons, List.length_nil, Nat.zero_add, Nat.reduceAdd] at hy hcc
            subst hy
            go_wp2_with (show wpList _ _ _ (⟨none, Op.store 24 _ _, _, _, _, _⟩ :: _) _ _; refine wpList_store_mid (op := ⟨none, Op.store 24 (.tmp 2) (.tmp 72), _, _, _, _⟩) rfl 24 _ _ rfl w.heap.size 0 [V zeroR.a, V zeroR.b, V zeroR.c, V zeroR.d].toArray rfl rfl hthF (by kernel_rfl) (by simp [Value.oneCell']) ?_)
            go_wp2
            refine bodyPost_ret (v := .tuple #[zeroR.v, .slice AA 2 cc]) (resultsR_slot rfl _ _ w.heap.size [V zeroR.a, V zeroR.b, V zeroR.c, V zeroR.d] _ rfl (World.rangeAt_setCells_same _ _ 0 _ hthF) Tryd.underlying24 rfl (by kernel_rfl) rfl) rfl ⟨?_, by first | exact .inr ⟨by simp, _, rfl, slOfR (e := 3) (B := w.heap.size + 1) (ownR_set OW2.out (by omega))⟩ | exact ⟨_, rfl, slOfR (e := 3) (B := w.heap.size + 1) (ownR_set OW2.out (by omega))⟩⟩
            exact setCellsR_bel (BEL2.out.trans (BB2.out.mono (by omega))) (Nat.le_refl _)
        · have p48 : ((c.toNat : Int) == 48) = false := by
            have : c.toNat ≠ 48 := fun e => h48 (UInt8.toNat.inj e)
            simp; omega
          rw [if_neg (fun h => h48 (by simpa using h.2))] at hF
          clear h48
          by_cases h64 : 64 < d.length
          · have p64 : (64 : Int) < (d.length : Int) := by omega
            rw [if_pos h64] at hF
            try simp only [List.append_nil, List.nil_append, List.singleton_append, List.cons_append] at hF
            subst hF
            go_wp2_with (at_builtin; refine wpList_append_own _ rfl _ _ 25 rfl (w.heap.size + 1) 3 i0 (.int .i64 0) 1 8 Tryd.underlying25 hi hz0 hz1 hz2 rfl (by decide) _ _ _ rfl (OWN2.out.alloc _) ⟨W2.heap.size, 0, none⟩ 1 1 [.int .i64 2] rfl rfl ?q10x1 ?q10x2 ?q10x3 ?q10x4 ?q10x5 ?_)
            try (case q10x1 => intro ii u hu; rcases ii with _ | ii; (simp at hu; subst hu; simp [Addr.add, go_sem]); (simp at hu))
            try (case q10x2 => first | rfl | (intro u hu; simp at hu; subst hu; rfl))
            try (case q10x3 => first | (unfold maxLen; omega) | (simp [maxLen]))
            try (case q10x4 => omega)
            try (case q10x5 => first | omega | (simp; omega))
            intro y1 X1 hown2 hgrow2 _
            have OW1 : Hid (X1.ownsRow (w.heap.size + 1) 3 1 y1 1 (ints [2])) := by
              show World.ownsRow _ _ _ _ _ _ _
              simpa [ints] using hown2
            have BB1 : Hid (Below (w.heap.size + 1) W2 X1) := by
              have HOO := OWN2.out
              exact ((Below.refl _ W2).alloc (by omega) _).grown hgrow2 (by simp; omega) (fun g hg => (HOO.lt g hg).1)
            have hX1 : w.heap.size + 1 ≤ X1.heap.size := by have := hgrow2.size; simp at this; omega
            clear hown2 hgrow2
            go_wp2_with (at_builtin; refine wpList_append_own _ rfl _ _ 25 rfl (w.heap.size + 1) 3 i0 (.int .i64 0) 1 8 Tryd.underlying25 hi hz0 hz1 hz2 rfl (by decide) _ _ _ rfl (OW1.out.alloc _) ⟨X1.heap.size, 0, none⟩ 1 1 [.int .i64 6] rfl rfl ?q11x1 ?q11x2 ?q11x3 ?q11x4 ?q11x5 ?_)
            try (case q11x1 => intro ii u hu; rcases ii with _ | ii; (simp at hu; subst hu; simp [Addr.add, go_sem]); (simp at hu))
            try (case q11x2 => first | rfl | (intro u hu; simp at hu; subst hu; rfl))
            try (case q11x3 => first | (unfold maxLen; omega) | (simp [maxLen]))
            try (case q11x4 => omega)
            try (case q11x5 => first | omega | (simp; omega))
            intro y2 X2 hown2 hgrow2 _
            have OW2 : Hid (X2.ownsRow (w.heap.size + 1) 3 1 y2 2 (ints [2, 6])) := by
              show World.ownsRow _ _ _ _ _ _ _
              simpa [ints] using hown2
            have BB2 : Hid (Below (w.heap.size + 1) W2 X2) := by
              have HOO := OW1.out
              exact (BB1.out.alloc (by omega) _).grown hgrow2 (by simp; omega) (fun g hg => (HOO.lt g hg).1)
            have hX2 : w.heap.size + 1 ≤ X2.heap.size := by have := hgrow2.size; simp at this; omega
            clear hown2 hgrow2
            have hthF := thereR_keep HTH2.out BB2.out (by omega)
            obtain ⟨AA, cc, hy, hcc, _⟩ := slOfR OW2.out
            simp only [List.length_cons, List.length_nil, Nat.zero_add, Nat.reduceAdd] at hy hcc
            subst hy
            go_wp2_with (show wpList _ _ _ (⟨none, Op.store 24 _ _, _, _, _, _⟩ :: _) _ _; refine wpList_store_mid (op := ⟨none, Op.store 24 (.tmp 2) (.tmp 72), _, _, _, _⟩) rfl 24 _ _ rfl w.heap.size 0 [V zeroR.a, V zeroR.b, V zeroR.c, V zeroR.d].toArray rfl rfl hthF (by kernel_rfl) (by simp [Value.oneCell']) ?_)
            go_wp2
            refine bodyPost_ret (v := .tuple #[zeroR.v, .slice AA 2 cc]) (resultsR_slot rfl _ _ w.heap.size [V zeroR.a, V zeroR.b, V zeroR.c, V zeroR.d] _ rfl (World.rangeAt_setCells_same _ _ 0 _ hthF) Tryd.underlying24 rfl (by kernel_rfl) rfl) rfl ⟨?_, by first | exact .inr ⟨by simp, _, rfl, slOfR (e := 3) (B := w.heap.size + 1) (ownR_set OW2.out (by omega))⟩ | exact ⟨_, rfl, slOfR (e := 3) (B := w.heap.size + 1) (ownR_set OW2.out (by omega))⟩⟩
            exact setCellsR_bel (BEL2.out.trans (BB2.out.mono (by omega))) (Nat.le_refl _)
          · have p64 : ¬ (64 : Int) < (d.length : Int) := by omega
            rw [if_neg h64] at hF
            try simp only [List.append_nil, List.nil_append, List.singleton_append, List.cons_append] at hF
            subst hF
            go_wp2_with (at_builtin; refine wpList_append_own _ rfl _ _ 25 rfl (w.heap.size + 1) 3 i0 (.int .i64 0) 1 8 Tryd.underlying25 hi hz0 hz1 hz2 rfl (by decide) _ _ _ rfl (OWN2.out.alloc _) ⟨W2.heap.size, 0, none⟩ 1 1 [.int .i64 2] rfl rfl ?q12x1 ?q12x2 ?q12x3 ?q12x4 ?q12x5 ?_)
            try (case q12x1 => intro ii u hu; rcases ii with _ | ii; (simp at hu; subst hu; simp [Addr.add, go_sem]); (simp at hu))
            try (case q12x2 => first | rfl | (intro u hu; simp at hu; subst hu; rfl))
            try (case q12x3 => first | (unfold maxLen; omega) | (simp [maxLen]))
            try (case q12x4 => omega)
            try (case q12x5 => first | omega | (simp; omega))
            intro y1 X1 hown2 hgrow2 _
            have OW1 : Hid (X1.ownsRow (w.heap.size + 1) 3 1 y1 1 (ints [2])) := by
              show World.ownsRow _ _ _ _ _ _ _
              simpa [ints] using hown2
            have BB1 : Hid (Below (w.heap.size + 1) W2 X1) := by
              have HOO := OWN2.out
              exact ((Below.refl _ W2).alloc (by omega) _).grown hgrow2 (by simp; omega) (fun g hg => (HOO.lt g hg).1)
            have hX1 : w.heap.size + 1 ≤ X1.heap.size := by have := hgrow2.size; simp at this; omega
            clear hown2 hgrow2
            have hthF := thereR_keep HTH2.out BB1.out (by omega)
            obtain ⟨AA, cc, hy, hcc, _⟩ := slOfR OW1.out
            simp only [List.length_cons, List.length_nil, Nat.zero_add, Nat.reduceAdd] at hy hcc
            subst hy
            go_wp2_with (show wpList _ _ _ (⟨none, Op.store 24 _ _, _, _, _, _⟩ :: _) _ _; refine wpList_store_mid (op := ⟨none, Op.store 24 (.tmp 2) (.tmp 72), _, _, _, _⟩) rfl 24 _ _ rfl w.heap.size 0 [V zeroR.a, V zeroR.b, V zeroR.c, V zeroR.d].toArray rfl rfl hthF (by kernel_rfl) (by simp [Value.oneCell']) ?_)
            go_wp2
            refine bodyPost_ret (v := .tuple #[zeroR.v, .slice AA 1 cc]) (resultsR_slot rfl _ _ w.heap.size [V zeroR.a, V zeroR.b, V zeroR.c, V zeroR.d] _ rfl (World.rangeAt_setCells_same _ _ 0 _ hthF) Tryd.underlying24 rfl (by kernel_rfl) rfl) rfl ⟨?_, by first | exact .inr ⟨by simp, _, rfl, slOfR (e := 3) (B := w.heap.size + 1) (ownR_set OW1.out (by omega))⟩ | exact ⟨_, rfl, slOfR (e := 3) (B := w.heap.size + 1) (ownR_set OW1.out (by omega))⟩⟩
            exact setCellsR_bel (BEL2.out.trans (BB1.out.mono (by omega))) (Nat.le_refl _)
      · have p1 : ¬ (1 : Int) < (d.length : Int) := by omega
        rw [if_neg (fun h => h1 h.1)] at hF
        rw [if_neg (by omega)] at hF
        have p64 : ¬ (64 : Int) < (d.length : Int) := by omega
        have h64 : ¬ 64 < d.length := by omega
        skip
        try simp only [List.append_nil, List.nil_append, List.singleton_append, List.cons_append] at hF
        subst hF
        go_wp2_with (at_builtin; refine wpList_append_own _ rfl _ _ 25 rfl (w.heap.size + 1) 3 i0 (.int .i64 0) 1 8 Tryd.underlying25 hi hz0 hz1 hz2 rfl (by decide) _ _ _ rfl (OWN2.out.alloc _) ⟨W2.heap.size, 0, none⟩ 1 1 [.int .i64 2] rfl rfl ?q13x1 ?q13x2 ?q13x3 ?q13x4 ?q13x5 ?_)
        try (case q13x1 => intro ii u hu; rcases ii with _ | ii; (simp at hu; subst hu; simp [Addr.add, go_sem]); (simp at hu))
        try (case q13x2 => first | rfl | (intro u hu; simp at hu; subst hu; rfl))
        try (case q13x3 => first | (unfold maxLen; omega) | (simp [maxLen]))
        try (case q13x4 => omega)
        try (case q13x5 => first | omega | (simp; omega))
        intro y1 X1 hown2 hgrow2 _
        have OW1 : Hid (X1.ownsRow (w.heap.size + 1) 3 1 y1 1 (ints [2])) := by
          show World.ownsRow _ _ _ _ _ _ _
          simpa [ints] using hown2
        have BB1 : Hid (Below (w.heap.size + 1) W2 X1) := by
          have HOO := OWN2.out
          exact ((Below.refl _ W2).alloc (by omega) _).grown hgrow2 (by simp; omega) (fun g hg => (HOO.lt g hg).1)
        have hX1 : w.heap.size + 1 ≤ X1.heap.size := by have := hgrow2.size; simp at this; omega
        clear hown2 hgrow2
        have hthF := thereR_keep HTH2.out BB1.out (by omega)
        obtain ⟨AA, cc, hy, hcc, _⟩ := slOfR OW1.out
        simp only [List.length_cons, List.length_nil, Nat.zero_add, Nat.reduceAdd] at hy hcc
        subst hy
        go_wp2_with (show wpList _ _ _ (⟨none, Op.store 24 _ _, _, _, _, _⟩ :: _) _ _; refine wpList_store_mid (op := ⟨none, Op.store 24 (.tmp 2) (.tmp 72), _, _, _, _⟩) rfl 24 _ _ rfl w.heap.size 0 [V zeroR.a, V zeroR.b, V zeroR.c, V zeroR.d].toArray rfl rfl hthF (by kernel_rfl) (by simp [Value.oneCell']) ?_)
        go_wp2
        refine bodyPost_ret (v := .tuple #[zeroR.v, .slice AA 1 cc]) (resultsR_slot rfl _ _ w.heap.size [V zeroR.a, V zeroR.b, V zeroR.c, V zeroR.d] _ rfl (World.rangeAt_setCells_same _ _ 0 _ hthF) Tryd.underlying24 rfl (by kernel_rfl) rfl) rfl ⟨?_, by first | exact .inr ⟨by simp, _, rfl, slOfR (e := 3) (B := w.heap.size + 1) (ownR_set OW1.out (by omega))⟩ | exact ⟨_, rfl, slOfR (e := 3) (B := w.heap.size + 1) (ownR_set OW1.out (by omega))⟩⟩
        exact setCellsR_bel (BEL2.out.trans (BB1.out.mono (by omega))) (Nat.le_refl _)
end Go.Proofs.YtbgmeppidedfbaaDoor
