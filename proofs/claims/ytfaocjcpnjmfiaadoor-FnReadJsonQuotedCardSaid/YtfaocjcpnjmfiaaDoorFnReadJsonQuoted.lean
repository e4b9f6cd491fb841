/-
  For every text between quotation marks (of bytes that need none): UnmarshalJSON takes digits of sixteen behind 0x, or decimal ones, as the reference does (the card FnReadJsonQuotedCardSaid; the listed variables hold what the text lays into them, which the card ties).
-/
import Derived.Test.YtfaocjcpnjmfiaaDoorEql
import Derived.Test.YtfaocjcpnjmfiaaDoorBunT
import Derived.Test.YtfaocjcpnjmfiaaDoorBunS
import Derived.Test.YtfaocjcpnjmfiaaDoorImpl0
import Derived.Test.YtfaocjcpnjmfiaaDoorRows
import Derived.Test.YtfaocjcpnjmfiaaDoorTie
import Derived.Test.YtfaocjcpnjmfiaaDoorCards
import Derived.Test.YtfaocjcpnjmfiaaDoorOpen
import Derived.ProofKit
import Derived.LaidMore
import Derived.OpenShut
import Derived.OpenVars
import Derived.Stop.Joined
import Derived.SevenTiedAt
import Derived.Lib.LaidU8
import Derived.Deep.DeepCutAuto
import Derived.Deep.CutBlock
import Derived.LaidLaws
import Derived.Lib.LaidTab
import Derived.Stop.LaidErr
/-
  The reference's OfText.
-/
set_option linter.unusedVariables false
set_option linter.unusedSimpArgs false
namespace Go.Proofs.YtfaocjcpnjmfiaaDoor
open Go.RowKit
theorem faults_none (s : List UInt8) (hp : isPre s = true) : specFaults s = [] ↔ hexFault s = 0 := by
  unfold specFaults hexFault
  by_cases h1 : s = []
  · rw [h1] at hp; cases hp
  · have hpf : ¬ isPre s = false := by rw [hp]; simp
    rw [if_neg h1, if_neg h1, if_neg hpf, if_neg hpf]
    have hl := isPre_len s hp
    by_cases h3 : s.length = 2
    · rw [if_pos h3, if_pos (List.drop_eq_nil_of_le (by omega))]; simp
    · rw [if_neg h3, if_neg (fun e => h3 (by have := congrArg List.length e; simp at this; omega))]
      have e1 : (s.drop 2)[0]? = s[2]? := by rw [List.getElem?_drop]
      have e2 : (s.drop 2).length = s.length - 2 := List.length_drop
      rw [e1, e2]
      have c1 : (1 < s.length - 2 ∧ s[2]? = some 48) ↔ (3 < s.length ∧ s[2]? = some 48) := by constructor <;> rintro ⟨a, b⟩ <;> exact ⟨by omega, b⟩
      have c2 : (64 < s.length - 2) ↔ 66 < s.length := by omega
      by_cases k1 : 3 < s.length ∧ s[2]? = some 48
      · rw [if_pos (c1.2 k1), if_pos k1]; simp
      · rw [if_neg (fun h => k1 (c1.1 h)), if_neg k1]
        by_cases k2 : 66 < s.length
        · rw [if_pos (c2.2 k2), if_pos k2]; simp
        · rw [if_neg (fun h => k2 (c2.1 h)), if_neg k2]
          by_cases k3 : Nibs (s.drop 2)
          · rw [if_pos k3, if_pos k3]; simp
          · rw [if_neg k3, if_neg k3]; simp
set_option maxHeartbeats 4000000 in
set_option maxRecDepth 20000 in
theorem ofText_any (s : List UInt8) (w : World) (hmax : s.length ≤ 65536) : Calls Tryd.prog 9 #[.string ⟨s.toArray⟩] w fun e w' => Below w.heap.size w w' ∧
    ((TxtOk s ∧ e = .returned (.tuple #[(ofN (txtN s)).v, .bool true])) ∨ (¬ TxtOk s ∧ e = .returned (.tuple #[zeroR.v, .bool false]))) := by
  have hth := thereR_z w
  have IP := Lib.hid (isPrefixed_any s)
  cases hp : isPre s
  · rw [hp] at IP
    have OD := Lib.hid (ofDecimal_any s (w.alloc Z4R) hmax)
    obtain ⟨x, f, OK, HF⟩ : ∃ (x : N4) (f : Bool), Hid (Calls Tryd.prog 7 #[.string ⟨s.toArray⟩] (w.alloc Z4R) fun e w' => Below (w.alloc Z4R).heap.size (w.alloc Z4R) w' ∧ e = .returned (.tuple #[x.v, .bool f])) ∧
        Hid ((TxtOk s ∧ x = ofN (txtN s) ∧ f = true) ∨ (¬ TxtOk s ∧ x = zeroR ∧ f = false)) := by
      have e1 : TxtOk s ↔ DecOk s := by unfold TxtOk; rw [if_neg (by rw [hp]; simp)]
      have e2 : txtN s = dv (unplus s) := by unfold txtN; rw [if_neg (by rw [hp]; simp)]
      by_cases h0 : DecOk s
      · refine ⟨ofN (txtN s), true, OD.out.mono fun e w' ⟨hb, h⟩ => ⟨hb, ?_⟩, .inl ⟨e1.2 h0, rfl, rfl⟩⟩
        rcases h with ⟨_, h⟩ | ⟨h, _⟩
        · rw [e2]; exact h
        · exact absurd h0 h
      · refine ⟨zeroR, false, OD.out.mono fun e w' ⟨hb, h⟩ => ⟨hb, ?_⟩, .inr ⟨fun k => h0 (e1.1 k), rfl, rfl⟩⟩
        rcases h with ⟨h, _⟩ | ⟨_, h⟩
        · exact absurd h h0
        · exact h
    clear OD hp
    go_enter Tryd.func9, Tryd.ntmps9
    go_wp2_with (first
      | (go_at_call 21; refine (IP.out _).mono ?_; rintro e w1 ⟨rfl, hw1⟩; have hw1 := hw1.symm; subst hw1)
      | (go_at_call 7; refine OK.out.mono ?_; rintro e w2 ⟨hb2, rfl⟩; have HB2 := Lib.hid hb2; have hth2 := thereR_bel hth (by omega) hb2; clear hb2)
      | (show wpList _ _ _ (⟨none, Op.store 24 _ _, _, _, _, _⟩ :: _) _ _; refine wpList_store_mid (op := ⟨none, Op.store 24 (.tmp 2) (.tmp 19), _, _, _, _⟩) rfl 24 _ _ rfl w.heap.size 0 [V x.a, V x.b, V x.c, V x.d].toArray rfl rfl hth2 (by kernel_rfl) (by simp [Value.oneCell']) ?_))
    refine bodyPost_ret (v := .tuple #[x.v, .bool f]) (resultsR_slot rfl _ _ w.heap.size [V x.a, V x.b, V x.c, V x.d] _ rfl (World.rangeAt_setCells_same _ _ 0 _ hth2) Tryd.underlying24 rfl (by kernel_rfl) rfl) rfl ⟨?_, ?_⟩
    · exact setCellsR_bel (bel_trans (bel_alloc (bel_refl w) _) HB2.out) (Nat.le_refl _)
    · rcases HF.out with ⟨h1, rfl, rfl⟩ | ⟨h1, rfl, rfl⟩
      · exact .inl ⟨h1, rfl⟩
      · exact .inr ⟨h1, rfl⟩
  · rw [hp] at IP
    have OD := Lib.hid (ofHex_any s (w.alloc Z4R) hmax)
    have e0 := faults_none s hp
    have e1 : TxtOk s ↔ hexFault s = 0 := by unfold TxtOk; rw [if_pos hp]
    have e2 : txtN s = hv (s.drop 2) := by unfold txtN; rw [if_pos hp]
    by_cases h0 : specFaults s = []
    · have HOK : Hid (TxtOk s) := e1.2 (e0.1 h0)
      obtain ⟨x, hx⟩ : ∃ x, x = ofN (txtN s) := ⟨_, rfl⟩
      have OK : Hid (Calls Tryd.prog 22 #[.string ⟨s.toArray⟩] (w.alloc Z4R) fun e w' => Below (w.alloc Z4R).heap.size (w.alloc Z4R) w' ∧ e = .returned (.tuple #[x.v, .slice none 0 0])) := OD.out.mono fun e w' ⟨hb, h⟩ => ⟨hb, by
        rcases h with ⟨_, h⟩ | ⟨h, _⟩
        · rw [hx, e2]; exact h
        · exact absurd h0 h⟩
      have HX := Lib.hid hx
      clear OD hp e0 e1 e2 h0 hx
      go_enter Tryd.func9, Tryd.ntmps9
      go_wp2_with (first
        | (go_at_call 21; refine (IP.out _).mono ?_; rintro e w1 ⟨rfl, hw1⟩; have hw1 := hw1.symm; subst hw1)
        | (go_at_call 22; refine OK.out.mono ?_; rintro e w2 ⟨hb2, rfl⟩; have HB2 := Lib.hid hb2; have hth2 := thereR_bel (thereR_bel hth (by omega) hb2) (by omega) (bel_alloc (bel_refl _) (.cells #[V x.a, V x.b, V x.c, V x.d] 24)); clear hb2)
        | (show wpList _ _ _ (⟨none, Op.store 24 _ _, _, _, _, _⟩ :: _) _ _; refine wpList_store_mid (op := ⟨none, Op.store 24 (.tmp 2) (.tmp 13), _, _, _, _⟩) rfl 24 _ _ rfl w.heap.size 0 [V x.a, V x.b, V x.c, V x.d].toArray rfl rfl hth2 (by kernel_rfl) (by simp [Value.oneCell']) ?_))
      refine bodyPost_ret (v := .tuple #[x.v, .bool true]) (resultsR_slot rfl _ _ w.heap.size [V x.a, V x.b, V x.c, V x.d] _ rfl (World.rangeAt_setCells_same _ _ 0 _ hth2) Tryd.underlying24 rfl (by kernel_rfl) rfl) rfl ⟨?_, .inl ⟨HOK.out, by rw [HX.out]⟩⟩
      exact setCellsR_bel (bel_alloc (bel_trans (bel_alloc (bel_refl w) _) HB2.out) _) (Nat.le_refl _)
    · have HOK : Hid (¬ TxtOk s) := fun k => h0 (e0.2 (e1.1 k))
      obtain ⟨F, hFe⟩ : ∃ F, F = specFaults s := ⟨_, rfl⟩
      have BAD : Hid (Calls Tryd.prog 22 #[.string ⟨s.toArray⟩] (w.alloc Z4R) fun e w' => Below (w.alloc Z4R).heap.size (w.alloc Z4R) w' ∧ ∃ v, e = .returned (.tuple #[zeroR.v, v]) ∧ Sl w' v F) := OD.out.mono fun e w' ⟨hb, h⟩ => ⟨hb, by
        rcases h with ⟨h, _⟩ | ⟨_, h⟩
        · exact absurd h h0
        · rw [hFe]; exact h⟩
      have hne : F ≠ [] := by rw [hFe]; exact h0
      clear OD hp e0 e1 e2 h0 hFe
      obtain ⟨k, L, rfl⟩ : ∃ k L, F = k :: L := by
        match F, hne with
        | k :: L, _ => exact ⟨k, L, rfl⟩
      clear hne
      have hn0 : (((L.length : Int) + 1) == 0) = false := by simp; omega
      go_enter Tryd.func9, Tryd.ntmps9
      go_wp2_with (first
        | (go_at_call 21; refine (IP.out _).mono ?_; rintro e w1 ⟨rfl, hw1⟩; have hw1 := hw1.symm; subst hw1)
        | (go_at_call 22; refine BAD.out.mono ?_; rintro e w2 ⟨hb2, v, rfl, ⟨A, cap, rfl, hcap, hcell⟩⟩; clear hcell hcap; have HB2 := Lib.hid hb2; have hth2 := thereR_bel (thereR_bel hth (by omega) hb2) (by omega) (bel_alloc (bel_refl _) (.cells #[V zeroR.a, V zeroR.b, V zeroR.c, V zeroR.d] 24)); clear hb2)
        | (show wpList _ _ _ (⟨none, Op.store 24 _ _, _, _, _, _⟩ :: _) _ _; refine wpList_store_mid (op := ⟨none, Op.store 24 (.tmp 2) (.tmp 13), _, _, _, _⟩) rfl 24 _ _ rfl w.heap.size 0 [V zeroR.a, V zeroR.b, V zeroR.c, V zeroR.d].toArray rfl rfl hth2 (by kernel_rfl) (by simp [Value.oneCell']) ?_))
      refine bodyPost_ret (v := .tuple #[zeroR.v, .bool false]) (resultsR_slot rfl _ _ w.heap.size [V zeroR.a, V zeroR.b, V zeroR.c, V zeroR.d] _ rfl (World.rangeAt_setCells_same _ _ 0 _ hth2) Tryd.underlying24 rfl (by kernel_rfl) rfl) rfl ⟨?_, .inr ⟨HOK.out, rfl⟩⟩
      exact setCellsR_bel (bel_alloc (bel_trans (bel_alloc (bel_refl w) _) HB2.out) _) (Nat.le_refl _)
end Go.Proofs.YtfaocjcpnjmfiaaDoor
/-
  uint256's UnmarshalJSON, the thin package's ReadJson.
-/
set_option linter.unusedVariables false
set_option linter.unusedSimpArgs false
namespace Go.Proofs.YtfaocjcpnjmfiaaDoor
open Go.RowKit
/-- A text between quotation marks, the marks taken off. -/
theorem slb_mid {w : World} {g o n cap : Nat} {m : List UInt8} (h : SlB w (.slice (some ⟨g, o, none⟩) n cap) (34 :: (m ++ [34]))) : SlB w (.slice (some ⟨g, o + 1, none⟩) m.length (cap - 1)) m := by
  obtain ⟨A, c, e, hc, hcell⟩ := h
  injection e with e1 e2 e3
  subst e1 e2 e3
  refine ⟨_, _, rfl, by simp at hc; omega, fun i b hb => ⟨_, _, rfl, ?_⟩⟩
  have hi := (List.getElem?_eq_some_iff.1 hb).1
  obtain ⟨g', o', e', k⟩ := hcell (i + 1) b (by rw [List.getElem?_cons_succ, List.getElem?_append_left hi]; exact hb)
  injection e' with e'
  injection e' with e1 e2
  subst e1 e2
  rw [show o + 1 + i = o + (i + 1) by omega]
  exact k
theorem run_mid (w : World) (g o n cap k : Nat) (hn : n = k + 2) (hc : n ≤ cap) : (Instr.slice 45 (.slice (some ⟨g, o, none⟩) n cap) (some (.int .i64 1)) (some (.int .i64 ((n : Int) - 1))) none).run Tryd.prog w = .ok (.slice (some ⟨g, o + 1, none⟩) k (cap - 1)) w := by
  rw [run_slice_lh (P := Tryd.prog) w 45 (some ⟨g, o, none⟩) n cap (by kernel_rfl) .i64 .i64 1 ((n : Int) - 1) (by omega) (by omega) (by omega)]
  have hs : (sizeOf (Tryd.prog.elem 45)).run Tryd.prog w = .ok 1 w := by kernel_rfl
  rw [hs]
  have e1 : ((n : Int) - 1).toNat = k + 1 := by omega
  have e2 : (1 : Int).toNat = 1 := rfl
  simp only [Result.andThen, e1, e2]
  unfold sliced
  have e3 : ¬ cap = 1 := by omega
  simp [e3, Addr.add]
set_option maxHeartbeats 4000000 in
set_option maxRecDepth 20000 in
theorem unmJson_quoted (a ah : Nat → Addr) (b : Nat) (z : N4) (m : List UInt8) (v : Value) (w : World) (hz : At4 w b 0 z) (fz : Free4 w b 0) (hs : SlB w v (34 :: (m ++ [34]))) (hm : m.length ≤ 70000) (hE : DecE a b w) (hH : HexE ah w) (hbg : 7 < b) :
    Calls Tryd.prog 25 #[.pointer (some ⟨b, 0, none⟩), v] w (RetTx (TxtOk m) (txtN m) b w) := by
  obtain ⟨g, o, n, cap, rfl, hn, hc, hs⟩ : ∃ g o n cap, v = .slice (some ⟨g, o, none⟩) n cap ∧ n = m.length + 2 ∧ n ≤ cap ∧ SlB w (.slice (some ⟨g, o, none⟩) n cap) (34 :: (m ++ [34])) := by
    have h2 := hs
    obtain ⟨A, cap, rfl, hc, hcell⟩ := hs
    obtain ⟨g, o, rfl, _⟩ := hcell 0 34 rfl
    exact ⟨g, o, _, cap, rfl, by simp, hc, h2⟩
  have k0 : w.cell? ⟨g, o, none⟩ = some (.int .u8 34) := by
    obtain ⟨g', o', e, k⟩ := SlB.first hs (b := 34) rfl
    injection e with e
    injection e with e1 e2
    subst e1 e2
    exact k
  have k1 : w.cell? ⟨g, o + (n - 1), none⟩ = some (.int .u8 34) := by
    obtain ⟨A', cap', e, hc', hcell⟩ := hs
    injection e with e1 e2 e3
    subst e1
    obtain ⟨g', o', e', k⟩ := hcell (m.length + 1) 34 (by rw [List.getElem?_cons_succ, List.getElem?_append_right (Nat.le_refl _), Nat.sub_self]; rfl)
    injection e' with e'
    injection e' with e1 e2
    subst e1 e2
    rw [show n - 1 = m.length + 1 by omega]
    exact k
  have hsl := fun w => run_mid w g o n cap m.length hn hc
  have UT := Lib.hid (unmText_any a ah b z m _ w hz fz (slb_mid hs) hE hH hbg)
  have hn2 : (2 : Int) ≤ (n : Int) := by omega
  have hn3 : (n : Int) ≤ 70002 := by omega
  clear hz fz hs hE hH hbg hn hc hm
  go_enter Tryd.func25, Tryd.ntmps25
  go_wp2_with (go_at_call 23; refine UT.out.mono ?_; rintro e w1 ⟨v, rfl, hb, h⟩; have HP := Lib.hid (And.intro hb h); clear hb h)
  go_ret
  exact ⟨v, rfl, HP.out.1, HP.out.2⟩
set_option maxHeartbeats 4000000 in
set_option maxRecDepth 20000 in
theorem unmJson_plain (a : Nat → Addr) (b : Nat) (z : N4) (l : List UInt8) (v : Value) (w : World) (hz : At4 w b 0 z) (fz : Free4 w b 0) (hs : SlB w v l) (h34 : l[0]? ≠ some 34) (hl : l.length ≤ 70000) (hE : DecE a b w) :
    Calls Tryd.prog 25 #[.pointer (some ⟨b, 0, none⟩), v] w (RetTx (DecOk l) (dv (unplus l)) b w) := by
  have SD := Lib.hid ((setFromDecimal_any a b z l w hz fz hE).mono fun e w' h => h.tx)
  have hcv := conv_slb hs
  obtain ⟨A, cap, rfl, hc, hcell⟩ := hs
  by_cases h2 : l.length < 2
  · have h2i : (l.length : Int) < 2 := by omega
    clear hz fz hE hcell h34 h2 hc hl
    go_enter Tryd.func25, Tryd.ntmps25
    go_wp2_with (go_at_call 31; refine SD.out.mono ?_; rintro e w1 ⟨v, rfl, hb, h⟩; have HP := Lib.hid (And.intro hb h); clear hb h)
    go_ret
    exact ⟨v, rfl, HP.out.1, HP.out.2⟩
  · obtain ⟨c, hc0⟩ : ∃ c, l[0]? = some c := ⟨_, List.getElem?_eq_getElem (by omega)⟩
    obtain ⟨g, o, rfl, k0⟩ := hcell 0 c hc0
    simp only [Nat.add_zero] at k0
    have c34 : ((c.toNat : Int) != 34) = true := by
      have : c.toNat ≠ 34 := fun e => h34 (by rw [hc0]; congr 1; exact UInt8.toNat.inj e)
      simp; omega
    have h2i : ¬ (l.length : Int) < 2 := by omega
    have hl0 : (0 : Int) < (l.length : Int) := by omega
    clear hz fz hE hcell h34 h2 hc hl hc0
    go_enter Tryd.func25, Tryd.ntmps25
    go_wp2_with (go_at_call 31; refine SD.out.mono ?_; rintro e w1 ⟨v, rfl, hb, h⟩; have HP := Lib.hid (And.intro hb h); clear hb h)
    go_ret
    exact ⟨v, rfl, HP.out.1, HP.out.2⟩
set_option maxHeartbeats 2000000 in
theorem readJson_wrap (ok : Prop) (n : Nat) (s : List UInt8) (w : World)
    (UJ : ∀ v w1, SlB w1 v s → At4 w1 (w.heap.size + 1) 0 ⟨0#64, 0#64, 0#64, 0#64⟩ → Free4 w1 (w.heap.size + 1) 0 → Below w.heap.size w w1 → Calls Tryd.prog 25 #[.pointer (some ⟨w.heap.size + 1, 0, none⟩), v] w1 (RetTx ok n (w.heap.size + 1) w1)) :
    Calls Tryd.prog 11 #[.string ⟨s.toArray⟩] w fun e w' => Below w.heap.size w w' ∧ ((ok ∧ e = .returned (.tuple #[(ofN n).v, .bool true])) ∨ (¬ ok ∧ e = .returned (.tuple #[zeroR.v, .bool false]))) := by
  have hth := thereR_z w
  obtain ⟨v, w1, hcv, hs, hb1⟩ := conv_str ((w.alloc Z4R).alloc Z4I) s
  have hz := (z4_at (w.alloc Z4R)).bel hb1
  have hsz : (w.alloc Z4R).heap.size = w.heap.size + 1 := by simp
  rw [hsz] at hz
  have fz := (z4_free (w.alloc Z4R)).bel (by simp) hb1
  rw [hsz] at fz
  have bel1 : Below w.heap.size w w1 := bel_trans (bel_alloc (bel_alloc (bel_refl w) _) _) hb1
  have hth1 : w1.there w.heap.size 0 4 := thereR_bel (thereR_bel hth (by omega) (bel_alloc (bel_refl _) _)) (by omega) hb1
  have hlt : w.heap.size + 2 ≤ w1.heap.size := by have := hb1.size; simp at this; omega
  have UT := UJ v w1 hs hz fz bel1
  have BEL1 := Lib.hid bel1
  have hbB : ∀ w2, But [w.heap.size + 1] w1 w2 → Below w.heap.size w w2 := fun w2 h => h.bel bel1 (fun x hx => by simp at hx; omega)
  have hthB : ∀ w2, But [w.heap.size + 1] w1 w2 → w2.there w.heap.size 0 4 := fun w2 h j hj => by
    have k := hth1 j hj
    have hb : w2.heap[w.heap.size]? = w1.heap[w.heap.size]? := h.block _ (by omega) (by simp)
    unfold World.cell? World.frozen? at *
    simp only at k ⊢
    rw [hb]
    exact k
  have HBB := Lib.hid hbB
  have HTB := Lib.hid hthB
  clear hz fz hs UJ bel1 hth1 hb1 hbB hthB hsz hth
  by_cases h0 : ok
  · have UT2 := Lib.hid (UT.mono fun e w' h => h.yes h0)
    have HOK := Lib.hid h0
    obtain ⟨x, hx⟩ : ∃ x, x = ofN n := ⟨_, rfl⟩
    rw [← hx] at UT2
    have HX := Lib.hid hx
    clear UT h0 hx
    go_enter Tryd.func11, Tryd.ntmps11
    go_wp2_with fail
    refine UT2.out.mono ?_
    rintro e w2 ⟨rfl, hbut, h4⟩
    have HB2 := Lib.hid (HBB.out w2 hbut)
    have hth2 := HTB.out w2 hbut
    have H4 := Lib.hid h4
    clear hbut h4
    go_wp2_with fail
    refine (checkedR_ok _ 0 x _ H4.out).mono ?_
    rintro e w3 ⟨rfl, hb3⟩
    have hth3 := thereR_bel hth2 (by omega) hb3
    have HB3 := Lib.hid (bel_trans HB2.out hb3)
    clear hb3
    go_wp2_with (show wpList _ _ _ (⟨none, Op.store 24 _ _, _, _, _, _⟩ :: _) _ _; refine wpList_store_mid (op := ⟨none, Op.store 24 (.tmp 2) (.tmp 14), _, _, _, _⟩) rfl 24 _ _ rfl w.heap.size 0 [V x.a, V x.b, V x.c, V x.d].toArray rfl rfl hth3 (by kernel_rfl) (by simp [Value.oneCell']) ?_)
    refine bodyPost_ret (v := .tuple #[x.v, .bool true]) (resultsR_slot rfl _ _ w.heap.size [V x.a, V x.b, V x.c, V x.d] _ rfl (World.rangeAt_setCells_same _ _ 0 _ hth3) Tryd.underlying24 rfl (by kernel_rfl) rfl) rfl ⟨?_, .inl ⟨HOK.out, by rw [HX.out]⟩⟩
    exact setCellsR_bel HB3.out (Nat.le_refl _)
  · have UT2 := Lib.hid (UT.mono fun e w' h => h.no h0)
    have HOK := Lib.hid h0
    clear UT h0
    go_enter Tryd.func11, Tryd.ntmps11
    go_wp2_with fail
    refine UT2.out.mono ?_
    rintro e w2 ⟨hbut, t, u, rfl⟩
    have HB2 := Lib.hid (HBB.out w2 hbut)
    have hth2 := HTB.out w2 hbut
    clear hbut
    go_wp2_with fail
    refine (checkedR_bad _ t u _).mono ?_
    rintro e w3 ⟨rfl, hb3⟩
    have hth3 := thereR_bel hth2 (by omega) hb3
    have HB3 := Lib.hid (bel_trans HB2.out hb3)
    clear hb3
    go_wp2_with (show wpList _ _ _ (⟨none, Op.store 24 _ _, _, _, _, _⟩ :: _) _ _; refine wpList_store_mid (op := ⟨none, Op.store 24 (.tmp 2) (.tmp 14), _, _, _, _⟩) rfl 24 _ _ rfl w.heap.size 0 [V zeroR.a, V zeroR.b, V zeroR.c, V zeroR.d].toArray rfl rfl hth3 (by kernel_rfl) (by simp [Value.oneCell']) ?_)
    refine bodyPost_ret (v := .tuple #[zeroR.v, .bool false]) (resultsR_slot rfl _ _ w.heap.size [V zeroR.a, V zeroR.b, V zeroR.c, V zeroR.d] _ rfl (World.rangeAt_setCells_same _ _ 0 _ hth3) Tryd.underlying24 rfl (by kernel_rfl) rfl) rfl ⟨?_, .inr ⟨HOK.out, rfl⟩⟩
    exact setCellsR_bel HB3.out (Nat.le_refl _)
theorem implReadJson_quoted (a ah : Nat → Addr) (m : List UInt8) (w : World) (hE : TxtW a ah w) (hm : m.length ≤ 70000) :
    Calls Tryd.prog 11 #[.string ⟨(34 :: (m ++ [34])).toArray⟩] w fun e w' => Below w.heap.size w w' ∧ ((TxtOk m ∧ e = .returned (.tuple #[(ofN (txtN m)).v, .bool true])) ∨ (¬ TxtOk m ∧ e = .returned (.tuple #[zeroR.v, .bool false]))) :=
  readJson_wrap _ _ _ w fun v w1 hs hz fz hb => unmJson_quoted a ah _ _ m v w1 hz fz hs hm (hE.decE hb _ (by omega)) (hE.hex.bel hb) (by have := hE.lt; omega)
theorem implReadJson_plain (a : Nat → Addr) (s : List UInt8) (w : World) (hE : DecW a w) (h34 : s[0]? ≠ some 34) (hl : s.length ≤ 70000) :
    Calls Tryd.prog 11 #[.string ⟨s.toArray⟩] w fun e w' => Below w.heap.size w w' ∧ ((DecOk s ∧ e = .returned (.tuple #[(ofN (dv (unplus s))).v, .bool true])) ∨ (¬ DecOk s ∧ e = .returned (.tuple #[zeroR.v, .bool false]))) :=
  readJson_wrap _ _ _ w fun v w1 hs hz fz hb => unmJson_plain a _ _ s v w1 hz fz hs h34 hl (hE.away hb _ (by omega))
end Go.Proofs.YtfaocjcpnjmfiaaDoor
/-
  The laws' isBare: it ends, with a bool.
-/
set_option linter.unusedVariables false
set_option linter.unusedSimpArgs false
namespace Go.Proofs.YtfaocjcpnjmfiaaDoor
open Go.RowKit
def loopsIB : Code → List Code
  | .loop c => [c]
  | .seq a b => loopsIB a ++ loopsIB b
  | .block _ c => loopsIB c
  | .scope c => loopsIB c
  | .cond _ a b => loopsIB a ++ loopsIB b
  | _ => []
noncomputable def ibBody : Code := ((Tryd.f14.body.map loopsIB).getD []).headD .skip
set_option maxHeartbeats 4000000 in
set_option maxRecDepth 20000 in
theorem ib_round (s : List UInt8) (i : Nat) (w : World) (Q : Exit → Act → World → Prop) (c1 v4 v5 v6 v7 v8 v9 v10 v11 v12 v13 v14 v15 v16 v17 v18 v19 v20 v21 v22 v23 v24 v25 v26 v27 v28 v29 v30 v31 : Value) (hi : i ≤ s.length) (hmax : s.length ≤ 70000)
    (HN : Hid (∀ (I : Int) (u4 u5 u6 u7 u8 u9 u10 u11 u12 u13 u14 u15 u16 u17 u18 u19 u20 u21 u22 u23 u24 u25 u26 u27 u28 u29 u30 u31 : Value), i < s.length → I = ((i + 1 : Nat) : Int) → Q .normal ⟨List.toArray (.string ⟨s.toArray⟩ :: c1 :: .bool false :: .int .i64 I :: u4 :: u5 :: u6 :: u7 :: u8 :: u9 :: u10 :: u11 :: u12 :: u13 :: u14 :: u15 :: u16 :: u17 :: u18 :: u19 :: u20 :: u21 :: u22 :: u23 :: u24 :: u25 :: u26 :: u27 :: u28 :: u29 :: u30 :: u31 :: []), []⟩ w))
    (HB : Hid (∀ (I : Int) (u4 u5 u6 u7 u8 u9 u10 u11 u12 u13 u14 u15 u16 u17 u18 u19 u20 u21 u22 u23 u24 u25 u26 u27 u28 u29 u30 u31 : Value), Q .ret ⟨List.toArray (.string ⟨s.toArray⟩ :: c1 :: .bool false :: .int .i64 I :: u4 :: u5 :: u6 :: u7 :: u8 :: u9 :: u10 :: u11 :: u12 :: u13 :: u14 :: u15 :: u16 :: u17 :: u18 :: u19 :: u20 :: u21 :: u22 :: u23 :: u24 :: u25 :: u26 :: u27 :: u28 :: u29 :: u30 :: u31 :: []), []⟩ w))
    (HX : Hid (∀ (I : Int) (u4 u5 u6 u7 u8 u9 u10 u11 u12 u13 u14 u15 u16 u17 u18 u19 u20 u21 u22 u23 u24 u25 u26 u27 u28 u29 u30 u31 : Value), Q (.exit 0) ⟨List.toArray (.string ⟨s.toArray⟩ :: c1 :: .bool false :: .int .i64 I :: u4 :: u5 :: u6 :: u7 :: u8 :: u9 :: u10 :: u11 :: u12 :: u13 :: u14 :: u15 :: u16 :: u17 :: u18 :: u19 :: u20 :: u21 :: u22 :: u23 :: u24 :: u25 :: u26 :: u27 :: u28 :: u29 :: u30 :: u31 :: []), []⟩ w)) :
    Code.wp Tryd.prog ibBody Q ⟨List.toArray (.string ⟨s.toArray⟩ :: c1 :: .bool false :: .int .i64 (i : Int) :: v4 :: v5 :: v6 :: v7 :: v8 :: v9 :: v10 :: v11 :: v12 :: v13 :: v14 :: v15 :: v16 :: v17 :: v18 :: v19 :: v20 :: v21 :: v22 :: v23 :: v24 :: v25 :: v26 :: v27 :: v28 :: v29 :: v30 :: v31 :: []), []⟩ w := by
  rcases Nat.eq_or_lt_of_le hi with h0 | h0
  · have hni : ¬ (i : Int) < (s.length : Int) := by omega
    clear hi h0
    conv => arg 2; whnf
    go_wp2
    exact HX.out _ _ _ _ _ _ _ _ _ _ _ _ _ _ _ _ _ _ _ _ _ _ _ _ _ _ _ _ _
  · obtain ⟨c, hc⟩ : ∃ c, s[i]? = some c := ⟨_, List.getElem?_eq_getElem h0⟩
    have hgd : ∀ h, (⟨s.toArray⟩ : ByteArray)[i]'h = c := by
      intro h
      show (s.toArray[i]'h) = c
      rw [List.getElem_toArray]
      exact (List.getElem?_eq_some_iff.1 hc).2
    have hil : (i : Int) < (s.length : Int) := by omega
    have HLT := Lib.hid h0
    clear hc hi h0
    by_cases k1 : (c.toNat : Int) < 32
    · conv => arg 2; whnf
      go_wp2
      exact HB.out _ _ _ _ _ _ _ _ _ _ _ _ _ _ _ _ _ _ _ _ _ _ _ _ _ _ _ _ _
    · by_cases k2 : (126 : Int) < (c.toNat : Int)
      · conv => arg 2; whnf
        go_wp2
        exact HB.out _ _ _ _ _ _ _ _ _ _ _ _ _ _ _ _ _ _ _ _ _ _ _ _ _ _ _ _ _
      · cases k3 : ((c.toNat : Int) == 34)
        · cases k4 : ((c.toNat : Int) == 92)
          · conv => arg 2; whnf
            go_wp2
            exact HN.out _ _ _ _ _ _ _ _ _ _ _ _ _ _ _ _ _ _ _ _ _ _ _ _ _ _ _ _ _ HLT.out (by omega)
          · conv => arg 2; whnf
            go_wp2
            exact HB.out _ _ _ _ _ _ _ _ _ _ _ _ _ _ _ _ _ _ _ _ _ _ _ _ _ _ _ _ _
        · conv => arg 2; whnf
          go_wp2
          exact HB.out _ _ _ _ _ _ _ _ _ _ _ _ _ _ _ _ _ _ _ _ _ _ _ _ _ _ _ _ _
def IbI (s : List UInt8) (w : World) (c1 : Value) (a : Act) (W : World) : Prop :=
  ∃ (u4 u5 u6 u7 u8 u9 u10 u11 u12 u13 u14 u15 u16 u17 u18 u19 u20 u21 u22 u23 u24 u25 u26 u27 u28 u29 u30 u31 : Value), ∃ (i : Nat) (I : Int), I = (i : Int) ∧ i ≤ s.length ∧ W = w ∧ a = ⟨List.toArray (.string ⟨s.toArray⟩ :: c1 :: .bool false :: .int .i64 I :: u4 :: u5 :: u6 :: u7 :: u8 :: u9 :: u10 :: u11 :: u12 :: u13 :: u14 :: u15 :: u16 :: u17 :: u18 :: u19 :: u20 :: u21 :: u22 :: u23 :: u24 :: u25 :: u26 :: u27 :: u28 :: u29 :: u30 :: u31 :: []), []⟩
def muIb (n : Nat) (a : Act) (_ : World) : Nat := ((n : Int) - RowKit.intOf (a.tmps[3]?.getD undef)).toNat
set_option maxHeartbeats 4000000 in
set_option maxRecDepth 20000 in
theorem ib_loop (s : List UInt8) (I : Int) (w : World) (Q : Exit → Act → World → Prop) (c1 v4 v5 v6 v7 v8 v9 v10 v11 v12 v13 v14 v15 v16 v17 v18 v19 v20 v21 v22 v23 v24 v25 v26 v27 v28 v29 v30 v31 : Value) (hI : I = 0) (hmax : s.length ≤ 70000)
    (HB : Hid (∀ (I : Int) (u4 u5 u6 u7 u8 u9 u10 u11 u12 u13 u14 u15 u16 u17 u18 u19 u20 u21 u22 u23 u24 u25 u26 u27 u28 u29 u30 u31 : Value), Q .ret ⟨List.toArray (.string ⟨s.toArray⟩ :: c1 :: .bool false :: .int .i64 I :: u4 :: u5 :: u6 :: u7 :: u8 :: u9 :: u10 :: u11 :: u12 :: u13 :: u14 :: u15 :: u16 :: u17 :: u18 :: u19 :: u20 :: u21 :: u22 :: u23 :: u24 :: u25 :: u26 :: u27 :: u28 :: u29 :: u30 :: u31 :: []), []⟩ w))
    (HX : Hid (∀ (I : Int) (u4 u5 u6 u7 u8 u9 u10 u11 u12 u13 u14 u15 u16 u17 u18 u19 u20 u21 u22 u23 u24 u25 u26 u27 u28 u29 u30 u31 : Value), Q (.exit 0) ⟨List.toArray (.string ⟨s.toArray⟩ :: c1 :: .bool false :: .int .i64 I :: u4 :: u5 :: u6 :: u7 :: u8 :: u9 :: u10 :: u11 :: u12 :: u13 :: u14 :: u15 :: u16 :: u17 :: u18 :: u19 :: u20 :: u21 :: u22 :: u23 :: u24 :: u25 :: u26 :: u27 :: u28 :: u29 :: u30 :: u31 :: []), []⟩ w)) :
    Code.wp Tryd.prog (.loop ibBody) Q ⟨List.toArray (.string ⟨s.toArray⟩ :: c1 :: .bool false :: .int .i64 I :: v4 :: v5 :: v6 :: v7 :: v8 :: v9 :: v10 :: v11 :: v12 :: v13 :: v14 :: v15 :: v16 :: v17 :: v18 :: v19 :: v20 :: v21 :: v22 :: v23 :: v24 :: v25 :: v26 :: v27 :: v28 :: v29 :: v30 :: v31 :: []), []⟩ w := by
  refine wp_loop (IbI s w c1) (muIb s.length) ?_ ?_
  · exact ⟨v4, v5, v6, v7, v8, v9, v10, v11, v12, v13, v14, v15, v16, v17, v18, v19, v20, v21, v22, v23, v24, v25, v26, v27, v28, v29, v30, v31, 0, I, hI, Nat.zero_le _, rfl, rfl⟩
  · intro A W1 hI
    obtain ⟨u4, hI⟩ := hI
    obtain ⟨u5, hI⟩ := hI
    obtain ⟨u6, hI⟩ := hI
    obtain ⟨u7, hI⟩ := hI
    obtain ⟨u8, hI⟩ := hI
    obtain ⟨u9, hI⟩ := hI
    obtain ⟨u10, hI⟩ := hI
    obtain ⟨u11, hI⟩ := hI
    obtain ⟨u12, hI⟩ := hI
    obtain ⟨u13, hI⟩ := hI
    obtain ⟨u14, hI⟩ := hI
    obtain ⟨u15, hI⟩ := hI
    obtain ⟨u16, hI⟩ := hI
    obtain ⟨u17, hI⟩ := hI
    obtain ⟨u18, hI⟩ := hI
    obtain ⟨u19, hI⟩ := hI
    obtain ⟨u20, hI⟩ := hI
    obtain ⟨u21, hI⟩ := hI
    obtain ⟨u22, hI⟩ := hI
    obtain ⟨u23, hI⟩ := hI
    obtain ⟨u24, hI⟩ := hI
    obtain ⟨u25, hI⟩ := hI
    obtain ⟨u26, hI⟩ := hI
    obtain ⟨u27, hI⟩ := hI
    obtain ⟨u28, hI⟩ := hI
    obtain ⟨u29, hI⟩ := hI
    obtain ⟨u30, hI⟩ := hI
    obtain ⟨u31, hI⟩ := hI
    obtain ⟨i, I, rfl, hi, rfl, rfl⟩ := hI
    refine ib_round s i W1 _ c1 _ _ _ _ _ _ _ _ _ _ _ _ _ _ _ _ _ _ _ _ _ _ _ _ _ _ _ _ hi hmax ?_ HB HX
    show ∀ _, _
    intro I2 u4 u5 u6 u7 u8 u9 u10 u11 u12 u13 u14 u15 u16 u17 u18 u19 u20 u21 u22 u23 u24 u25 u26 u27 u28 u29 u30 u31 hlt hI2
    refine ⟨⟨u4, u5, u6, u7, u8, u9, u10, u11, u12, u13, u14, u15, u16, u17, u18, u19, u20, u21, u22, u23, u24, u25, u26, u27, u28, u29, u30, u31, i + 1, I2, hI2, by omega, rfl, rfl⟩, ?_⟩
    show ((s.length : Int) - RowKit.intOf (.int .i64 I2)).toNat < ((s.length : Int) - RowKit.intOf (.int .i64 (i : Int))).toNat
    simp only [RowKit.intOf]
    omega
set_option maxHeartbeats 4000000 in
set_option maxRecDepth 20000 in
theorem isBare_any (s : List UInt8) (w : World) (hmax : s.length ≤ 70000) : Calls Tryd.prog 14 #[.string ⟨s.toArray⟩] w fun e w' => ∃ f : Bool, e = .returned (.bool f) ∧ w' = w := by
  go_enter Tryd.func14, Tryd.ntmps14
  go_wp2_with fail
  refine ib_loop s 0 w _ _ _ _ _ _ _ _ _ _ _ _ _ _ _ _ _ _ _ _ _ _ _ _ _ _ _ _ _ _ rfl hmax ?_ ?_
  · show ∀ _, _
    intro I u4 u5 u6 u7 u8 u9 u10 u11 u12 u13 u14 u15 u16 u17 u18 u19 u20 u21 u22 u23 u24 u25 u26 u27 u28 u29 u30 u31
    go_wp2
    go_ret
    exact ⟨_, rfl, rfl⟩
  · show ∀ _, _
    intro I u4 u5 u6 u7 u8 u9 u10 u11 u12 u13 u14 u15 u16 u17 u18 u19 u20 u21 u22 u23 u24 u25 u26 u27 u28 u29 u30 u31
    go_wp2
    go_ret
    exact ⟨_, rfl, rfl⟩
end Go.Proofs.YtfaocjcpnjmfiaaDoor
/-
  What the decimal readers ask of the memory, off the row's own list of variables: the errors are there, the multipliers are powers of ten.
-/
set_option linter.unusedVariables false
set_option linter.unusedSimpArgs false
namespace Go.Proofs.YtfaocjcpnjmfiaaDoor
open Go.RowKit Go.Lib
theorem errCell {w : World} {n nm : String} {d : DataW Unit} {g : Nat} (h : VarReads Tryd.prog w n (.iface nm d)) (hg : Tryd.prog.globalNamed n = some g) (ht : (Tryd.prog.globals[g]?).map (·.type) = some 36) : ∃ t u, w.cell? ⟨g, 0, none⟩ = some (.iface t u) := by
  obtain ⟨g', t, cs, fuel, p, hg', hty, hvar, hd⟩ := h
  obtain rfl := Option.some.inj (hg.symm.trans hg')
  obtain rfl := Option.some.inj (ht.symm.trans hty)
  obtain ⟨_, u, v, hcs, _, _⟩ := iface_of_trod Tryd.underlying36 hd
  refine ⟨u, v, ?_⟩
  rw [World.var?_cell hg hvar 0, ← Array.getElem?_toList, hcs]
  rfl
theorem nilPtr {P : Program} {w : World} {fuel : Nat} {t e : TypeId} {cs : List Value} {p : List MemPlace} (ht : P.underlying t = some (.pointer e))
    (h : DataW.trod (fun _ => ()) P w 0 (fun _ => true) false fuel t cs = some (.nil, p)) : cs = [.pointer none] := by
  cases fuel with
  | zero => simp [DataW.trod] at h
  | succ fuel =>
    match cs with
    | [] => simp [DataW.trod, ht] at h
    | _ :: _ :: _ => simp [DataW.trod, ht] at h
    | [c] =>
      cases c <;> simp [DataW.trod, ht] at h
      rename_i o
      cases o with
      | none => rfl
      | some a =>
        simp only [Option.bind_eq_some_iff, Function.comp, Option.map_eq_some_iff, Prod.mk.injEq] at h
        obtain ⟨_, _, _, _, h, _⟩ := h
        cases h
/-- The words of a multiplier. -/
def mulW (j : Nat) : List Int := (List.range 4).map fun i => ((10 ^ (19 * j) / 2 ^ (64 * i) % 2 ^ 64 : Nat) : Int)
theorem mul_datum : (Rows.laid_loop_example_pub_g03023_pub_uint256_multipliers : DataW Unit) = .agg [.nil, .ptr (tabData .u64 (mulW 1)), .ptr (tabData .u64 (mulW 2)), .ptr (tabData .u64 (mulW 3)), .ptr (tabData .u64 (mulW 4))] := by kernel_rfl
theorem cells4 {w : World} {a : Addr} {l : List Value} (h : w.cells? 0 a 4 = some l) (hl : l.length = 4) : a.spot = none ∧ ∀ i, i < 4 → w.cell? ⟨a.block, a.off + i, none⟩ = l[i]? := by
  unfold World.cells? at h
  rw [if_pos (Nat.zero_le _)] at h
  have h4 : (List.range 4) = [0, 1, 2, 3] := rfl
  rw [h4] at h
  simp only [List.mapM_cons, List.mapM_nil, Option.pure_def, Option.bind_eq_bind, Option.bind_eq_some_iff] at h
  obtain ⟨c0, e0, t1, ⟨c1, e1, t2, ⟨c2, e2, t3, ⟨c3, e3, t4, h5, h6⟩, h7⟩, h8⟩, h9⟩ := h
  simp at h5 h6 h7 h8 h9
  subst h5 h6 h7 h8 h9
  have hs : a.spot = none := by
    rw [show a.add 0 = a from rfl] at e0
    unfold World.cell? at e0
    split at e0
    · rcases hsp : a.spot with _ | x
      · rfl
      · rw [hsp] at e0; simp at e0
    · cases e0
  refine ⟨hs, fun i hi => ?_⟩
  obtain ⟨ab, ao, asp⟩ := a
  simp only at hs
  subst hs
  match i, hi with
  | 0, _ => exact e0
  | 1, _ => exact e1
  | 2, _ => exact e2
  | 3, _ => exact e3
theorem mul_of {w : World} (h : VarReads Tryd.prog w "loop.example/pub-g03023/pub/uint256.multipliers" Rows.laid_loop_example_pub_g03023_pub_uint256_multipliers) : ∃ a, MulT a w := by
  obtain ⟨g, t, cs, fuel, p, hg, hty, hvar, hd⟩ := h
  obtain rfl := Option.some.inj ((show Tryd.prog.globalNamed "loop.example/pub-g03023/pub/uint256.multipliers" = some 3 by kernel_rfl).symm.trans hg)
  obtain rfl := Option.some.inj ((show (Tryd.prog.globals[3]?).map (·.type) = some 58 by kernel_rfl).symm.trans hty)
  rw [mul_datum] at hd
  have cell1 : Tryd.prog.cellsOf 34 = 1 := by kernel_rfl
  have cell4 : Tryd.prog.cellsOf 43 = 4 := by kernel_rfl
  have one : ∀ j, 1 ≤ j → j ≤ 4 → ∃ a : Addr, w.cell? ⟨3, j, none⟩ = some (.pointer (some ⟨a.block, a.off, none⟩)) ∧ At4 w a.block a.off (ofN (10 ^ (19 * j))) := fun j h1 h2 => by
    obtain ⟨fuel', d, q, hdi, he⟩ := array_elem (t := 58) (e := 34) (n := 5) (by kernel_rfl) hd j (by omega)
    have hdj : d = .ptr (tabData .u64 (mulW j)) := by
      rcases (by omega : j = 1 ∨ j = 2 ∨ j = 3 ∨ j = 4) with rfl | rfl | rfl | rfl <;> simpa using hdi.symm
    subst hdj
    rw [cell1, Nat.mul_one] at he
    obtain ⟨fuel2, a, cs', q2, hcs, hc4, he2, _⟩ := ptr_of_trod Tryd.underlying34 he
    rw [cell4] at hc4
    have hw := cells_of_tab (t := 43) (e := 22) (n := 4) (k := .u64) (by kernel_rfl) (by kernel_rfl) (by kernel_rfl) (by kernel_rfl) he2
    obtain ⟨hsp, hcell⟩ := cells4 hc4 (by rw [hw]; simp [mulW])
    obtain ⟨ab, ao, asp⟩ := a
    simp only at hsp hcell
    subst hsp
    refine ⟨⟨ab, ao, none⟩, ?_, ?_⟩
    · have e0 := congrArg (·[0]?) hcs
      simp only [List.getElem?_take, List.getElem?_drop, Nat.zero_lt_one, if_true, Nat.add_zero] at e0
      rw [World.var?_cell hg hvar j, ← Array.getElem?_toList, e0]
      rfl
    · rw [hw] at hcell
      have k0 := hcell 0 (by omega)
      have k1 := hcell 1 (by omega)
      have k2 := hcell 2 (by omega)
      have k3 := hcell 3 (by omega)
      simp only [mulW, List.getElem?_map, List.getElem?_range (show (0 : Nat) < 4 by omega), List.getElem?_range (show (1 : Nat) < 4 by omega), List.getElem?_range (show (2 : Nat) < 4 by omega), List.getElem?_range (show (3 : Nat) < 4 by omega), Option.map_some] at k0 k1 k2 k3
      obtain ⟨P, hP⟩ : ∃ P, P = 10 ^ (19 * j) := ⟨_, rfl⟩
      rw [← hP] at k0 k1 k2 k3 ⊢
      have wd : ∀ n : Nat, V (BitVec.ofNat 64 n) = .int .u64 ((n % 2 ^ 64 : Nat) : Int) := fun n => by
        show Value.int .u64 (U (BitVec.ofNat 64 n)) = _
        unfold U
        rw [BitVec.toNat_ofNat]
      refine ⟨?_, ?_, ?_, ?_⟩
      · rw [show (ofN P).a = BitVec.ofNat 64 P from rfl, wd]
        simpa using k0
      · rw [show (ofN P).b = BitVec.ofNat 64 (P / 2 ^ 64) from rfl, wd]
        simpa using k1
      · rw [show (ofN P).c = BitVec.ofNat 64 (P / 2 ^ 128) from rfl, wd]
        simpa using k2
      · rw [show (ofN P).d = BitVec.ofNat 64 (P / 2 ^ 192) from rfl, wd]
        simpa using k3
  have c0 : w.cell? ⟨3, 0, none⟩ = some (.pointer none) := by
    obtain ⟨fuel', d, q, hdi, he⟩ := array_elem (t := 58) (e := 34) (n := 5) (by kernel_rfl) hd 0 (by omega)
    have hdj : d = .nil := by simpa using hdi.symm
    subst hdj
    rw [cell1, Nat.mul_one] at he
    have hn : (cs.toList.drop 0).take 1 = [.pointer none] := nilPtr Tryd.underlying34 he
    have e0 := congrArg (·[0]?) hn
    simp only [List.getElem?_take, List.getElem?_drop, Nat.zero_lt_one, if_true, Nat.add_zero] at e0
    rw [World.var?_cell hg hvar 0, ← Array.getElem?_toList, e0]
    rfl
  obtain ⟨a1, p1, q1⟩ := one 1 (by omega) (by omega)
  obtain ⟨a2, p2, q2⟩ := one 2 (by omega) (by omega)
  obtain ⟨a3, p3, q3⟩ := one 3 (by omega) (by omega)
  obtain ⟨a4, p4, q4⟩ := one 4 (by omega) (by omega)
  refine ⟨fun j => if j = 1 then a1 else if j = 2 then a2 else if j = 3 then a3 else a4, c0, fun j h1 h2 => ?_, fun j h1 h2 => ?_⟩
  · rcases (by omega : j = 1 ∨ j = 2 ∨ j = 3 ∨ j = 4) with rfl | rfl | rfl | rfl
    · exact p1
    · exact p2
    · exact p3
    · exact p4
  · rcases (by omega : j = 1 ∨ j = 2 ∨ j = 3 ∨ j = 4) with rfl | rfl | rfl | rfl
    · exact q1
    · exact q2
    · exact q3
    · exact q4
theorem decW_of {w : World} (h1 : VarReads Tryd.prog w "strconv.ErrSyntax" Rows.laid_strconv_ErrSyntax) (h2 : VarReads Tryd.prog w "io.EOF" Rows.laid_io_EOF) (h3 : VarReads Tryd.prog w "loop.example/pub-g03023/pub/uint256.ErrBig256Range" Rows.laid_loop_example_pub_g03023_pub_uint256_ErrBig256Range) (h4 : VarReads Tryd.prog w "loop.example/pub-g03023/pub/uint256.multipliers" Rows.laid_loop_example_pub_g03023_pub_uint256_multipliers) : ∃ a, DecW a w := by
  obtain ⟨a, hm⟩ := mul_of h4
  exact ⟨a, errCell h1 (by kernel_rfl) (by kernel_rfl), hm, errCell h2 (by kernel_rfl) (by kernel_rfl), errCell h3 (by kernel_rfl) (by kernel_rfl)⟩
end Go.Proofs.YtfaocjcpnjmfiaaDoor
/-
  The six sentinels, off the row's own list of variables.
-/
set_option linter.unusedVariables false
set_option linter.unusedSimpArgs false
namespace Go.Proofs.YtfaocjcpnjmfiaaDoor
open Go.RowKit Go.ChangeShapes
theorem cellsErrT : Tryd.prog.cellsOf 80 = 1 := by kernel_rfl
theorem cellsStrT : Tryd.prog.cellsOf 9 = 1 := by kernel_rfl
theorem starT : "*" ++ "errors.errorString" = "*errors.errorString" := by decide
theorem rowErrT (u : TypeId) (h : Tryd.prog.typeName? 3 u = some "*errors.errorString") : u = 78 :=
  typeName_ptr_named (nm := "errors.errorString") (by rw [starT]; kernel_rfl) (by kernel_rfl) (by decide) u (by rw [starT]; exact h)
theorem sentinel_at {n : String} {text : List UInt8} {r : List (String × DataW Unit)} {W : World} {g : Nat} (h : laidMet Tryd.prog ((n, .iface "*errors.errorString" (.ptr (.agg [.lit (.string text)]))) :: r) W) (hg : Tryd.prog.globalNamed n = some g) (ht : (Tryd.prog.globals[g]?).map (·.type) = some 36) :
    ∃ a, W.cell? ⟨g, 0, none⟩ = some (.iface 78 (.pointer (some a))) := by
  obtain ⟨a, s, hv, _⟩ := laid_sentinel h hg ht Tryd.underlying36 rowErrT Tryd.underlying78 Tryd.underlying80 rfl rfl Tryd.underlying9 cellsErrT cellsStrT
  exact ⟨a, by simpa using World.var?_cell hg hv 0⟩
theorem hexE_of {r : List (String × DataW Unit)} {W : World} (h : laidMet Tryd.prog (("loop.example/pub-g03023/pub/uint256.ErrEmptyString", Rows.laid_loop_example_pub_g03023_pub_uint256_ErrEmptyString) :: ("loop.example/pub-g03023/pub/uint256.ErrSyntax", Rows.laid_loop_example_pub_g03023_pub_uint256_ErrSyntax) :: ("loop.example/pub-g03023/pub/uint256.ErrMissingPrefix", Rows.laid_loop_example_pub_g03023_pub_uint256_ErrMissingPrefix) :: ("loop.example/pub-g03023/pub/uint256.ErrEmptyNumber", Rows.laid_loop_example_pub_g03023_pub_uint256_ErrEmptyNumber) :: ("loop.example/pub-g03023/pub/uint256.ErrLeadingZero", Rows.laid_loop_example_pub_g03023_pub_uint256_ErrLeadingZero) :: ("loop.example/pub-g03023/pub/uint256.ErrBig256Range", Rows.laid_loop_example_pub_g03023_pub_uint256_ErrBig256Range) :: r) W) :
    ∃ a, HexE a W := by
  obtain ⟨a1, k1⟩ := sentinel_at h (g := 4) (by kernel_rfl) (by kernel_rfl)
  obtain ⟨a2, k2⟩ := sentinel_at h.tail (g := 1) (by kernel_rfl) (by kernel_rfl)
  obtain ⟨a3, k3⟩ := sentinel_at h.tail.tail (g := 5) (by kernel_rfl) (by kernel_rfl)
  obtain ⟨a4, k4⟩ := sentinel_at h.tail.tail.tail (g := 6) (by kernel_rfl) (by kernel_rfl)
  obtain ⟨a5, k5⟩ := sentinel_at h.tail.tail.tail.tail (g := 7) (by kernel_rfl) (by kernel_rfl)
  obtain ⟨a6, k6⟩ := sentinel_at h.tail.tail.tail.tail.tail (g := 0) (by kernel_rfl) (by kernel_rfl)
  exact ⟨fun i => if i = 1 then a1 else if i = 2 then a2 else if i = 3 then a3 else if i = 4 then a4 else if i = 5 then a5 else a6, k1, k2, k3, k4, k5, k6⟩
end Go.Proofs.YtfaocjcpnjmfiaaDoor
namespace Go.Proofs.YtfaocjcpnjmfiaaDoor.fnReadJsonQuoted
open Go.ChangeShapes Go.WideShapes Go.ChangeAt Go.RowKit Go.Lib
set_option linter.unusedVariables false
set_option linter.unusedSimpArgs false

theorem cat_marks (l : List UInt8) : ((⟨#[34]⟩ : ByteArray) ++ ⟨l.toArray⟩) ++ ⟨#[34]⟩ = ⟨(34 :: (l ++ [34])).toArray⟩ := by
  apply ByteArray.ext
  rw [ByteArray.data_append, ByteArray.data_append]
  simp
set_option maxRecDepth 20000 in
set_option maxHeartbeats 4000000 in
theorem walk (B : ByteArray) (w : World) (a ah : Nat → Addr) (hT : TxtW a ah w) : Calls Tryd.prog 6 #[.string B] w (RetBel (.bool true) w) := by
  obtain ⟨s, rfl⟩ : ∃ s : List UInt8, B = ⟨s.toArray⟩ := ⟨B.data.toList, by cases B; simp⟩
  by_cases c1 : 2147483647 < s.length
  · have c1' : (2147483647 : Int) < (s.length : Int) := by omega
    go_enter Tryd.func6, Tryd.ntmps6
    go_wp2
    go_ret
    exact retBel rfl (bel_refl w)
  have c1' : ¬ (2147483647 : Int) < (s.length : Int) := by omega
  by_cases c2 : 65536 < s.length
  · have c2' : (65536 : Int) < (s.length : Int) := by omega
    go_enter Tryd.func6, Tryd.ntmps6
    go_wp2
    go_ret
    exact retBel rfl (bel_refl w)
  have c2' : ¬ (65536 : Int) < (s.length : Int) := by omega
  have OH := Lib.hid (ofText_any s w (by omega))
  obtain ⟨x, f, OK, FH⟩ : ∃ (x : N4) (f : Bool), Hid (Calls Tryd.prog 9 #[.string ⟨s.toArray⟩] w fun e w' => Below w.heap.size w w' ∧ e = .returned (.tuple #[x.v, .bool f])) ∧
      Hid (∀ w2, Below w.heap.size w w2 → Calls Tryd.prog 11 #[.string ⟨(34 :: (s ++ [34])).toArray⟩] w2 fun e w' => e = .returned (.tuple #[x.v, .bool f]) ∧ Below w2.heap.size w2 w') := by
    by_cases h0 : TxtOk s
    · refine ⟨ofN (txtN s), true, OH.out.mono fun e w' ⟨hb, h⟩ => ⟨hb, ?_⟩, fun w2 hb => ?_⟩
      · rcases h with ⟨_, h⟩ | ⟨h, _⟩
        · exact h
        · exact absurd h0 h
      · exact (implReadJson_quoted a ah s w2 (hT.bel hb) (by omega)).mono fun e w' ⟨hb, h⟩ => ⟨by
          rcases h with ⟨_, h⟩ | ⟨h, _⟩
          · exact h
          · exact absurd h0 h, hb⟩
    · refine ⟨zeroR, false, OH.out.mono fun e w' ⟨hb, h⟩ => ⟨hb, ?_⟩, fun w2 hb => ?_⟩
      · rcases h with ⟨h, _⟩ | ⟨_, h⟩
        · exact absurd h h0
        · exact h
      · exact (implReadJson_quoted a ah s w2 (hT.bel hb) (by omega)).mono fun e w' ⟨hb, h⟩ => ⟨by
          rcases h with ⟨h, _⟩ | ⟨_, h⟩
          · exact absurd h h0
          · exact h, hb⟩
  have ex := eqb_self x
  have ef : (f == f) = true := by cases f <;> rfl
  have hcat := cat_marks s
  have IB := Lib.hid (isBare_any s w (by omega))
  have hlen : s.length ≤ 65536 := by omega
  obtain ⟨T, hTT⟩ : ∃ T : ByteArray, T = ⟨(34 :: (s ++ [34])).toArray⟩ := ⟨_, rfl⟩
  rw [← hTT] at hcat FH
  clear OH c1 c2 hT hTT
  go_enter Tryd.func6, Tryd.ntmps6
  go_wp2_with fail
  refine IB.out.mono ?_
  rintro e w1 ⟨fb, rfl, hw1⟩
  have hw1 := hw1.symm
  subst hw1
  cases fb
  · go_wp2
    go_ret
    exact retBel rfl (bel_refl w)
  · go_wp2_with fail
    refine OK.out.mono ?_
    rintro e w1 ⟨hb1, rfl⟩
    have HB1 := Lib.hid hb1
    clear hb1
    go_wp2_with fail
    refine (FH.out _ (bel_alloc HB1.out _)).mono ?_
    rintro e w2 ⟨rfl, hb2⟩
    have A4 : At4 (w1.alloc (.cells #[V x.a, V x.b, V x.c, V x.d] 24)) w1.heap.size 0 x := by constructor <;> simp [go_sem]
    obtain ⟨q0, q1, q2, q3⟩ := A4.bel hb2
    simp only [Nat.zero_add] at q1 q2 q3
    have hlt : w1.heap.size < w2.heap.size := by have := hb2.size; simp at this; omega
    have HB2 := Lib.hid (bel_trans (bel_alloc HB1.out (.cells #[V x.a, V x.b, V x.c, V x.d] 24)) hb2)
    clear hb2 A4
    go_wp2
    go_ret
    exact retBel rfl (bel_alloc HB2.out _)

theorem trodVars_len {H : Type} {enc : TypeId × Value → H} {P : Program} {W : World} {sp : Nat → Bool} : ∀ {ns : List String} {gs : List (DataW H)} {ps : List MemPlace}, DataW.TrodVars enc P W sp ns gs ps → gs.length = ns.length
  | [], [], _, _ => rfl
  | [], _ :: _, _, h => h.elim
  | _ :: _, [], _, h => h.elim
  | _ :: _, _ :: _, _, h => by
    obtain ⟨g, t, cs, fuel, p, q, h1, h2, h3, h4, hs, e⟩ := h
    simp [trodVars_len hs]
theorem own : ownKnob Tryd.prog.godebug = none := by kernel_rfl
theorem laidOut : laidOutB Tryd.prog = true := by kernel_rfl
theorem door_met (os : Os) (args : Array Value) : laidMetH Tryd.prog Rows.fnReadJsonQuotedRow.laid ((World.doorLaid Tryd.prog 400 os).forCall (fun _ _ => 0) ⟨#[], args, []⟩).memory :=
  laidMetH_of_parts3 (fuel := 8) (laidMet_of_run' 8 (by kernel_rfl) (by kernel_rfl)) (by kernel_rfl) (by kernel_rfl)
set_option maxRecDepth 100000 in
theorem lifted (os : Os) (started : os.Started) (H : Type) (enc : TypeId × Value → H) :
    ReturnsInHanded {} Tryd.checked os 6 .any (fun w args => (Rows.fnReadJsonQuotedSpec.pre enc Tryd.prog Tryd.f6 [] false w args ∧ laidMetH Tryd.prog Rows.fnReadJsonQuotedRow.laid w) ∧ sizedMet enc Tryd.prog Tryd.f6 (OpenSpec.ofChange Rows.fnReadJsonQuotedSpec) false w args)
      (Rows.fnReadJsonQuotedSpec.post enc Tryd.prog Tryd.f6 false true false false) := by
  refine returnsInHanded_of_change_and (C := Tryd.checked) (X := fun w _ => laidMetH Tryd.prog Rows.fnReadJsonQuotedRow.laid w) (fun _ _ _ hh h => h.of_heap hh) own started (by kernel_rfl) Tryd.func6
    (ChangeSpec.witness_shaped (enc := enc) (C := Tryd.checked) (os := os) (X := fun w _ => laidMetH Tryd.prog Rows.fnReadJsonQuotedRow.laid w) false (World.doorLaid Tryd.prog 400 os) #[.string ByteArray.empty] 8 rfl (World.shaped_of_RefB (by kernel_rfl) (by kernel_rfl)) (by kernel_rfl) (by kernel_rfl) (by kernel_rfl) (door_met os _)) ?_
  intro W base args ds gs before hval0 hW _ _ hL _
  have hval : ∀ (j : Nat) t v, Tryd.f6.params[j]? = some t → args[j]? = some v → Value.okWide Tryd.prog W .any base t v := hval0
  have hW' := hW
  obtain ⟨p, q, hA0, hV, rfl, hfz, hnd⟩ := hW
  have hA : DataW.TrodAll enc Tryd.prog W 0 (fun _ => true) true Tryd.f6.params.toList args.toList ds p := hA0
  rw [Tryd.params6] at hA hval
  obtain ⟨v0, vs0, d0, ds0, p0, q0, hargs, rfl, rfl, h0, r0⟩ := trodAll_cons hA
  obtain ⟨rfl, rfl, rfl⟩ := trodAll_nil r0
  obtain rfl : args = #[v0] := by cases args; simp_all
  have k0 := h0
  have lt0 : ∀ x ∈ p0, x.block < W.heap.size := by obtain ⟨m, hm⟩ := k0; exact DataW.trod_lt m _ _ _ hm
  obtain ⟨x0, rfl⟩ := okWide_string Tryd.underlying9 (hval 0 9 v0 rfl rfl)
  have hlen := trodVars_len hV
  obtain ⟨z0, z1, z2, z3, z4, z5, z6, rfl⟩ : ∃ z0 z1 z2 z3 z4 z5 z6, gs = [z0, z1, z2, z3, z4, z5, z6] := by
    match gs, hlen with
    | [z0, z1, z2, z3, z4, z5, z6], _ => exact ⟨z0, z1, z2, z3, z4, z5, z6, rfl⟩
  clear hA0 hval0
  have hL2 : laidMet Tryd.prog Rows.fnReadJsonQuotedRow.laid W := by rw [← MakeChecks.laidMetH_plain _ _ _ (by kernel_rfl)]; exact hL
  obtain ⟨a, hD⟩ := decW_of (Go.Lib.laidMet.reads hL2 (List.mem_cons_of_mem _ (List.mem_cons_of_mem _ (List.mem_cons_of_mem _ (List.mem_cons_of_mem _ (List.mem_cons_self)))))) (Go.Lib.laidMet.reads hL2 (List.mem_cons_of_mem _ (List.mem_cons_of_mem _ (List.mem_cons_of_mem _ (List.mem_cons_of_mem _ (List.mem_cons_of_mem _ (List.mem_cons_self))))))) (Go.Lib.laidMet.reads hL2 (List.mem_cons_of_mem _ (List.mem_cons_of_mem _ (List.mem_cons_of_mem _ (List.mem_cons_of_mem _ (List.mem_cons_of_mem _ (List.mem_cons_of_mem _ (List.mem_cons_of_mem _ (List.mem_cons_of_mem _ (List.mem_cons_of_mem _ (List.mem_cons_of_mem _ (List.mem_cons_of_mem _ (List.mem_cons_self))))))))))))) (Go.Lib.laidMet.reads hL2 (List.mem_cons_of_mem _ (List.mem_cons_of_mem _ (List.mem_cons_of_mem _ (List.mem_cons_of_mem _ (List.mem_cons_of_mem _ (List.mem_cons_of_mem _ (List.mem_cons_of_mem _ (List.mem_cons_of_mem _ (List.mem_cons_of_mem _ (List.mem_cons_of_mem _ (List.mem_cons_of_mem _ (List.mem_cons_of_mem _ (List.mem_cons_self))))))))))))))
  have hL3 := hL2
  unfold Rows.fnReadJsonQuotedRow at hL3
  obtain ⟨ah, hX⟩ := hexE_of hL3.tail.tail.tail.tail.tail.tail
  refine (walk x0 W a ah ⟨hD, hX⟩).mono fun e W' ⟨he, bel⟩ => ?_
  subst he
  exact ⟨_, rfl, _, _, _, [], _, _, hW', trodAll_mk1 (shut_bool Tryd.underlying4 _), (trodAll_cons_mk (Below.trod laidOut (by kernel_rfl) (of_decide_eq_true (by kernel_rfl)) k0 bel lt0) trodAll_mk0), Below.trodVars laidOut bel (by kernel_rfl) hV, bel.frame _, fun h => by cases h⟩
theorem row_holds : Rows.FnReadJsonQuotedSaid :=
  OpenClaim.holds_of_wide 6 Tryd.f6 rfl rfl rfl rfl rfl rfl rfl ⟨rfl, rfl, rfl, rfl, rfl⟩ rfl rfl rfl rfl rfl (by kernel_rfl) Tryd.func6 (by kernel_rfl)
    (of_decide_eq_true (by kernel_rfl)) (by unfold Func.isWrapper; first | (rw [if_pos (by decide +kernel)]; kernel_rfl) | (rw [if_neg (by decide +kernel)]; exact ⟨rfl, rfl⟩))
    (fun os started H enc _ => lifted os started H enc)
theorem holds : Rows.FnReadJsonQuotedCardSaid :=
  Claim7.holds_tied_plain_at .later [] _ true _ true
    row_holds (fun _ h => by cases h) (by kernel_rfl) (fun _ h => by cases h) fnReadJsonQuoted_row_tie rfl ⟨rfl, rfl⟩ (by kernel_rfl) rfl
    (fun f fn hf hfn => by
      obtain rfl : f = 6 := Option.some.inj ((show Tryd.prog.funcNamed "loop.example/pub-g03023/laws.FnReadJsonQuoted" = some 6 by kernel_rfl).symm.trans hf) |>.symm
      obtain rfl : fn = Tryd.f6 := (Option.some.inj (Tryd.func6.symm.trans hfn)).symm
      exact ⟨by kernel_rfl, fun j t ht => by
        rw [Tryd.params6] at ht
        have hm : t ∈ [9] := by simpa using Array.mem_of_getElem? ht
        have hall : ([9].all fun u => !Tryd.prog.wantsStandIn u) = true := by kernel_rfl
        exact (show Tryd.prog.wantsStandIn t = false by simpa using List.all_eq_true.1 hall t hm)⟩)
    (by kernel_rfl)
#print axioms holds
end Go.Proofs.YtfaocjcpnjmfiaaDoor.fnReadJsonQuoted
