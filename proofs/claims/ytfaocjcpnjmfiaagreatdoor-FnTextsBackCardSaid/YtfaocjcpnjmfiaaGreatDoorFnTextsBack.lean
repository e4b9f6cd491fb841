/-
  For every number: what is written as a text is read back: Dec, Hex, MarshalText, MarshalJSON (the card FnTextsBackCardSaid; the listed variables hold what the text lays into them, which the card ties).
-/
import Derived.Test.YtfaocjcpnjmfiaaGreatDoorHexNew
import Derived.Test.YtfaocjcpnjmfiaaGreatDoorBunX
import Derived.Test.YtfaocjcpnjmfiaaGreatDoorP10Of
import Derived.Test.YtfaocjcpnjmfiaaGreatDoorEql
import Derived.Test.YtfaocjcpnjmfiaaGreatDoorBunT
import Derived.Test.YtfaocjcpnjmfiaaGreatDoorBunH
import Derived.Test.YtfaocjcpnjmfiaaGreatDoorHexMath
import Derived.Test.YtfaocjcpnjmfiaaGreatDoorRows
import Derived.Test.YtfaocjcpnjmfiaaGreatDoorTie
import Derived.Test.YtfaocjcpnjmfiaaGreatDoorCards
import Derived.Test.YtfaocjcpnjmfiaaGreatDoorOpen
import Derived.ProofKit
import Derived.LaidMore
import Derived.OpenShut
import Derived.OpenVars
import Derived.Stop.Joined
import Derived.SevenTiedAt
import Derived.Lib.LaidU8
import Derived.Lib.ItoaNum
import Derived.LaidLaws
import Derived.Lib.LaidTab
import Derived.Stop.LaidErr
/-
  uint256's UnmarshalJSON, the thin package's ReadJson.
-/
set_option linter.unusedVariables false
set_option linter.unusedSimpArgs false
namespace Go.Proofs.YtfaocjcpnjmfiaaGreatDoor
open Go.RowKit
/-- A text between quotation marks, the marks taken off. -/
theorem slb_mid {w : World} {g o n cap : Nat} {m : List UInt8} (h : SlB w (.slice (some ⟨g, o, none⟩) n cap) (34 :: (m ++ [34]))) : SlB w (.slice (some ⟨g, o + 1, none⟩) m.length (cap - 1)) m := by
  obtain ⟨A, c, e, hc, hcell⟩ := h
  injection e with e1 e2 e3
  subst e1 e2 e3
  refine ⟨_, _, rfl, by simp at hc; omega, fun i b hb => ⟨_, _, rfl, ?_⟩⟩
  have hi := (List.getElem?_eq_some_iff.1 hb).1
  obtain ⟨g', o', e', k⟩ := hcell (i + 1) b (by rw [List.getElem?_cons_succ, List.getElem?_append_left hi]; exact hb)
  injection e' with e'
  injection e' with e1 e2
  subst e1 e2
  rw [show o + 1 + i = o + (i + 1) by omega]
  exact k
theorem run_mid (w : World) (g o n cap k : Nat) (hn : n = k + 2) (hc : n ≤ cap) : (Instr.slice 43 (.slice (some ⟨g, o, none⟩) n cap) (some (.int .i64 1)) (some (.int .i64 ((n : Int) - 1))) none).run Tryz.prog w = .ok (.slice (some ⟨g, o + 1, none⟩) k (cap - 1)) w := by
  rw [run_slice_lh (P := Tryz.prog) w 43 (some ⟨g, o, none⟩) n cap (by kernel_rfl) .i64 .i64 1 ((n : Int) - 1) (by omega) (by omega) (by omega)]
  have hs : (sizeOf (Tryz.prog.elem 43)).run Tryz.prog w = .ok 1 w := by kernel_rfl
  rw [hs]
  have e1 : ((n : Int) - 1).toNat = k + 1 := by omega
  have e2 : (1 : Int).toNat = 1 := rfl
  simp only [Result.andThen, e1, e2]
  unfold sliced
  have e3 : ¬ cap = 1 := by omega
  simp [e3, Addr.add]
set_option maxHeartbeats 4000000 in
set_option maxRecDepth 20000 in
theorem unmJson_quoted (a ah : Nat → Addr) (b : Nat) (z : N4) (m : List UInt8) (v : Value) (w : World) (hz : At4 w b 0 z) (fz : Free4 w b 0) (hs : SlB w v (34 :: (m ++ [34]))) (hm : m.length ≤ 70000) (hE : DecE a b w) (hH : HexE ah w) (hbg : 5 < b) :
    Calls Tryz.prog 22 #[.pointer (some ⟨b, 0, none⟩), v] w (RetTx (TxtOk m) (txtN m) b w) := by
  obtain ⟨g, o, n, cap, rfl, hn, hc, hs⟩ : ∃ g o n cap, v = .slice (some ⟨g, o, none⟩) n cap ∧ n = m.length + 2 ∧ n ≤ cap ∧ SlB w (.slice (some ⟨g, o, none⟩) n cap) (34 :: (m ++ [34])) := by
    have h2 := hs
    obtain ⟨A, cap, rfl, hc, hcell⟩ := hs
    obtain ⟨g, o, rfl, _⟩ := hcell 0 34 rfl
    exact ⟨g, o, _, cap, rfl, by simp, hc, h2⟩
  have k0 : w.cell? ⟨g, o, none⟩ = some (.int .u8 34) := by
    obtain ⟨g', o', e, k⟩ := SlB.first hs (b := 34) rfl
    injection e with e
    injection e with e1 e2
    subst e1 e2
    exact k
  have k1 : w.cell? ⟨g, o + (n - 1), none⟩ = some (.int .u8 34) := by
    obtain ⟨A', cap', e, hc', hcell⟩ := hs
    injection e with e1 e2 e3
    subst e1
    obtain ⟨g', o', e', k⟩ := hcell (m.length + 1) 34 (by rw [List.getElem?_cons_succ, List.getElem?_append_right (Nat.le_refl _), Nat.sub_self]; rfl)
    injection e' with e'
    injection e' with e1 e2
    subst e1 e2
    rw [show n - 1 = m.length + 1 by omega]
    exact k
  have hsl := fun w => run_mid w g o n cap m.length hn hc
  have UT := Lib.hid (unmText_any a ah b z m _ w hz fz (slb_mid hs) hE hH hbg)
  have hn2 : (2 : Int) ≤ (n : Int) := by omega
  have hn3 : (n : Int) ≤ 70002 := by omega
  clear hz fz hs hE hH hbg hn hc hm
  go_enter Tryz.func22, Tryz.ntmps22
  go_wp2_with (go_at_call 19; refine UT.out.mono ?_; rintro e w1 ⟨v, rfl, hb, h⟩; have HP := Lib.hid (And.intro hb h); clear hb h)
  go_ret
  exact ⟨v, rfl, HP.out.1, HP.out.2⟩
set_option maxHeartbeats 4000000 in
set_option maxRecDepth 20000 in
theorem unmJson_plain (a : Nat → Addr) (b : Nat) (z : N4) (l : List UInt8) (v : Value) (w : World) (hz : At4 w b 0 z) (fz : Free4 w b 0) (hs : SlB w v l) (h34 : l[0]? ≠ some 34) (hl : l.length ≤ 70000) (hE : DecE a b w) :
    Calls Tryz.prog 22 #[.pointer (some ⟨b, 0, none⟩), v] w (RetTx (DecOk l) (dv (unplus l)) b w) := by
  have SD := Lib.hid ((setFromDecimal_any a b z l w hz fz hE).mono fun e w' h => h.tx)
  have hcv := conv_slb hs
  obtain ⟨A, cap, rfl, hc, hcell⟩ := hs
  by_cases h2 : l.length < 2
  · have h2i : (l.length : Int) < 2 := by omega
    clear hz fz hE hcell h34 h2 hc hl
    go_enter Tryz.func22, Tryz.ntmps22
    go_wp2_with (go_at_call 24; refine SD.out.mono ?_; rintro e w1 ⟨v, rfl, hb, h⟩; have HP := Lib.hid (And.intro hb h); clear hb h)
    go_ret
    exact ⟨v, rfl, HP.out.1, HP.out.2⟩
  · obtain ⟨c, hc0⟩ : ∃ c, l[0]? = some c := ⟨_, List.getElem?_eq_getElem (by omega)⟩
    obtain ⟨g, o, rfl, k0⟩ := hcell 0 c hc0
    simp only [Nat.add_zero] at k0
    have c34 : ((c.toNat : Int) != 34) = true := by
      have : c.toNat ≠ 34 := fun e => h34 (by rw [hc0]; congr 1; exact UInt8.toNat.inj e)
      simp; omega
    have h2i : ¬ (l.length : Int) < 2 := by omega
    have hl0 : (0 : Int) < (l.length : Int) := by omega
    clear hz fz hE hcell h34 h2 hc hl hc0
    go_enter Tryz.func22, Tryz.ntmps22
    go_wp2_with (go_at_call 24; refine SD.out.mono ?_; rintro e w1 ⟨v, rfl, hb, h⟩; have HP := Lib.hid (And.intro hb h); clear hb h)
    go_ret
    exact ⟨v, rfl, HP.out.1, HP.out.2⟩
set_option maxHeartbeats 2000000 in
theorem readJson_wrap (ok : Prop) (n : Nat) (s : List UInt8) (w : World)
    (UJ : ∀ v w1, SlB w1 v s → At4 w1 (w.heap.size + 1) 0 ⟨0#64, 0#64, 0#64, 0#64⟩ → Free4 w1 (w.heap.size + 1) 0 → Below w.heap.size w w1 → Calls Tryz.prog 22 #[.pointer (some ⟨w.heap.size + 1, 0, none⟩), v] w1 (RetTx ok n (w.heap.size + 1) w1)) :
    Calls Tryz.prog 10 #[.string ⟨s.toArray⟩] w fun e w' => Below w.heap.size w w' ∧ ((ok ∧ e = .returned (.tuple #[(ofN n).v, .bool true])) ∨ (¬ ok ∧ e = .returned (.tuple #[zeroR.v, .bool false]))) := by
  have hth := thereR_z w
  obtain ⟨v, w1, hcv, hs, hb1⟩ := conv_str ((w.alloc Z4R).alloc Z4I) s
  have hz := (z4_at (w.alloc Z4R)).bel hb1
  have hsz : (w.alloc Z4R).heap.size = w.heap.size + 1 := by simp
  rw [hsz] at hz
  have fz := (z4_free (w.alloc Z4R)).bel (by simp) hb1
  rw [hsz] at fz
  have bel1 : Below w.heap.size w w1 := bel_trans (bel_alloc (bel_alloc (bel_refl w) _) _) hb1
  have hth1 : w1.there w.heap.size 0 4 := thereR_bel (thereR_bel hth (by omega) (bel_alloc (bel_refl _) _)) (by omega) hb1
  have hlt : w.heap.size + 2 ≤ w1.heap.size := by have := hb1.size; simp at this; omega
  have UT := UJ v w1 hs hz fz bel1
  have BEL1 := Lib.hid bel1
  have hbB : ∀ w2, But [w.heap.size + 1] w1 w2 → Below w.heap.size w w2 := fun w2 h => h.bel bel1 (fun x hx => by simp at hx; omega)
  have hthB : ∀ w2, But [w.heap.size + 1] w1 w2 → w2.there w.heap.size 0 4 := fun w2 h j hj => by
    have k := hth1 j hj
    have hb : w2.heap[w.heap.size]? = w1.heap[w.heap.size]? := h.block _ (by omega) (by simp)
    unfold World.cell? World.frozen? at *
    simp only at k ⊢
    rw [hb]
    exact k
  have HBB := Lib.hid hbB
  have HTB := Lib.hid hthB
  clear hz fz hs UJ bel1 hth1 hb1 hbB hthB hsz hth
  by_cases h0 : ok
  · have UT2 := Lib.hid (UT.mono fun e w' h => h.yes h0)
    have HOK := Lib.hid h0
    obtain ⟨x, hx⟩ : ∃ x, x = ofN n := ⟨_, rfl⟩
    rw [← hx] at UT2
    have HX := Lib.hid hx
    clear UT h0 hx
    go_enter Tryz.func10, Tryz.ntmps10
    go_wp2_with fail
    refine UT2.out.mono ?_
    rintro e w2 ⟨rfl, hbut, h4⟩
    have HB2 := Lib.hid (HBB.out w2 hbut)
    have hth2 := HTB.out w2 hbut
    have H4 := Lib.hid h4
    clear hbut h4
    go_wp2_with fail
    refine (checkedR_ok _ 0 x _ H4.out).mono ?_
    rintro e w3 ⟨rfl, hb3⟩
    have hth3 := thereR_bel hth2 (by omega) hb3
    have HB3 := Lib.hid (bel_trans HB2.out hb3)
    clear hb3
    go_wp2_with (show wpList _ _ _ (⟨none, Op.store 24 _ _, _, _, _, _⟩ :: _) _ _; refine wpList_store_mid (op := ⟨none, Op.store 24 (.tmp 2) (.tmp 14), _, _, _, _⟩) rfl 24 _ _ rfl w.heap.size 0 [V x.a, V x.b, V x.c, V x.d].toArray rfl rfl hth3 (by kernel_rfl) (by simp [Value.oneCell']) ?_)
    refine bodyPost_ret (v := .tuple #[x.v, .bool true]) (resultsR_slot rfl _ _ w.heap.size [V x.a, V x.b, V x.c, V x.d] _ rfl (World.rangeAt_setCells_same _ _ 0 _ hth3) Tryz.underlying24 rfl (by kernel_rfl) rfl) rfl ⟨?_, .inl ⟨HOK.out, by rw [HX.out]⟩⟩
    exact setCellsR_bel HB3.out (Nat.le_refl _)
  · have UT2 := Lib.hid (UT.mono fun e w' h => h.no h0)
    have HOK := Lib.hid h0
    clear UT h0
    go_enter Tryz.func10, Tryz.ntmps10
    go_wp2_with fail
    refine UT2.out.mono ?_
    rintro e w2 ⟨hbut, t, u, rfl⟩
    have HB2 := Lib.hid (HBB.out w2 hbut)
    have hth2 := HTB.out w2 hbut
    clear hbut
    go_wp2_with fail
    refine (checkedR_bad _ t u _).mono ?_
    rintro e w3 ⟨rfl, hb3⟩
    have hth3 := thereR_bel hth2 (by omega) hb3
    have HB3 := Lib.hid (bel_trans HB2.out hb3)
    clear hb3
    go_wp2_with (show wpList _ _ _ (⟨none, Op.store 24 _ _, _, _, _, _⟩ :: _) _ _; refine wpList_store_mid (op := ⟨none, Op.store 24 (.tmp 2) (.tmp 14), _, _, _, _⟩) rfl 24 _ _ rfl w.heap.size 0 [V zeroR.a, V zeroR.b, V zeroR.c, V zeroR.d].toArray rfl rfl hth3 (by kernel_rfl) (by simp [Value.oneCell']) ?_)
    refine bodyPost_ret (v := .tuple #[zeroR.v, .bool false]) (resultsR_slot rfl _ _ w.heap.size [V zeroR.a, V zeroR.b, V zeroR.c, V zeroR.d] _ rfl (World.rangeAt_setCells_same _ _ 0 _ hth3) Tryz.underlying24 rfl (by kernel_rfl) rfl) rfl ⟨?_, .inr ⟨HOK.out, rfl⟩⟩
    exact setCellsR_bel HB3.out (Nat.le_refl _)
theorem implReadJson_quoted (a ah : Nat → Addr) (m : List UInt8) (w : World) (hE : TxtW a ah w) (hm : m.length ≤ 70000) :
    Calls Tryz.prog 10 #[.string ⟨(34 :: (m ++ [34])).toArray⟩] w fun e w' => Below w.heap.size w w' ∧ ((TxtOk m ∧ e = .returned (.tuple #[(ofN (txtN m)).v, .bool true])) ∨ (¬ TxtOk m ∧ e = .returned (.tuple #[zeroR.v, .bool false]))) :=
  readJson_wrap _ _ _ w fun v w1 hs hz fz hb => unmJson_quoted a ah _ _ m v w1 hz fz hs hm (hE.decE hb _ (by omega)) (hE.hex.bel hb) (by have := hE.lt; omega)
theorem implReadJson_plain (a : Nat → Addr) (s : List UInt8) (w : World) (hE : DecM a w) (h34 : s[0]? ≠ some 34) (hl : s.length ≤ 70000) :
    Calls Tryz.prog 10 #[.string ⟨s.toArray⟩] w fun e w' => Below w.heap.size w w' ∧ ((DecOk s ∧ e = .returned (.tuple #[(ofN (dv (unplus s))).v, .bool true])) ∨ (¬ DecOk s ∧ e = .returned (.tuple #[zeroR.v, .bool false]))) :=
  readJson_wrap _ _ _ w fun v w1 hs hz fz hb => unmJson_plain a _ _ s v w1 hz fz hs h34 hl (hE.away hb _ (by omega))
end Go.Proofs.YtfaocjcpnjmfiaaGreatDoor
/-
  Decimal digits as texts: what the readers make of them: plain law.
-/
set_option linter.unusedVariables false
namespace Go.Proofs.YtfaocjcpnjmfiaaGreatDoor
open Go.Lib
theorem digits_dv : ∀ n : Nat, Decs (decDigits n) ∧ dv (decDigits n) = n ∧ decDigits n ≠ [] := by
  intro n
  induction n using Nat.strongRecOn with
  | ind n ih =>
    by_cases h : n < 10
    · have e : decDigits n = [UInt8.ofNat (48 + n)] := by rw [decDigits, dif_pos h]
      have hv : (UInt8.ofNat (48 + n)).toNat = 48 + n := by rw [UInt8.toNat_ofNat']; omega
      rw [e]
      refine ⟨fun c hc => ?_, ?_, by simp⟩
      · rw [List.mem_singleton] at hc
        subst hc
        rw [hv]
        omega
      · show 10 * 0 + ((UInt8.ofNat (48 + n)).toNat - 48) = n
        rw [hv]
        omega
    · have e : decDigits n = decDigits (n / 10) ++ [UInt8.ofNat (48 + n % 10)] := by rw [decDigits, dif_neg h]
      have hv : (UInt8.ofNat (48 + n % 10)).toNat = 48 + n % 10 := by rw [UInt8.toNat_ofNat']; omega
      obtain ⟨i1, i2, i3⟩ := ih (n / 10) (by omega)
      rw [e]
      refine ⟨(decs_append _ _).2 ⟨i1, fun c hc => ?_⟩, ?_, by simp⟩
      · rw [List.mem_singleton] at hc
        subst hc
        rw [hv]
        omega
      · rw [dv_snoc, i2, hv]
        omega
theorem decs_plain {l : List UInt8} (hd : Decs l) : unplus l = l ∧ isPre l = false ∧ l[0]? ≠ some 34 := by
  have hh : ∀ (i : Nat) (c : UInt8), l[i]? = some c → 48 ≤ c.toNat ∧ c.toNat ≤ 57 := fun i c h => hd c (List.mem_of_getElem? h)
  refine ⟨?_, ?_, fun h => by have := hh 0 34 h; revert this; decide⟩
  · unfold unplus
    rw [if_neg (fun h => by have := hh 0 43 h; revert this; decide)]
  · rcases l with _ | ⟨c0, _ | ⟨c1, t⟩⟩
    · rfl
    · rfl
    · have h1 := hh 1 c1 rfl
      have e1 : (c1 == 120) = false := by rw [beq_eq_false_iff_ne]; rintro rfl; revert h1; decide
      have e2 : (c1 == 88) = false := by rw [beq_eq_false_iff_ne]; rintro rfl; revert h1; decide
      show (c0 == 48 && (c1 == 120 || c1 == 88)) = false
      rw [e1, e2]
      simp
/-- The digits of a number below 2^256. -/
theorem digits_read (n : Nat) (h : n < 2 ^ 256) : DecOk (decDigits n) ∧ dv (unplus (decDigits n)) = n ∧ TxtOk (decDigits n) ∧ txtN (decDigits n) = n ∧ (decDigits n)[0]? ≠ some 34 := by
  obtain ⟨h1, h2, h3⟩ := digits_dv n
  obtain ⟨k1, k2, k3⟩ := decs_plain h1
  have hok : DecOk (decDigits n) := by
    unfold DecOk
    rw [k1, h2]
    exact ⟨h3, h1, h⟩
  refine ⟨hok, by rw [k1, h2], ?_, ?_, k3⟩
  · unfold TxtOk
    rw [if_neg (by rw [k2]; simp)]
    exact hok
  · unfold txtN
    rw [if_neg (by rw [k2]; simp), k1, h2]
/-- A text that begins with 0x is no decimal one. -/
theorem hex_plain (t : List UInt8) : ¬ DecOk (48 :: 120 :: t) ∧ (48 :: 120 :: t)[0]? ≠ some 34 := by
  refine ⟨fun h => ?_, by simp⟩
  have e : unplus (48 :: 120 :: t) = 48 :: 120 :: t := by unfold unplus; rw [if_neg (by simp)]
  have := h.2.1
  rw [e] at this
  have h1 := this 120 (by simp)
  revert h1
  decide
end Go.Proofs.YtfaocjcpnjmfiaaGreatDoor
/-
  Digits of sixteen as texts: what the reader makes of them: plain law.
-/
set_option linter.unusedVariables false
namespace Go.Proofs.YtfaocjcpnjmfiaaGreatDoor
theorem nib_hexd (n : Nat) (h : n < 16) : nibOf (hexd n) = n := by
  have : ∀ m, m < 16 → nibOf (hexd m) = m := by decide
  exact this n h
theorem hexd_48 (n : Nat) (h : n < 16) (e : hexd n = 48) : n = 0 := by
  have : ∀ m, m < 16 → hexd m = 48 → m = 0 := by decide
  exact this n h e
theorem hexs_cons (k v : Nat) : hexs (k + 1) v = hexd (v / 16 ^ k % 16) :: hexs k v := by
  have h1 := hexs_head k v
  have h2 := hexs_drop k v
  generalize hexs (k + 1) v = l at *
  rcases l with _ | ⟨c, l⟩
  · cases h1
  · simp at h1
    rw [h1, ← h2]
    rfl
theorem hexs_hv : ∀ k v : Nat, Nibs (hexs k v) ∧ hv (hexs k v) = v % 16 ^ k
  | 0, v => by
    have e : hexs 0 v = [] := rfl
    rw [e]
    exact ⟨Nibs.nil, by rw [hv_nil, Nat.pow_zero, Nat.mod_one]⟩
  | k + 1, v => by
    obtain ⟨h1, h2⟩ := hexs_hv k v
    have hd : v / 16 ^ k % 16 < 16 := Nat.mod_lt _ (by decide)
    rw [hexs_cons, show hexd (v / 16 ^ k % 16) :: hexs k v = [hexd (v / 16 ^ k % 16)] ++ hexs k v from rfl, hv_append, h2, hexs_len]
    refine ⟨Nibs.append (fun c hc => ?_) h1, ?_⟩
    · rw [List.mem_singleton] at hc
      rw [hc, nib_hexd _ hd]
      exact hd
    · have e : hv [hexd (v / 16 ^ k % 16)] = v / 16 ^ k % 16 := by
        show 16 * 0 + nibOf (hexd (v / 16 ^ k % 16)) = _
        rw [nib_hexd _ hd, Nat.mul_zero, Nat.zero_add]
      rw [e, Nat.mod_pow_succ, Nat.mul_comm, Nat.add_comm]
/-- The digits of sixteen are read back. -/
theorem hex_back (x : N4) : hexFault (hexText x) = 0 ∧ hv ((hexText x).drop 2) = x.toNat := by
  obtain ⟨h1, h2⟩ := nh_le x
  obtain ⟨k1, k2⟩ := hexs_hv x.nh x.toNat
  have hl : (hexText x).length = 2 + x.nh := by unfold hexText; simp only [List.length_cons, hexs_len]; omega
  have hd : (hexText x).drop 2 = hexs x.nh x.toNat := rfl
  rw [hd, k2, Nat.mod_eq_of_lt (nh_lt x)]
  refine ⟨?_, rfl⟩
  unfold hexFault
  rw [if_neg (by unfold hexText; simp), if_neg (by show ¬ (true = false); simp), if_neg (by omega), if_neg, if_neg (by omega), if_pos (by rw [hd]; exact k1)]
  rintro ⟨g1, g2⟩
  obtain ⟨j, hj⟩ : ∃ j, x.nh = j + 1 := ⟨x.nh - 1, by omega⟩
  have e : (hexText x)[2]? = (hexs x.nh x.toNat)[0]? := rfl
  rw [e, hj, hexs_cons] at g2
  simp only [List.getElem?_cons_zero, Option.some.injEq] at g2
  have := hexd_48 _ (Nat.mod_lt _ (by decide)) g2
  have h3 := nh_top x (by omega)
  rw [hj, Nat.add_sub_cancel] at h3
  exact h3 this
end Go.Proofs.YtfaocjcpnjmfiaaGreatDoor
/-
  What the decimal readers ask of the memory, off the row's own list of variables: the errors are there, the multipliers are powers of ten.
-/
set_option linter.unusedVariables false
set_option linter.unusedSimpArgs false
namespace Go.Proofs.YtfaocjcpnjmfiaaGreatDoor
open Go.RowKit Go.Lib
theorem errCell {w : World} {n nm : String} {d : DataW Unit} {g : Nat} (h : VarReads Tryz.prog w n (.iface nm d)) (hg : Tryz.prog.globalNamed n = some g) (ht : (Tryz.prog.globals[g]?).map (·.type) = some 33) : ∃ t u, w.cell? ⟨g, 0, none⟩ = some (.iface t u) := by
  obtain ⟨g', t, cs, fuel, p, hg', hty, hvar, hd⟩ := h
  obtain rfl := Option.some.inj (hg.symm.trans hg')
  obtain rfl := Option.some.inj (ht.symm.trans hty)
  obtain ⟨_, u, v, hcs, _, _⟩ := iface_of_trod Tryz.underlying33 hd
  refine ⟨u, v, ?_⟩
  rw [World.var?_cell hg hvar 0, ← Array.getElem?_toList, hcs]
  rfl
theorem nilPtr {P : Program} {w : World} {fuel : Nat} {t e : TypeId} {cs : List Value} {p : List MemPlace} (ht : P.underlying t = some (.pointer e))
    (h : DataW.trod (fun _ => ()) P w 0 (fun _ => true) false fuel t cs = some (.nil, p)) : cs = [.pointer none] := by
  cases fuel with
  | zero => simp [DataW.trod] at h
  | succ fuel =>
    match cs with
    | [] => simp [DataW.trod, ht] at h
    | _ :: _ :: _ => simp [DataW.trod, ht] at h
    | [c] =>
      cases c <;> simp [DataW.trod, ht] at h
      rename_i o
      cases o with
      | none => rfl
      | some a =>
        simp only [Option.bind_eq_some_iff, Function.comp, Option.map_eq_some_iff, Prod.mk.injEq] at h
        obtain ⟨_, _, _, _, h, _⟩ := h
        cases h
/-- The words of a multiplier. -/
def mulW (j : Nat) : List Int := (List.range 4).map fun i => ((10 ^ (19 * j) / 2 ^ (64 * i) % 2 ^ 64 : Nat) : Int)
theorem mul_datum : (Rows.laid_loop_example_pub_g03023_pub_uint256_multipliers : DataW Unit) = .agg [.nil, .ptr (tabData .u64 (mulW 1)), .ptr (tabData .u64 (mulW 2)), .ptr (tabData .u64 (mulW 3)), .ptr (tabData .u64 (mulW 4))] := by kernel_rfl
theorem cells4 {w : World} {a : Addr} {l : List Value} (h : w.cells? 0 a 4 = some l) (hl : l.length = 4) : a.spot = none ∧ ∀ i, i < 4 → w.cell? ⟨a.block, a.off + i, none⟩ = l[i]? := by
  unfold World.cells? at h
  rw [if_pos (Nat.zero_le _)] at h
  have h4 : (List.range 4) = [0, 1, 2, 3] := rfl
  rw [h4] at h
  simp only [List.mapM_cons, List.mapM_nil, Option.pure_def, Option.bind_eq_bind, Option.bind_eq_some_iff] at h
  obtain ⟨c0, e0, t1, ⟨c1, e1, t2, ⟨c2, e2, t3, ⟨c3, e3, t4, h5, h6⟩, h7⟩, h8⟩, h9⟩ := h
  simp at h5 h6 h7 h8 h9
  subst h5 h6 h7 h8 h9
  have hs : a.spot = none := by
    rw [show a.add 0 = a from rfl] at e0
    unfold World.cell? at e0
    split at e0
    · rcases hsp : a.spot with _ | x
      · rfl
      · rw [hsp] at e0; simp at e0
    · cases e0
  refine ⟨hs, fun i hi => ?_⟩
  obtain ⟨ab, ao, asp⟩ := a
  simp only at hs
  subst hs
  match i, hi with
  | 0, _ => exact e0
  | 1, _ => exact e1
  | 2, _ => exact e2
  | 3, _ => exact e3
theorem mul_of {w : World} (h : VarReads Tryz.prog w "loop.example/pub-g03023/pub/uint256.multipliers" Rows.laid_loop_example_pub_g03023_pub_uint256_multipliers) : ∃ a, MulT a w := by
  obtain ⟨g, t, cs, fuel, p, hg, hty, hvar, hd⟩ := h
  obtain rfl := Option.some.inj ((show Tryz.prog.globalNamed "loop.example/pub-g03023/pub/uint256.multipliers" = some 7 by kernel_rfl).symm.trans hg)
  obtain rfl := Option.some.inj ((show (Tryz.prog.globals[7]?).map (·.type) = some 69 by kernel_rfl).symm.trans hty)
  rw [mul_datum] at hd
  have cell1 : Tryz.prog.cellsOf 31 = 1 := by kernel_rfl
  have cell4 : Tryz.prog.cellsOf 41 = 4 := by kernel_rfl
  have one : ∀ j, 1 ≤ j → j ≤ 4 → ∃ a : Addr, w.cell? ⟨7, j, none⟩ = some (.pointer (some ⟨a.block, a.off, none⟩)) ∧ At4 w a.block a.off (ofN (10 ^ (19 * j))) := fun j h1 h2 => by
    obtain ⟨fuel', d, q, hdi, he⟩ := array_elem (t := 69) (e := 31) (n := 5) (by kernel_rfl) hd j (by omega)
    have hdj : d = .ptr (tabData .u64 (mulW j)) := by
      rcases (by omega : j = 1 ∨ j = 2 ∨ j = 3 ∨ j = 4) with rfl | rfl | rfl | rfl <;> simpa using hdi.symm
    subst hdj
    rw [cell1, Nat.mul_one] at he
    obtain ⟨fuel2, a, cs', q2, hcs, hc4, he2, _⟩ := ptr_of_trod Tryz.underlying31 he
    rw [cell4] at hc4
    have hw := cells_of_tab (t := 41) (e := 22) (n := 4) (k := .u64) (by kernel_rfl) (by kernel_rfl) (by kernel_rfl) (by kernel_rfl) he2
    obtain ⟨hsp, hcell⟩ := cells4 hc4 (by rw [hw]; simp [mulW])
    obtain ⟨ab, ao, asp⟩ := a
    simp only at hsp hcell
    subst hsp
    refine ⟨⟨ab, ao, none⟩, ?_, ?_⟩
    · have e0 := congrArg (·[0]?) hcs
      simp only [List.getElem?_take, List.getElem?_drop, Nat.zero_lt_one, if_true, Nat.add_zero] at e0
      rw [World.var?_cell hg hvar j, ← Array.getElem?_toList, e0]
      rfl
    · rw [hw] at hcell
      have k0 := hcell 0 (by omega)
      have k1 := hcell 1 (by omega)
      have k2 := hcell 2 (by omega)
      have k3 := hcell 3 (by omega)
      simp only [mulW, List.getElem?_map, List.getElem?_range (show (0 : Nat) < 4 by omega), List.getElem?_range (show (1 : Nat) < 4 by omega), List.getElem?_range (show (2 : Nat) < 4 by omega), List.getElem?_range (show (3 : Nat) < 4 by omega), Option.map_some] at k0 k1 k2 k3
      obtain ⟨P, hP⟩ : ∃ P, P = 10 ^ (19 * j) := ⟨_, rfl⟩
      rw [← hP] at k0 k1 k2 k3 ⊢
      have wd : ∀ n : Nat, V (BitVec.ofNat 64 n) = .int .u64 ((n % 2 ^ 64 : Nat) : Int) := fun n => by
        show Value.int .u64 (U (BitVec.ofNat 64 n)) = _
        unfold U
        rw [BitVec.toNat_ofNat]
      refine ⟨?_, ?_, ?_, ?_⟩
      · rw [show (ofN P).a = BitVec.ofNat 64 P from rfl, wd]
        simpa using k0
      · rw [show (ofN P).b = BitVec.ofNat 64 (P / 2 ^ 64) from rfl, wd]
        simpa using k1
      · rw [show (ofN P).c = BitVec.ofNat 64 (P / 2 ^ 128) from rfl, wd]
        simpa using k2
      · rw [show (ofN P).d = BitVec.ofNat 64 (P / 2 ^ 192) from rfl, wd]
        simpa using k3
  have c0 : w.cell? ⟨7, 0, none⟩ = some (.pointer none) := by
    obtain ⟨fuel', d, q, hdi, he⟩ := array_elem (t := 69) (e := 31) (n := 5) (by kernel_rfl) hd 0 (by omega)
    have hdj : d = .nil := by simpa using hdi.symm
    subst hdj
    rw [cell1, Nat.mul_one] at he
    have hn : (cs.toList.drop 0).take 1 = [.pointer none] := nilPtr Tryz.underlying31 he
    have e0 := congrArg (·[0]?) hn
    simp only [List.getElem?_take, List.getElem?_drop, Nat.zero_lt_one, if_true, Nat.add_zero] at e0
    rw [World.var?_cell hg hvar 0, ← Array.getElem?_toList, e0]
    rfl
  obtain ⟨a1, p1, q1⟩ := one 1 (by omega) (by omega)
  obtain ⟨a2, p2, q2⟩ := one 2 (by omega) (by omega)
  obtain ⟨a3, p3, q3⟩ := one 3 (by omega) (by omega)
  obtain ⟨a4, p4, q4⟩ := one 4 (by omega) (by omega)
  refine ⟨fun j => if j = 1 then a1 else if j = 2 then a2 else if j = 3 then a3 else a4, c0, fun j h1 h2 => ?_, fun j h1 h2 => ?_⟩
  · rcases (by omega : j = 1 ∨ j = 2 ∨ j = 3 ∨ j = 4) with rfl | rfl | rfl | rfl
    · exact p1
    · exact p2
    · exact p3
    · exact p4
  · rcases (by omega : j = 1 ∨ j = 2 ∨ j = 3 ∨ j = 4) with rfl | rfl | rfl | rfl
    · exact q1
    · exact q2
    · exact q3
    · exact q4
theorem decW_of {w : World} (h1 : VarReads Tryz.prog w "strconv.ErrSyntax" Rows.laid_strconv_ErrSyntax) (h2 : VarReads Tryz.prog w "io.EOF" Rows.laid_io_EOF) (h3 : VarReads Tryz.prog w "loop.example/pub-g03023/pub/uint256.ErrBig256Range" Rows.laid_loop_example_pub_g03023_pub_uint256_ErrBig256Range) (h4 : VarReads Tryz.prog w "loop.example/pub-g03023/pub/uint256.multipliers" Rows.laid_loop_example_pub_g03023_pub_uint256_multipliers) : ∃ a, DecM a w := by
  obtain ⟨a, hm⟩ := mul_of h4
  exact ⟨a, errCell h1 (by kernel_rfl) (by kernel_rfl), hm, errCell h2 (by kernel_rfl) (by kernel_rfl), errCell h3 (by kernel_rfl) (by kernel_rfl)⟩
end Go.Proofs.YtfaocjcpnjmfiaaGreatDoor
/-
  The six sentinels, off the row's own list of variables.
-/
set_option linter.unusedVariables false
set_option linter.unusedSimpArgs false
namespace Go.Proofs.YtfaocjcpnjmfiaaGreatDoor
open Go.RowKit Go.ChangeShapes
theorem cellsErrT : Tryz.prog.cellsOf 118 = 1 := by kernel_rfl
theorem cellsStrT : Tryz.prog.cellsOf 9 = 1 := by kernel_rfl
theorem starT : "*" ++ "errors.errorString" = "*errors.errorString" := by decide
theorem rowErrT (u : TypeId) (h : Tryz.prog.typeName? 3 u = some "*errors.errorString") : u = 116 :=
  typeName_ptr_named (nm := "errors.errorString") (by rw [starT]; kernel_rfl) (by kernel_rfl) (by decide) u (by rw [starT]; exact h)
theorem sentinel_at {n : String} {text : List UInt8} {r : List (String × DataW Unit)} {W : World} {g : Nat} (h : laidMet Tryz.prog ((n, .iface "*errors.errorString" (.ptr (.agg [.lit (.string text)]))) :: r) W) (hg : Tryz.prog.globalNamed n = some g) (ht : (Tryz.prog.globals[g]?).map (·.type) = some 33) :
    ∃ a, W.cell? ⟨g, 0, none⟩ = some (.iface 116 (.pointer (some a))) := by
  obtain ⟨a, s, hv, _⟩ := laid_sentinel h hg ht Tryz.underlying33 rowErrT Tryz.underlying116 Tryz.underlying118 rfl rfl Tryz.underlying9 cellsErrT cellsStrT
  exact ⟨a, by simpa using World.var?_cell hg hv 0⟩
theorem hexE_of {r : List (String × DataW Unit)} {W : World} (h : laidMet Tryz.prog (("loop.example/pub-g03023/pub/uint256.ErrEmptyString", Rows.laid_loop_example_pub_g03023_pub_uint256_ErrEmptyString) :: ("loop.example/pub-g03023/pub/uint256.ErrSyntax", Rows.laid_loop_example_pub_g03023_pub_uint256_ErrSyntax) :: ("loop.example/pub-g03023/pub/uint256.ErrMissingPrefix", Rows.laid_loop_example_pub_g03023_pub_uint256_ErrMissingPrefix) :: ("loop.example/pub-g03023/pub/uint256.ErrEmptyNumber", Rows.laid_loop_example_pub_g03023_pub_uint256_ErrEmptyNumber) :: ("loop.example/pub-g03023/pub/uint256.ErrLeadingZero", Rows.laid_loop_example_pub_g03023_pub_uint256_ErrLeadingZero) :: ("loop.example/pub-g03023/pub/uint256.ErrBig256Range", Rows.laid_loop_example_pub_g03023_pub_uint256_ErrBig256Range) :: r) W) :
    ∃ a, HexE a W := by
  obtain ⟨a1, k1⟩ := sentinel_at h (g := 0) (by kernel_rfl) (by kernel_rfl)
  obtain ⟨a2, k2⟩ := sentinel_at h.tail (g := 1) (by kernel_rfl) (by kernel_rfl)
  obtain ⟨a3, k3⟩ := sentinel_at h.tail.tail (g := 2) (by kernel_rfl) (by kernel_rfl)
  obtain ⟨a4, k4⟩ := sentinel_at h.tail.tail.tail (g := 3) (by kernel_rfl) (by kernel_rfl)
  obtain ⟨a5, k5⟩ := sentinel_at h.tail.tail.tail.tail (g := 4) (by kernel_rfl) (by kernel_rfl)
  obtain ⟨a6, k6⟩ := sentinel_at h.tail.tail.tail.tail.tail (g := 5) (by kernel_rfl) (by kernel_rfl)
  exact ⟨fun i => if i = 1 then a1 else if i = 2 then a2 else if i = 3 then a3 else if i = 4 then a4 else if i = 5 then a5 else a6, k1, k2, k3, k4, k5, k6⟩
end Go.Proofs.YtfaocjcpnjmfiaaGreatDoor
namespace Go.Proofs.YtfaocjcpnjmfiaaGreatDoor.fnTextsBack
open Go.ChangeShapes Go.WideShapes Go.ChangeAt Go.RowKit Go.Lib
set_option linter.unusedVariables false
set_option linter.unusedSimpArgs false

set_option maxRecDepth 20000 in
set_option maxHeartbeats 8000000 in
theorem walk (x : N4) (w : World) (a ah : Nat → Addr) (hp : P10 w) (hT : TxtW a ah w) : Calls Tryz.prog 3 #[x.v] w (RetBel (.bool true) w) := by
  obtain ⟨d1, d2, d3, d4, d5⟩ := digits_read x.toNat (toNat_lt x)
  obtain ⟨k1, k2⟩ := hex_back x
  have dl : (Lib.decDigits x.toNat).length ≤ 70000 := by
    rw [Lib.decDigits_length]
    have := digits_small x
    omega
  have A1 : Hid (∀ w2, Below w.heap.size w w2 → Calls Tryz.prog 5 #[x.v] w2 (RetBel (.string ⟨(Lib.decDigits x.toNat).toArray⟩) w2)) := fun w2 hb => implDec_any x w2 (hp.bel hb)
  have A2 : Hid (∀ w2, Below w.heap.size w w2 → Calls Tryz.prog 7 #[x.v] w2 (RetBel (.string ⟨(hexText x).toArray⟩) w2)) := fun w2 hb => implHex_any x w2
  have A3 : Hid (∀ w2, Below w.heap.size w w2 → Calls Tryz.prog 9 #[x.v] w2 (RetBel (.string ⟨(Lib.decDigits x.toNat).toArray⟩) w2)) := fun w2 hb => implText_any x w2 (hp.bel hb)
  have A4 : Hid (∀ w2, Below w.heap.size w w2 → Calls Tryz.prog 11 #[x.v] w2 (RetBel (.string ⟨(jsonText x.toNat).toArray⟩) w2)) := fun w2 hb => implJson_any x w2 (hp.bel hb)
  have B1 : Hid (∀ w2, Below w.heap.size w w2 → Calls Tryz.prog 4 #[.string ⟨(Lib.decDigits x.toNat).toArray⟩] w2 fun e w' => e = .returned (.tuple #[x.v, .bool true]) ∧ Below w2.heap.size w2 w') := fun w2 hb => by
    have h := implFromDec_ok a _ w2 (hT.dec.bel hb) d1
    rw [d2, ofN_self] at h
    exact h
  have B2 : Hid (∀ w2, Below w.heap.size w w2 → Calls Tryz.prog 6 #[.string ⟨(hexText x).toArray⟩] w2 fun e w' => e = .returned (.tuple #[x.v, .int .i64 0]) ∧ Below w2.heap.size w2 w') := fun w2 hb => by
    have h := implFromHex_ok ah _ w2 (hT.hex.bel hb) (by have := hT.lt; have := hb.size; omega) k1
    rw [k2, ofN_self] at h
    exact h
  have B3 : Hid (∀ w2, Below w.heap.size w w2 → Calls Tryz.prog 8 #[.string ⟨(Lib.decDigits x.toNat).toArray⟩] w2 fun e w' => e = .returned (.tuple #[x.v, .bool true]) ∧ Below w2.heap.size w2 w') := fun w2 hb =>
    (implReadText_any a ah _ w2 (hT.bel hb)).mono fun e w' ⟨hb, h⟩ => ⟨by
      rcases h with ⟨_, h⟩ | ⟨h, _⟩
      · rw [d4, ofN_self] at h; exact h
      · exact absurd d3 h, hb⟩
  have B4 : Hid (∀ w2, Below w.heap.size w w2 → Calls Tryz.prog 10 #[.string ⟨(jsonText x.toNat).toArray⟩] w2 fun e w' => e = .returned (.tuple #[x.v, .bool true]) ∧ Below w2.heap.size w2 w') := fun w2 hb =>
    (implReadJson_quoted a ah _ w2 (hT.bel hb) dl).mono fun e w' ⟨hb, h⟩ => ⟨by
      rcases h with ⟨_, h⟩ | ⟨h, _⟩
      · rw [d4, ofN_self] at h; exact h
      · exact absurd d3 h, hb⟩
  obtain ⟨S, hS⟩ : ∃ S : ByteArray, S = ⟨(Lib.decDigits x.toNat).toArray⟩ := ⟨_, rfl⟩
  obtain ⟨T, hTT⟩ : ∃ T : ByteArray, T = ⟨(hexText x).toArray⟩ := ⟨_, rfl⟩
  obtain ⟨J, hJ⟩ : ∃ J : ByteArray, J = ⟨(jsonText x.toNat).toArray⟩ := ⟨_, rfl⟩
  rw [← hS] at A1 A3 B1 B3
  rw [← hTT] at A2 B2
  rw [← hJ] at A4 B4
  have ex := eqb_self x
  clear d1 d2 d3 d4 d5 k1 k2 dl hp hT hS hTT hJ
  go_enter Tryz.func3, Tryz.ntmps3
  have hx0 : At4 (w.alloc (.cells #[V x.a, V x.b, V x.c, V x.d] 24)) w.heap.size 0 x := by constructor <;> simp [go_sem]
  have HB0 := Lib.hid (bel_alloc (bel_refl w) (.cells #[V x.a, V x.b, V x.c, V x.d] 24))
  have HX0 := Lib.hid hx0
  clear hx0
  go_wp2_with fail
  refine (A1.out _ HB0.out).mono ?_
  rintro e u1 ⟨rfl, hb⟩
  have HBU1 := Lib.hid (bel_trans HB0.out hb)
  have HXU1 := Lib.hid (HX0.out.bel hb)
  clear hb
  go_wp2_with fail
  refine (B1.out _ HBU1.out).mono ?_
  rintro e v1 ⟨rfl, hb⟩
  have HBV1 := Lib.hid (bel_trans HBU1.out hb)
  have HXV1 := Lib.hid (HXU1.out.bel hb)
  clear hb
  have HBA1 := Lib.hid (bel_alloc HBV1.out (.cells #[V x.a, V x.b, V x.c, V x.d] 24))
  have HXA1 := Lib.hid (HXV1.out.alloc (.cells #[V x.a, V x.b, V x.c, V x.d] 24))
  have HY1A1 : Hid (At4 (v1.alloc (.cells #[V x.a, V x.b, V x.c, V x.d] 24)) v1.heap.size 0 x) := by show At4 _ _ _ _; constructor <;> simp [go_sem]
  obtain ⟨p0, p1, p2, p3⟩ := HXV1.out
  simp only [Nat.zero_add] at p1 p2 p3
  have hltx := HXV1.out.lt
  go_wp2_with fail
  refine (A2.out _ HBA1.out).mono ?_
  rintro e u2 ⟨rfl, hb⟩
  have HBU2 := Lib.hid (bel_trans HBA1.out hb)
  have HXU2 := Lib.hid (HXA1.out.bel hb)
  have HY1U2 := Lib.hid (HY1A1.out.bel hb)
  clear hb p0 p1 p2 p3 hltx
  go_wp2_with fail
  refine (B2.out _ HBU2.out).mono ?_
  rintro e v2 ⟨rfl, hb⟩
  have HBV2 := Lib.hid (bel_trans HBU2.out hb)
  have HXV2 := Lib.hid (HXU2.out.bel hb)
  have HY1V2 := Lib.hid (HY1U2.out.bel hb)
  clear hb
  have HBA2 := Lib.hid (bel_alloc HBV2.out (.cells #[V x.a, V x.b, V x.c, V x.d] 24))
  have HXA2 := Lib.hid (HXV2.out.alloc (.cells #[V x.a, V x.b, V x.c, V x.d] 24))
  have HY1A2 := Lib.hid (HY1V2.out.alloc (.cells #[V x.a, V x.b, V x.c, V x.d] 24))
  have HY2A2 : Hid (At4 (v2.alloc (.cells #[V x.a, V x.b, V x.c, V x.d] 24)) v2.heap.size 0 x) := by show At4 _ _ _ _; constructor <;> simp [go_sem]
  obtain ⟨p0, p1, p2, p3⟩ := HXV2.out
  simp only [Nat.zero_add] at p1 p2 p3
  have hltx := HXV2.out.lt
  go_wp2_with fail
  refine (A3.out _ HBA2.out).mono ?_
  rintro e u3 ⟨rfl, hb⟩
  have HBU3 := Lib.hid (bel_trans HBA2.out hb)
  have HXU3 := Lib.hid (HXA2.out.bel hb)
  have HY1U3 := Lib.hid (HY1A2.out.bel hb)
  have HY2U3 := Lib.hid (HY2A2.out.bel hb)
  clear hb p0 p1 p2 p3 hltx
  go_wp2_with fail
  refine (B3.out _ HBU3.out).mono ?_
  rintro e v3 ⟨rfl, hb⟩
  have HBV3 := Lib.hid (bel_trans HBU3.out hb)
  have HXV3 := Lib.hid (HXU3.out.bel hb)
  have HY1V3 := Lib.hid (HY1U3.out.bel hb)
  have HY2V3 := Lib.hid (HY2U3.out.bel hb)
  clear hb
  have HBA3 := Lib.hid (bel_alloc HBV3.out (.cells #[V x.a, V x.b, V x.c, V x.d] 24))
  have HXA3 := Lib.hid (HXV3.out.alloc (.cells #[V x.a, V x.b, V x.c, V x.d] 24))
  have HY1A3 := Lib.hid (HY1V3.out.alloc (.cells #[V x.a, V x.b, V x.c, V x.d] 24))
  have HY2A3 := Lib.hid (HY2V3.out.alloc (.cells #[V x.a, V x.b, V x.c, V x.d] 24))
  have HY3A3 : Hid (At4 (v3.alloc (.cells #[V x.a, V x.b, V x.c, V x.d] 24)) v3.heap.size 0 x) := by show At4 _ _ _ _; constructor <;> simp [go_sem]
  obtain ⟨p0, p1, p2, p3⟩ := HXV3.out
  simp only [Nat.zero_add] at p1 p2 p3
  have hltx := HXV3.out.lt
  go_wp2_with fail
  refine (A4.out _ HBA3.out).mono ?_
  rintro e u4 ⟨rfl, hb⟩
  have HBU4 := Lib.hid (bel_trans HBA3.out hb)
  have HXU4 := Lib.hid (HXA3.out.bel hb)
  have HY1U4 := Lib.hid (HY1A3.out.bel hb)
  have HY2U4 := Lib.hid (HY2A3.out.bel hb)
  have HY3U4 := Lib.hid (HY3A3.out.bel hb)
  clear hb p0 p1 p2 p3 hltx
  go_wp2_with fail
  refine (B4.out _ HBU4.out).mono ?_
  rintro e v4 ⟨rfl, hb⟩
  have HBV4 := Lib.hid (bel_trans HBU4.out hb)
  have HXV4 := Lib.hid (HXU4.out.bel hb)
  have HY1V4 := Lib.hid (HY1U4.out.bel hb)
  have HY2V4 := Lib.hid (HY2U4.out.bel hb)
  have HY3V4 := Lib.hid (HY3U4.out.bel hb)
  clear hb
  obtain ⟨p00, p01, p02, p03⟩ := HXV4.out
  simp only [Nat.zero_add] at p01 p02 p03
  have hlt0 := HXV4.out.lt
  obtain ⟨p10, p11, p12, p13⟩ := HY1V4.out
  simp only [Nat.zero_add] at p11 p12 p13
  have hlt1 := HY1V4.out.lt
  obtain ⟨p20, p21, p22, p23⟩ := HY2V4.out
  simp only [Nat.zero_add] at p21 p22 p23
  have hlt2 := HY2V4.out.lt
  obtain ⟨p30, p31, p32, p33⟩ := HY3V4.out
  simp only [Nat.zero_add] at p31 p32 p33
  have hlt3 := HY3V4.out.lt
  go_wp2
  go_ret
  exact retBel rfl (bel_alloc HBV4.out _)

theorem trodVars_len {H : Type} {enc : TypeId × Value → H} {P : Program} {W : World} {sp : Nat → Bool} : ∀ {ns : List String} {gs : List (DataW H)} {ps : List MemPlace}, DataW.TrodVars enc P W sp ns gs ps → gs.length = ns.length
  | [], [], _, _ => rfl
  | [], _ :: _, _, h => h.elim
  | _ :: _, [], _, h => h.elim
  | _ :: _, _ :: _, _, h => by
    obtain ⟨g, t, cs, fuel, p, q, h1, h2, h3, h4, hs, e⟩ := h
    simp [trodVars_len hs]
theorem own : ownKnob Tryz.prog.godebug = none := by kernel_rfl
theorem laidOut : laidOutB Tryz.prog = true := by kernel_rfl
theorem door_met (os : Os) (args : Array Value) : laidMetH Tryz.prog Rows.fnTextsBackRow.laid ((World.doorLaid Tryz.prog 400 os).forCall (fun _ _ => 0) ⟨#[], args, []⟩).memory :=
  laidMetH_of_parts3 (fuel := 8) (laidMet_of_run' 8 (by kernel_rfl) (by kernel_rfl)) (by kernel_rfl) (by kernel_rfl)
set_option maxRecDepth 100000 in
theorem lifted (os : Os) (started : os.Started) (H : Type) (enc : TypeId × Value → H) :
    ReturnsInHanded {} Tryz.checked os 3 .any (fun w args => (Rows.fnTextsBackSpec.pre enc Tryz.prog Tryz.f3 [] false w args ∧ laidMetH Tryz.prog Rows.fnTextsBackRow.laid w) ∧ sizedMet enc Tryz.prog Tryz.f3 (OpenSpec.ofChange Rows.fnTextsBackSpec) false w args)
      (Rows.fnTextsBackSpec.post enc Tryz.prog Tryz.f3 false true false false) := by
  refine returnsInHanded_of_change_and (C := Tryz.checked) (X := fun w _ => laidMetH Tryz.prog Rows.fnTextsBackRow.laid w) (fun _ _ _ hh h => h.of_heap hh) own started (by kernel_rfl) Tryz.func3
    (ChangeSpec.witness_shaped (enc := enc) (C := Tryz.checked) (os := os) (X := fun w _ => laidMetH Tryz.prog Rows.fnTextsBackRow.laid w) false (World.doorLaid Tryz.prog 400 os) #[.agg #[.int .u64 0, .int .u64 0, .int .u64 0, .int .u64 0]] 8 rfl (World.shaped_of_RefB (by kernel_rfl) (by kernel_rfl)) (by kernel_rfl) (by kernel_rfl) (by kernel_rfl) (door_met os _)) ?_
  intro W base args ds gs before hval0 hW _ _ hL _
  have hval : ∀ (j : Nat) t v, Tryz.f3.params[j]? = some t → args[j]? = some v → Value.okWide Tryz.prog W .any base t v := hval0
  have hW' := hW
  obtain ⟨p, q, hA0, hV, rfl, hfz, hnd⟩ := hW
  have hA : DataW.TrodAll enc Tryz.prog W 0 (fun _ => true) true Tryz.f3.params.toList args.toList ds p := hA0
  rw [Tryz.params3] at hA hval
  obtain ⟨v0, vs0, d0, ds0, p0, q0, hargs, rfl, rfl, h0, r0⟩ := trodAll_cons hA
  obtain ⟨rfl, rfl, rfl⟩ := trodAll_nil r0
  obtain rfl : args = #[v0] := by cases args; simp_all
  have k0 := h0
  have lt0 : ∀ x ∈ p0, x.block < W.heap.size := by obtain ⟨m, hm⟩ := k0; exact DataW.trod_lt m _ _ _ hm
  obtain ⟨x0, rfl⟩ := open_num (hval 0 24 v0 rfl rfl)
  have hlen := trodVars_len hV
  obtain ⟨z0, z1, z2, z3, z4, z5, z6, rfl⟩ : ∃ z0 z1 z2 z3 z4 z5 z6, gs = [z0, z1, z2, z3, z4, z5, z6] := by
    match gs, hlen with
    | [z0, z1, z2, z3, z4, z5, z6], _ => exact ⟨z0, z1, z2, z3, z4, z5, z6, rfl⟩
  clear hA0 hval0
  have hL2 : laidMet Tryz.prog Rows.fnTextsBackRow.laid W := by rw [← MakeChecks.laidMetH_plain _ _ _ (by kernel_rfl)]; exact hL
  obtain ⟨a, hD⟩ := decW_of (Go.Lib.laidMet.reads hL2 (List.mem_cons_of_mem _ (List.mem_cons_of_mem _ (List.mem_cons_of_mem _ (List.mem_cons_of_mem _ (List.mem_cons_self)))))) (Go.Lib.laidMet.reads hL2 (List.mem_cons_of_mem _ (List.mem_cons_of_mem _ (List.mem_cons_of_mem _ (List.mem_cons_of_mem _ (List.mem_cons_of_mem _ (List.mem_cons_self))))))) (Go.Lib.laidMet.reads hL2 (List.mem_cons_of_mem _ (List.mem_cons_of_mem _ (List.mem_cons_of_mem _ (List.mem_cons_of_mem _ (List.mem_cons_of_mem _ (List.mem_cons_of_mem _ (List.mem_cons_of_mem _ (List.mem_cons_of_mem _ (List.mem_cons_of_mem _ (List.mem_cons_of_mem _ (List.mem_cons_of_mem _ (List.mem_cons_self))))))))))))) (Go.Lib.laidMet.reads hL2 (List.mem_cons_of_mem _ (List.mem_cons_of_mem _ (List.mem_cons_of_mem _ (List.mem_cons_of_mem _ (List.mem_cons_of_mem _ (List.mem_cons_of_mem _ (List.mem_cons_of_mem _ (List.mem_cons_of_mem _ (List.mem_cons_of_mem _ (List.mem_cons_of_mem _ (List.mem_cons_of_mem _ (List.mem_cons_of_mem _ (List.mem_cons_self))))))))))))))
  have hP : P10 W := p10_of (Go.Lib.laidMet.reads hL2 (List.mem_cons_of_mem _ (List.mem_cons_of_mem _ (List.mem_cons_self))))
  have hL3 := hL2
  unfold Rows.fnTextsBackRow at hL3
  obtain ⟨ah, hX⟩ := hexE_of hL3.tail.tail.tail.tail.tail.tail
  refine (walk x0 W a ah hP ⟨hD, hX⟩).mono fun e W' ⟨he, bel⟩ => ?_
  subst he
  exact ⟨_, rfl, _, _, _, [], _, _, hW', trodAll_mk1 (shut_bool Tryz.underlying4 _), (trodAll_cons_mk (Below.trod laidOut (by kernel_rfl) (of_decide_eq_true (by kernel_rfl)) k0 bel lt0) trodAll_mk0), Below.trodVars laidOut bel (by kernel_rfl) hV, bel.frame _, fun h => by cases h⟩
theorem row_holds : Rows.FnTextsBackSaid :=
  OpenClaim.holds_of_wide 3 Tryz.f3 rfl rfl rfl rfl rfl rfl rfl ⟨rfl, rfl, rfl, rfl, rfl⟩ rfl rfl rfl rfl rfl (by kernel_rfl) Tryz.func3 (by kernel_rfl)
    (of_decide_eq_true (by kernel_rfl)) (by unfold Func.isWrapper; first | (rw [if_pos (by decide +kernel)]; kernel_rfl) | (rw [if_neg (by decide +kernel)]; exact ⟨rfl, rfl⟩))
    (fun os started H enc _ => lifted os started H enc)
theorem holds : Rows.FnTextsBackCardSaid :=
  Claim7.holds_tied_plain_at .later [] _ true _ true
    row_holds (fun _ h => by cases h) (by kernel_rfl) (fun _ h => by cases h) fnTextsBack_row_tie rfl ⟨rfl, rfl⟩ (by kernel_rfl) rfl
    (fun f fn hf hfn => by
      obtain rfl : f = 3 := Option.some.inj ((show Tryz.prog.funcNamed "loop.example/pub-g03023/laws.FnTextsBack" = some 3 by kernel_rfl).symm.trans hf) |>.symm
      obtain rfl : fn = Tryz.f3 := (Option.some.inj (Tryz.func3.symm.trans hfn)).symm
      exact ⟨by kernel_rfl, fun j t ht => by
        rw [Tryz.params3] at ht
        have hm : t ∈ [24] := by simpa using Array.mem_of_getElem? ht
        have hall : ([24].all fun u => !Tryz.prog.wantsStandIn u) = true := by kernel_rfl
        exact (show Tryz.prog.wantsStandIn t = false by simpa using List.all_eq_true.1 hall t hm)⟩)
    (by kernel_rfl)
#print axioms holds
end Go.Proofs.YtfaocjcpnjmfiaaGreatDoor.fnTextsBack
