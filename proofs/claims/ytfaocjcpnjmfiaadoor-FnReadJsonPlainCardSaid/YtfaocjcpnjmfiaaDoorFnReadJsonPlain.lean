/-
  For every number: UnmarshalJSON takes its decimal digits without quotation marks, and refuses its digits of sixteen (the card FnReadJsonPlainCardSaid; the listed variables hold what the text lays into them, which the card ties).
-/
import Derived.Test.YtfaocjcpnjmfiaaDoorBunH
import Derived.Test.YtfaocjcpnjmfiaaDoorDec0
import Derived.Test.YtfaocjcpnjmfiaaDoorEql
import Derived.Test.YtfaocjcpnjmfiaaDoorBunT
import Derived.Test.YtfaocjcpnjmfiaaDoorRows
import Derived.Test.YtfaocjcpnjmfiaaDoorTie
import Derived.Test.YtfaocjcpnjmfiaaDoorCards
import Derived.Test.YtfaocjcpnjmfiaaDoorOpen
import Derived.ProofKit
import Derived.LaidMore
import Derived.OpenShut
import Derived.OpenVars
import Derived.Stop.Joined
import Derived.SevenTiedAt
import Derived.Lib.LaidU8
import Derived.Lib.ItoaNum
import Derived.LaidLaws
import Derived.Lib.LaidTab
/-
  uint256's UnmarshalJSON, the thin package's ReadJson.
-/
set_option linter.unusedVariables false
set_option linter.unusedSimpArgs false
namespace Go.Proofs.YtfaocjcpnjmfiaaDoor
open Go.RowKit
/-- A text between quotation marks, the marks taken off. -/
theorem slb_mid {w : World} {g o n cap : Nat} {m : List UInt8} (h : SlB w (.slice (some ⟨g, o, none⟩) n cap) (34 :: (m ++ [34]))) : SlB w (.slice (some ⟨g, o + 1, none⟩) m.length (cap - 1)) m := by
  obtain ⟨A, c, e, hc, hcell⟩ := h
  injection e with e1 e2 e3
  subst e1 e2 e3
  refine ⟨_, _, rfl, by simp at hc; omega, fun i b hb => ⟨_, _, rfl, ?_⟩⟩
  have hi := (List.getElem?_eq_some_iff.1 hb).1
  obtain ⟨g', o', e', k⟩ := hcell (i + 1) b (by rw [List.getElem?_cons_succ, List.getElem?_append_left hi]; exact hb)
  injection e' with e'
  injection e' with e1 e2
  subst e1 e2
  rw [show o + 1 + i = o + (i + 1) by omega]
  exact k
theorem run_mid (w : World) (g o n cap k : Nat) (hn : n = k + 2) (hc : n ≤ cap) : (Instr.slice 45 (.slice (some ⟨g, o, none⟩) n cap) (some (.int .i64 1)) (some (.int .i64 ((n : Int) - 1))) none).run Tryd.prog w = .ok (.slice (some ⟨g, o + 1, none⟩) k (cap - 1)) w := by
  rw [run_slice_lh (P := Tryd.prog) w 45 (some ⟨g, o, none⟩) n cap (by kernel_rfl) .i64 .i64 1 ((n : Int) - 1) (by omega) (by omega) (by omega)]
  have hs : (sizeOf (Tryd.prog.elem 45)).run Tryd.prog w = .ok 1 w := by kernel_rfl
  rw [hs]
  have e1 : ((n : Int) - 1).toNat = k + 1 := by omega
  have e2 : (1 : Int).toNat = 1 := rfl
  simp only [Result.andThen, e1, e2]
  unfold sliced
  have e3 : ¬ cap = 1 := by omega
  simp [e3, Addr.add]
set_option maxHeartbeats 4000000 in
set_option maxRecDepth 20000 in
theorem unmJson_quoted (a ah : Nat → Addr) (b : Nat) (z : N4) (m : List UInt8) (v : Value) (w : World) (hz : At4 w b 0 z) (fz : Free4 w b 0) (hs : SlB w v (34 :: (m ++ [34]))) (hm : m.length ≤ 70000) (hE : DecE a b w) (hH : HexE ah w) (hbg : 7 < b) :
    Calls Tryd.prog 25 #[.pointer (some ⟨b, 0, none⟩), v] w (RetTx (TxtOk m) (txtN m) b w) := by
  obtain ⟨g, o, n, cap, rfl, hn, hc, hs⟩ : ∃ g o n cap, v = .slice (some ⟨g, o, none⟩) n cap ∧ n = m.length + 2 ∧ n ≤ cap ∧ SlB w (.slice (some ⟨g, o, none⟩) n cap) (34 :: (m ++ [34])) := by
    have h2 := hs
    obtain ⟨A, cap, rfl, hc, hcell⟩ := hs
    obtain ⟨g, o, rfl, _⟩ := hcell 0 34 rfl
    exact ⟨g, o, _, cap, rfl, by simp, hc, h2⟩
  have k0 : w.cell? ⟨g, o, none⟩ = some (.int .u8 34) := by
    obtain ⟨g', o', e, k⟩ := SlB.first hs (b := 34) rfl
    injection e with e
    injection e with e1 e2
    subst e1 e2
    exact k
  have k1 : w.cell? ⟨g, o + (n - 1), none⟩ = some (.int .u8 34) := by
    obtain ⟨A', cap', e, hc', hcell⟩ := hs
    injection e with e1 e2 e3
    subst e1
    obtain ⟨g', o', e', k⟩ := hcell (m.length + 1) 34 (by rw [List.getElem?_cons_succ, List.getElem?_append_right (Nat.le_refl _), Nat.sub_self]; rfl)
    injection e' with e'
    injection e' with e1 e2
    subst e1 e2
    rw [show n - 1 = m.length + 1 by omega]
    exact k
  have hsl := fun w => run_mid w g o n cap m.length hn hc
  have UT := Lib.hid (unmText_any a ah b z m _ w hz fz (slb_mid hs) hE hH hbg)
  have hn2 : (2 : Int) ≤ (n : Int) := by omega
  have hn3 : (n : Int) ≤ 70002 := by omega
  clear hz fz hs hE hH hbg hn hc hm
  go_enter Tryd.func25, Tryd.ntmps25
  go_wp2_with (go_at_call 23; refine UT.out.mono ?_; rintro e w1 ⟨v, rfl, hb, h⟩; have HP := Lib.hid (And.intro hb h); clear hb h)
  go_ret
  exact ⟨v, rfl, HP.out.1, HP.out.2⟩
set_option maxHeartbeats 4000000 in
set_option maxRecDepth 20000 in
theorem unmJson_plain (a : Nat → Addr) (b : Nat) (z : N4) (l : List UInt8) (v : Value) (w : World) (hz : At4 w b 0 z) (fz : Free4 w b 0) (hs : SlB w v l) (h34 : l[0]? ≠ some 34) (hl : l.length ≤ 70000) (hE : DecE a b w) :
    Calls Tryd.prog 25 #[.pointer (some ⟨b, 0, none⟩), v] w (RetTx (DecOk l) (dv (unplus l)) b w) := by
  have SD := Lib.hid ((setFromDecimal_any a b z l w hz fz hE).mono fun e w' h => h.tx)
  have hcv := conv_slb hs
  obtain ⟨A, cap, rfl, hc, hcell⟩ := hs
  by_cases h2 : l.length < 2
  · have h2i : (l.length : Int) < 2 := by omega
    clear hz fz hE hcell h34 h2 hc hl
    go_enter Tryd.func25, Tryd.ntmps25
    go_wp2_with (go_at_call 31; refine SD.out.mono ?_; rintro e w1 ⟨v, rfl, hb, h⟩; have HP := Lib.hid (And.intro hb h); clear hb h)
    go_ret
    exact ⟨v, rfl, HP.out.1, HP.out.2⟩
  · obtain ⟨c, hc0⟩ : ∃ c, l[0]? = some c := ⟨_, List.getElem?_eq_getElem (by omega)⟩
    obtain ⟨g, o, rfl, k0⟩ := hcell 0 c hc0
    simp only [Nat.add_zero] at k0
    have c34 : ((c.toNat : Int) != 34) = true := by
      have : c.toNat ≠ 34 := fun e => h34 (by rw [hc0]; congr 1; exact UInt8.toNat.inj e)
      simp; omega
    have h2i : ¬ (l.length : Int) < 2 := by omega
    have hl0 : (0 : Int) < (l.length : Int) := by omega
    clear hz fz hE hcell h34 h2 hc hl hc0
    go_enter Tryd.func25, Tryd.ntmps25
    go_wp2_with (go_at_call 31; refine SD.out.mono ?_; rintro e w1 ⟨v, rfl, hb, h⟩; have HP := Lib.hid (And.intro hb h); clear hb h)
    go_ret
    exact ⟨v, rfl, HP.out.1, HP.out.2⟩
set_option maxHeartbeats 2000000 in
theorem readJson_wrap (ok : Prop) (n : Nat) (s : List UInt8) (w : World)
    (UJ : ∀ v w1, SlB w1 v s → At4 w1 (w.heap.size + 1) 0 ⟨0#64, 0#64, 0#64, 0#64⟩ → Free4 w1 (w.heap.size + 1) 0 → Below w.heap.size w w1 → Calls Tryd.prog 25 #[.pointer (some ⟨w.heap.size + 1, 0, none⟩), v] w1 (RetTx ok n (w.heap.size + 1) w1)) :
    Calls Tryd.prog 11 #[.string ⟨s.toArray⟩] w fun e w' => Below w.heap.size w w' ∧ ((ok ∧ e = .returned (.tuple #[(ofN n).v, .bool true])) ∨ (¬ ok ∧ e = .returned (.tuple #[zeroR.v, .bool false]))) := by
  have hth := thereR_z w
  obtain ⟨v, w1, hcv, hs, hb1⟩ := conv_str ((w.alloc Z4R).alloc Z4I) s
  have hz := (z4_at (w.alloc Z4R)).bel hb1
  have hsz : (w.alloc Z4R).heap.size = w.heap.size + 1 := by simp
  rw [hsz] at hz
  have fz := (z4_free (w.alloc Z4R)).bel (by simp) hb1
  rw [hsz] at fz
  have bel1 : Below w.heap.size w w1 := bel_trans (bel_alloc (bel_alloc (bel_refl w) _) _) hb1
  have hth1 : w1.there w.heap.size 0 4 := thereR_bel (thereR_bel hth (by omega) (bel_alloc (bel_refl _) _)) (by omega) hb1
  have hlt : w.heap.size + 2 ≤ w1.heap.size := by have := hb1.size; simp at this; omega
  have UT := UJ v w1 hs hz fz bel1
  have BEL1 := Lib.hid bel1
  have hbB : ∀ w2, But [w.heap.size + 1] w1 w2 → Below w.heap.size w w2 := fun w2 h => h.bel bel1 (fun x hx => by simp at hx; omega)
  have hthB : ∀ w2, But [w.heap.size + 1] w1 w2 → w2.there w.heap.size 0 4 := fun w2 h j hj => by
    have k := hth1 j hj
    have hb : w2.heap[w.heap.size]? = w1.heap[w.heap.size]? := h.block _ (by omega) (by simp)
    unfold World.cell? World.frozen? at *
    simp only at k ⊢
    rw [hb]
    exact k
  have HBB := Lib.hid hbB
  have HTB := Lib.hid hthB
  clear hz fz hs UJ bel1 hth1 hb1 hbB hthB hsz hth
  by_cases h0 : ok
  · have UT2 := Lib.hid (UT.mono fun e w' h => h.yes h0)
    have HOK := Lib.hid h0
    obtain ⟨x, hx⟩ : ∃ x, x = ofN n := ⟨_, rfl⟩
    rw [← hx] at UT2
    have HX := Lib.hid hx
    clear UT h0 hx
    go_enter Tryd.func11, Tryd.ntmps11
    go_wp2_with fail
    refine UT2.out.mono ?_
    rintro e w2 ⟨rfl, hbut, h4⟩
    have HB2 := Lib.hid (HBB.out w2 hbut)
    have hth2 := HTB.out w2 hbut
    have H4 := Lib.hid h4
    clear hbut h4
    go_wp2_with fail
    refine (checkedR_ok _ 0 x _ H4.out).mono ?_
    rintro e w3 ⟨rfl, hb3⟩
    have hth3 := thereR_bel hth2 (by omega) hb3
    have HB3 := Lib.hid (bel_trans HB2.out hb3)
    clear hb3
    go_wp2_with (show wpList _ _ _ (⟨none, Op.store 24 _ _, _, _, _, _⟩ :: _) _ _; refine wpList_store_mid (op := ⟨none, Op.store 24 (.tmp 2) (.tmp 14), _, _, _, _⟩) rfl 24 _ _ rfl w.heap.size 0 [V x.a, V x.b, V x.c, V x.d].toArray rfl rfl hth3 (by kernel_rfl) (by simp [Value.oneCell']) ?_)
    refine bodyPost_ret (v := .tuple #[x.v, .bool true]) (resultsR_slot rfl _ _ w.heap.size [V x.a, V x.b, V x.c, V x.d] _ rfl (World.rangeAt_setCells_same _ _ 0 _ hth3) Tryd.underlying24 rfl (by kernel_rfl) rfl) rfl ⟨?_, .inl ⟨HOK.out, by rw [HX.out]⟩⟩
    exact setCellsR_bel HB3.out (Nat.le_refl _)
  · have UT2 := Lib.hid (UT.mono fun e w' h => h.no h0)
    have HOK := Lib.hid h0
    clear UT h0
    go_enter Tryd.func11, Tryd.ntmps11
    go_wp2_with fail
    refine UT2.out.mono ?_
    rintro e w2 ⟨hbut, t, u, rfl⟩
    have HB2 := Lib.hid (HBB.out w2 hbut)
    have hth2 := HTB.out w2 hbut
    clear hbut
    go_wp2_with fail
    refine (checkedR_bad _ t u _).mono ?_
    rintro e w3 ⟨rfl, hb3⟩
    have hth3 := thereR_bel hth2 (by omega) hb3
    have HB3 := Lib.hid (bel_trans HB2.out hb3)
    clear hb3
    go_wp2_with (show wpList _ _ _ (⟨none, Op.store 24 _ _, _, _, _, _⟩ :: _) _ _; refine wpList_store_mid (op := ⟨none, Op.store 24 (.tmp 2) (.tmp 14), _, _, _, _⟩) rfl 24 _ _ rfl w.heap.size 0 [V zeroR.a, V zeroR.b, V zeroR.c, V zeroR.d].toArray rfl rfl hth3 (by kernel_rfl) (by simp [Value.oneCell']) ?_)
    refine bodyPost_ret (v := .tuple #[zeroR.v, .bool false]) (resultsR_slot rfl _ _ w.heap.size [V zeroR.a, V zeroR.b, V zeroR.c, V zeroR.d] _ rfl (World.rangeAt_setCells_same _ _ 0 _ hth3) Tryd.underlying24 rfl (by kernel_rfl) rfl) rfl ⟨?_, .inr ⟨HOK.out, rfl⟩⟩
    exact setCellsR_bel HB3.out (Nat.le_refl _)
theorem implReadJson_quoted (a ah : Nat → Addr) (m : List UInt8) (w : World) (hE : TxtW a ah w) (hm : m.length ≤ 70000) :
    Calls Tryd.prog 11 #[.string ⟨(34 :: (m ++ [34])).toArray⟩] w fun e w' => Below w.heap.size w w' ∧ ((TxtOk m ∧ e = .returned (.tuple #[(ofN (txtN m)).v, .bool true])) ∨ (¬ TxtOk m ∧ e = .returned (.tuple #[zeroR.v, .bool false]))) :=
  readJson_wrap _ _ _ w fun v w1 hs hz fz hb => unmJson_quoted a ah _ _ m v w1 hz fz hs hm (hE.decE hb _ (by omega)) (hE.hex.bel hb) (by have := hE.lt; omega)
theorem implReadJson_plain (a : Nat → Addr) (s : List UInt8) (w : World) (hE : DecM a w) (h34 : s[0]? ≠ some 34) (hl : s.length ≤ 70000) :
    Calls Tryd.prog 11 #[.string ⟨s.toArray⟩] w fun e w' => Below w.heap.size w w' ∧ ((DecOk s ∧ e = .returned (.tuple #[(ofN (dv (unplus s))).v, .bool true])) ∨ (¬ DecOk s ∧ e = .returned (.tuple #[zeroR.v, .bool false]))) :=
  readJson_wrap _ _ _ w fun v w1 hs hz fz hb => unmJson_plain a _ _ s v w1 hz fz hs h34 hl (hE.away hb _ (by omega))
end Go.Proofs.YtfaocjcpnjmfiaaDoor
/-
  Decimal digits as texts: what the readers make of them: plain law.
-/
set_option linter.unusedVariables false
namespace Go.Proofs.YtfaocjcpnjmfiaaDoor
open Go.Lib
theorem digits_dv : ∀ n : Nat, Decs (decDigits n) ∧ dv (decDigits n) = n ∧ decDigits n ≠ [] := by
  intro n
  induction n using Nat.strongRecOn with
  | ind n ih =>
    by_cases h : n < 10
    · have e : decDigits n = [UInt8.ofNat (48 + n)] := by rw [decDigits, dif_pos h]
      have hv : (UInt8.ofNat (48 + n)).toNat = 48 + n := by rw [UInt8.toNat_ofNat']; omega
      rw [e]
      refine ⟨fun c hc => ?_, ?_, by simp⟩
      · rw [List.mem_singleton] at hc
        subst hc
        rw [hv]
        omega
      · show 10 * 0 + ((UInt8.ofNat (48 + n)).toNat - 48) = n
        rw [hv]
        omega
    · have e : decDigits n = decDigits (n / 10) ++ [UInt8.ofNat (48 + n % 10)] := by rw [decDigits, dif_neg h]
      have hv : (UInt8.ofNat (48 + n % 10)).toNat = 48 + n % 10 := by rw [UInt8.toNat_ofNat']; omega
      obtain ⟨i1, i2, i3⟩ := ih (n / 10) (by omega)
      rw [e]
      refine ⟨(decs_append _ _).2 ⟨i1, fun c hc => ?_⟩, ?_, by simp⟩
      · rw [List.mem_singleton] at hc
        subst hc
        rw [hv]
        omega
      · rw [dv_snoc, i2, hv]
        omega
theorem decs_plain {l : List UInt8} (hd : Decs l) : unplus l = l ∧ isPre l = false ∧ l[0]? ≠ some 34 := by
  have hh : ∀ (i : Nat) (c : UInt8), l[i]? = some c → 48 ≤ c.toNat ∧ c.toNat ≤ 57 := fun i c h => hd c (List.mem_of_getElem? h)
  refine ⟨?_, ?_, fun h => by have := hh 0 34 h; revert this; decide⟩
  · unfold unplus
    rw [if_neg (fun h => by have := hh 0 43 h; revert this; decide)]
  · rcases l with _ | ⟨c0, _ | ⟨c1, t⟩⟩
    · rfl
    · rfl
    · have h1 := hh 1 c1 rfl
      have e1 : (c1 == 120) = false := by rw [beq_eq_false_iff_ne]; rintro rfl; revert h1; decide
      have e2 : (c1 == 88) = false := by rw [beq_eq_false_iff_ne]; rintro rfl; revert h1; decide
      show (c0 == 48 && (c1 == 120 || c1 == 88)) = false
      rw [e1, e2]
      simp
/-- The digits of a number below 2^256. -/
theorem digits_read (n : Nat) (h : n < 2 ^ 256) : DecOk (decDigits n) ∧ dv (unplus (decDigits n)) = n ∧ TxtOk (decDigits n) ∧ txtN (decDigits n) = n ∧ (decDigits n)[0]? ≠ some 34 := by
  obtain ⟨h1, h2, h3⟩ := digits_dv n
  obtain ⟨k1, k2, k3⟩ := decs_plain h1
  have hok : DecOk (decDigits n) := by
    unfold DecOk
    rw [k1, h2]
    exact ⟨h3, h1, h⟩
  refine ⟨hok, by rw [k1, h2], ?_, ?_, k3⟩
  · unfold TxtOk
    rw [if_neg (by rw [k2]; simp)]
    exact hok
  · unfold txtN
    rw [if_neg (by rw [k2]; simp), k1, h2]
/-- A text that begins with 0x is no decimal one. -/
theorem hex_plain (t : List UInt8) : ¬ DecOk (48 :: 120 :: t) ∧ (48 :: 120 :: t)[0]? ≠ some 34 := by
  refine ⟨fun h => ?_, by simp⟩
  have e : unplus (48 :: 120 :: t) = 48 :: 120 :: t := by unfold unplus; rw [if_neg (by simp)]
  have := h.2.1
  rw [e] at this
  have h1 := this 120 (by simp)
  revert h1
  decide
end Go.Proofs.YtfaocjcpnjmfiaaDoor
/-
  What the decimal readers ask of the memory, off the row's own list of variables: the errors are there, the multipliers are powers of ten.
-/
set_option linter.unusedVariables false
set_option linter.unusedSimpArgs false
namespace Go.Proofs.YtfaocjcpnjmfiaaDoor
open Go.RowKit Go.Lib
theorem errCell {w : World} {n nm : String} {d : DataW Unit} {g : Nat} (h : VarReads Tryd.prog w n (.iface nm d)) (hg : Tryd.prog.globalNamed n = some g) (ht : (Tryd.prog.globals[g]?).map (·.type) = some 36) : ∃ t u, w.cell? ⟨g, 0, none⟩ = some (.iface t u) := by
  obtain ⟨g', t, cs, fuel, p, hg', hty, hvar, hd⟩ := h
  obtain rfl := Option.some.inj (hg.symm.trans hg')
  obtain rfl := Option.some.inj (ht.symm.trans hty)
  obtain ⟨_, u, v, hcs, _, _⟩ := iface_of_trod Tryd.underlying36 hd
  refine ⟨u, v, ?_⟩
  rw [World.var?_cell hg hvar 0, ← Array.getElem?_toList, hcs]
  rfl
theorem nilPtr {P : Program} {w : World} {fuel : Nat} {t e : TypeId} {cs : List Value} {p : List MemPlace} (ht : P.underlying t = some (.pointer e))
    (h : DataW.trod (fun _ => ()) P w 0 (fun _ => true) false fuel t cs = some (.nil, p)) : cs = [.pointer none] := by
  cases fuel with
  | zero => simp [DataW.trod] at h
  | succ fuel =>
    match cs with
    | [] => simp [DataW.trod, ht] at h
    | _ :: _ :: _ => simp [DataW.trod, ht] at h
    | [c] =>
      cases c <;> simp [DataW.trod, ht] at h
      rename_i o
      cases o with
      | none => rfl
      | some a =>
        simp only [Option.bind_eq_some_iff, Function.comp, Option.map_eq_some_iff, Prod.mk.injEq] at h
        obtain ⟨_, _, _, _, h, _⟩ := h
        cases h
/-- The words of a multiplier. -/
def mulW (j : Nat) : List Int := (List.range 4).map fun i => ((10 ^ (19 * j) / 2 ^ (64 * i) % 2 ^ 64 : Nat) : Int)
theorem mul_datum : (Rows.laid_loop_example_pub_g03023_pub_uint256_multipliers : DataW Unit) = .agg [.nil, .ptr (tabData .u64 (mulW 1)), .ptr (tabData .u64 (mulW 2)), .ptr (tabData .u64 (mulW 3)), .ptr (tabData .u64 (mulW 4))] := by kernel_rfl
theorem cells4 {w : World} {a : Addr} {l : List Value} (h : w.cells? 0 a 4 = some l) (hl : l.length = 4) : a.spot = none ∧ ∀ i, i < 4 → w.cell? ⟨a.block, a.off + i, none⟩ = l[i]? := by
  unfold World.cells? at h
  rw [if_pos (Nat.zero_le _)] at h
  have h4 : (List.range 4) = [0, 1, 2, 3] := rfl
  rw [h4] at h
  simp only [List.mapM_cons, List.mapM_nil, Option.pure_def, Option.bind_eq_bind, Option.bind_eq_some_iff] at h
  obtain ⟨c0, e0, t1, ⟨c1, e1, t2, ⟨c2, e2, t3, ⟨c3, e3, t4, h5, h6⟩, h7⟩, h8⟩, h9⟩ := h
  simp at h5 h6 h7 h8 h9
  subst h5 h6 h7 h8 h9
  have hs : a.spot = none := by
    rw [show a.add 0 = a from rfl] at e0
    unfold World.cell? at e0
    split at e0
    · rcases hsp : a.spot with _ | x
      · rfl
      · rw [hsp] at e0; simp at e0
    · cases e0
  refine ⟨hs, fun i hi => ?_⟩
  obtain ⟨ab, ao, asp⟩ := a
  simp only at hs
  subst hs
  match i, hi with
  | 0, _ => exact e0
  | 1, _ => exact e1
  | 2, _ => exact e2
  | 3, _ => exact e3
theorem mul_of {w : World} (h : VarReads Tryd.prog w "loop.example/pub-g03023/pub/uint256.multipliers" Rows.laid_loop_example_pub_g03023_pub_uint256_multipliers) : ∃ a, MulT a w := by
  obtain ⟨g, t, cs, fuel, p, hg, hty, hvar, hd⟩ := h
  obtain rfl := Option.some.inj ((show Tryd.prog.globalNamed "loop.example/pub-g03023/pub/uint256.multipliers" = some 3 by kernel_rfl).symm.trans hg)
  obtain rfl := Option.some.inj ((show (Tryd.prog.globals[3]?).map (·.type) = some 58 by kernel_rfl).symm.trans hty)
  rw [mul_datum] at hd
  have cell1 : Tryd.prog.cellsOf 34 = 1 := by kernel_rfl
  have cell4 : Tryd.prog.cellsOf 43 = 4 := by kernel_rfl
  have one : ∀ j, 1 ≤ j → j ≤ 4 → ∃ a : Addr, w.cell? ⟨3, j, none⟩ = some (.pointer (some ⟨a.block, a.off, none⟩)) ∧ At4 w a.block a.off (ofN (10 ^ (19 * j))) := fun j h1 h2 => by
    obtain ⟨fuel', d, q, hdi, he⟩ := array_elem (t := 58) (e := 34) (n := 5) (by kernel_rfl) hd j (by omega)
    have hdj : d = .ptr (tabData .u64 (mulW j)) := by
      rcases (by omega : j = 1 ∨ j = 2 ∨ j = 3 ∨ j = 4) with rfl | rfl | rfl | rfl <;> simpa using hdi.symm
    subst hdj
    rw [cell1, Nat.mul_one] at he
    obtain ⟨fuel2, a, cs', q2, hcs, hc4, he2, _⟩ := ptr_of_trod Tryd.underlying34 he
    rw [cell4] at hc4
    have hw := cells_of_tab (t := 43) (e := 22) (n := 4) (k := .u64) (by kernel_rfl) (by kernel_rfl) (by kernel_rfl) (by kernel_rfl) he2
    obtain ⟨hsp, hcell⟩ := cells4 hc4 (by rw [hw]; simp [mulW])
    obtain ⟨ab, ao, asp⟩ := a
    simp only at hsp hcell
    subst hsp
    refine ⟨⟨ab, ao, none⟩, ?_, ?_⟩
    · have e0 := congrArg (·[0]?) hcs
      simp only [List.getElem?_take, List.getElem?_drop, Nat.zero_lt_one, if_true, Nat.add_zero] at e0
      rw [World.var?_cell hg hvar j, ← Array.getElem?_toList, e0]
      rfl
    · rw [hw] at hcell
      have k0 := hcell 0 (by omega)
      have k1 := hcell 1 (by omega)
      have k2 := hcell 2 (by omega)
      have k3 := hcell 3 (by omega)
      simp only [mulW, List.getElem?_map, List.getElem?_range (show (0 : Nat) < 4 by omega), List.getElem?_range (show (1 : Nat) < 4 by omega), List.getElem?_range (show (2 : Nat) < 4 by omega), List.getElem?_range (show (3 : Nat) < 4 by omega), Option.map_some] at k0 k1 k2 k3
      obtain ⟨P, hP⟩ : ∃ P, P = 10 ^ (19 * j) := ⟨_, rfl⟩
      rw [← hP] at k0 k1 k2 k3 ⊢
      have wd : ∀ n : Nat, V (BitVec.ofNat 64 n) = .int .u64 ((n % 2 ^ 64 : Nat) : Int) := fun n => by
        show Value.int .u64 (U (BitVec.ofNat 64 n)) = _
        unfold U
        rw [BitVec.toNat_ofNat]
      refine ⟨?_, ?_, ?_, ?_⟩
      · rw [show (ofN P).a = BitVec.ofNat 64 P from rfl, wd]
        simpa using k0
      · rw [show (ofN P).b = BitVec.ofNat 64 (P / 2 ^ 64) from rfl, wd]
        simpa using k1
      · rw [show (ofN P).c = BitVec.ofNat 64 (P / 2 ^ 128) from rfl, wd]
        simpa using k2
      · rw [show (ofN P).d = BitVec.ofNat 64 (P / 2 ^ 192) from rfl, wd]
        simpa using k3
  have c0 : w.cell? ⟨3, 0, none⟩ = some (.pointer none) := by
    obtain ⟨fuel', d, q, hdi, he⟩ := array_elem (t := 58) (e := 34) (n := 5) (by kernel_rfl) hd 0 (by omega)
    have hdj : d = .nil := by simpa using hdi.symm
    subst hdj
    rw [cell1, Nat.mul_one] at he
    have hn : (cs.toList.drop 0).take 1 = [.pointer none] := nilPtr Tryd.underlying34 he
    have e0 := congrArg (·[0]?) hn
    simp only [List.getElem?_take, List.getElem?_drop, Nat.zero_lt_one, if_true, Nat.add_zero] at e0
    rw [World.var?_cell hg hvar 0, ← Array.getElem?_toList, e0]
    rfl
  obtain ⟨a1, p1, q1⟩ := one 1 (by omega) (by omega)
  obtain ⟨a2, p2, q2⟩ := one 2 (by omega) (by omega)
  obtain ⟨a3, p3, q3⟩ := one 3 (by omega) (by omega)
  obtain ⟨a4, p4, q4⟩ := one 4 (by omega) (by omega)
  refine ⟨fun j => if j = 1 then a1 else if j = 2 then a2 else if j = 3 then a3 else a4, c0, fun j h1 h2 => ?_, fun j h1 h2 => ?_⟩
  · rcases (by omega : j = 1 ∨ j = 2 ∨ j = 3 ∨ j = 4) with rfl | rfl | rfl | rfl
    · exact p1
    · exact p2
    · exact p3
    · exact p4
  · rcases (by omega : j = 1 ∨ j = 2 ∨ j = 3 ∨ j = 4) with rfl | rfl | rfl | rfl
    · exact q1
    · exact q2
    · exact q3
    · exact q4
theorem decW_of {w : World} (h1 : VarReads Tryd.prog w "strconv.ErrSyntax" Rows.laid_strconv_ErrSyntax) (h2 : VarReads Tryd.prog w "io.EOF" Rows.laid_io_EOF) (h3 : VarReads Tryd.prog w "loop.example/pub-g03023/pub/uint256.ErrBig256Range" Rows.laid_loop_example_pub_g03023_pub_uint256_ErrBig256Range) (h4 : VarReads Tryd.prog w "loop.example/pub-g03023/pub/uint256.multipliers" Rows.laid_loop_example_pub_g03023_pub_uint256_multipliers) : ∃ a, DecM a w := by
  obtain ⟨a, hm⟩ := mul_of h4
  exact ⟨a, errCell h1 (by kernel_rfl) (by kernel_rfl), hm, errCell h2 (by kernel_rfl) (by kernel_rfl), errCell h3 (by kernel_rfl) (by kernel_rfl)⟩
end Go.Proofs.YtfaocjcpnjmfiaaDoor
namespace Go.Proofs.YtfaocjcpnjmfiaaDoor.fnReadJsonPlain
open Go.ChangeShapes Go.WideShapes Go.ChangeAt Go.RowKit Go.Lib
set_option linter.unusedVariables false
set_option linter.unusedSimpArgs false

set_option maxRecDepth 20000 in
set_option maxHeartbeats 4000000 in
theorem walk (x : N4) (w : World) (a : Nat → Addr) (hD : DecM a w) : Calls Tryd.prog 5 #[x.v] w (RetBel (.bool true) w) := by
  obtain ⟨d1, d2, _, _, d5⟩ := digits_read x.toNat (toNat_lt x)
  obtain ⟨k1, k2⟩ := hex_plain (hexs x.nh x.toNat)
  have hh : hexText x = 48 :: 120 :: hexs x.nh x.toNat := rfl
  rw [← hh] at k1 k2
  have dl : (Lib.decDigits x.toNat).length ≤ 70000 := by
    rw [Lib.decDigits_length]
    have := nDigits_le 78 x.toNat (by omega) (Nat.lt_of_lt_of_le (toNat_lt x) (by decide))
    omega
  have hl : (hexText x).length ≤ 70000 := by
    rw [hh]
    have := (nh_le x).2
    simp only [List.length_cons, hexs_len]
    omega
  have DE : Hid (∀ w, Calls Tryd.prog 12 #[x.v] w (RetBel (.string ⟨(Lib.decDigits x.toNat).toArray⟩) w)) := fun w => decimal_any x w
  have HE : Hid (∀ w, Calls Tryd.prog 13 #[x.v] w (RetBel (.string ⟨(hexText x).toArray⟩) w)) := fun w => specHex_any x w
  have RJ : Hid (∀ w2, Below w.heap.size w w2 → Calls Tryd.prog 11 #[.string ⟨(Lib.decDigits x.toNat).toArray⟩] w2 fun e w' => e = .returned (.tuple #[x.v, .bool true]) ∧ Below w2.heap.size w2 w') := fun w2 hb =>
    (implReadJson_plain a _ w2 (hD.bel hb) d5 dl).mono fun e w' ⟨hb, h⟩ => ⟨by
      rcases h with ⟨_, h⟩ | ⟨h, _⟩
      · rw [d2, ofN_self] at h; exact h
      · exact absurd d1 h, hb⟩
  have RH : Hid (∀ w2, Below w.heap.size w w2 → Calls Tryd.prog 11 #[.string ⟨(hexText x).toArray⟩] w2 fun e w' => e = .returned (.tuple #[zeroR.v, .bool false]) ∧ Below w2.heap.size w2 w') := fun w2 hb =>
    (implReadJson_plain a _ w2 (hD.bel hb) k2 hl).mono fun e w' ⟨hb, h⟩ => ⟨by
      rcases h with ⟨h, _⟩ | ⟨_, h⟩
      · exact absurd h k1
      · exact h, hb⟩
  obtain ⟨S, hS⟩ : ∃ S : ByteArray, S = ⟨(Lib.decDigits x.toNat).toArray⟩ := ⟨_, rfl⟩
  obtain ⟨T, hT⟩ : ∃ T : ByteArray, T = ⟨(hexText x).toArray⟩ := ⟨_, rfl⟩
  rw [← hS] at DE RJ
  rw [← hT] at HE RH
  have ex := eqb_self x
  clear d1 d2 d5 k1 k2 hh dl hl hD hS hT
  go_enter Tryd.func5, Tryd.ntmps5
  have hx1 : At4 (w.alloc (.cells #[V x.a, V x.b, V x.c, V x.d] 24)) w.heap.size 0 x := by constructor <;> simp [go_sem]
  have HX1 := Lib.hid hx1
  clear hx1
  go_wp2_with fail
  refine (DE.out _).mono ?_
  rintro e w2 ⟨rfl, hb2⟩
  have HB2 := Lib.hid (bel_trans (bel_alloc (bel_refl w) (.cells #[V x.a, V x.b, V x.c, V x.d] 24)) hb2)
  have HX2 := Lib.hid (HX1.out.bel hb2)
  clear hb2 HX1
  go_wp2_with fail
  refine (RJ.out _ HB2.out).mono ?_
  rintro e w3 ⟨rfl, hb3⟩
  have HB3 := Lib.hid (bel_trans HB2.out hb3)
  have HX3 := Lib.hid (HX2.out.bel hb3)
  obtain ⟨p0, p1, p2, p3⟩ := HX2.out.bel hb3
  simp only [Nat.zero_add] at p1 p2 p3
  have hlt3 : w.heap.size < w3.heap.size := HX3.out.lt
  clear hb3 HX2
  go_wp2_with fail
  refine (HE.out _).mono ?_
  rintro e w4 ⟨rfl, hb4⟩
  have HB4 := Lib.hid (bel_trans (bel_alloc HB3.out (.cells #[V x.a, V x.b, V x.c, V x.d] 24)) hb4)
  have hx3 : At4 (w3.alloc (.cells #[V x.a, V x.b, V x.c, V x.d] 24)) w3.heap.size 0 x := by constructor <;> simp [go_sem]
  have HX4 := Lib.hid ((HX3.out.alloc (.cells #[V x.a, V x.b, V x.c, V x.d] 24)).bel hb4)
  have HY4 := Lib.hid (hx3.bel hb4)
  clear hb4 hx3 HX3 p0 p1 p2 p3
  go_wp2_with fail
  refine (RH.out _ HB4.out).mono ?_
  rintro e w5 ⟨rfl, hb5⟩
  have HB5 := Lib.hid (bel_trans HB4.out hb5)
  have X5 := HX4.out.bel hb5
  have Y5 := HY4.out.bel hb5
  have hltx := X5.lt
  have hlty := Y5.lt
  obtain ⟨p0, p1, p2, p3⟩ := X5
  obtain ⟨q0, q1, q2, q3⟩ := Y5
  simp only [Nat.zero_add] at p1 p2 p3 q1 q2 q3
  clear hb5
  go_wp2
  go_ret
  exact retBel rfl (bel_alloc HB5.out _)

theorem trodVars_len {H : Type} {enc : TypeId × Value → H} {P : Program} {W : World} {sp : Nat → Bool} : ∀ {ns : List String} {gs : List (DataW H)} {ps : List MemPlace}, DataW.TrodVars enc P W sp ns gs ps → gs.length = ns.length
  | [], [], _, _ => rfl
  | [], _ :: _, _, h => h.elim
  | _ :: _, [], _, h => h.elim
  | _ :: _, _ :: _, _, h => by
    obtain ⟨g, t, cs, fuel, p, q, h1, h2, h3, h4, hs, e⟩ := h
    simp [trodVars_len hs]
theorem own : ownKnob Tryd.prog.godebug = none := by kernel_rfl
theorem laidOut : laidOutB Tryd.prog = true := by kernel_rfl
theorem door_met (os : Os) (args : Array Value) : laidMetH Tryd.prog Rows.fnReadJsonPlainRow.laid ((World.doorLaid Tryd.prog 400 os).forCall (fun _ _ => 0) ⟨#[], args, []⟩).memory :=
  laidMetH_of_parts3 (fuel := 8) (laidMet_of_run' 8 (by kernel_rfl) (by kernel_rfl)) (by kernel_rfl) (by kernel_rfl)
set_option maxRecDepth 100000 in
theorem lifted (os : Os) (started : os.Started) (H : Type) (enc : TypeId × Value → H) :
    ReturnsInHanded {} Tryd.checked os 5 .any (fun w args => (Rows.fnReadJsonPlainSpec.pre enc Tryd.prog Tryd.f5 [] false w args ∧ laidMetH Tryd.prog Rows.fnReadJsonPlainRow.laid w) ∧ sizedMet enc Tryd.prog Tryd.f5 (OpenSpec.ofChange Rows.fnReadJsonPlainSpec) false w args)
      (Rows.fnReadJsonPlainSpec.post enc Tryd.prog Tryd.f5 false true false false) := by
  refine returnsInHanded_of_change_and (C := Tryd.checked) (X := fun w _ => laidMetH Tryd.prog Rows.fnReadJsonPlainRow.laid w) (fun _ _ _ hh h => h.of_heap hh) own started (by kernel_rfl) Tryd.func5
    (ChangeSpec.witness_shaped (enc := enc) (C := Tryd.checked) (os := os) (X := fun w _ => laidMetH Tryd.prog Rows.fnReadJsonPlainRow.laid w) false (World.doorLaid Tryd.prog 400 os) #[.agg #[.int .u64 0, .int .u64 0, .int .u64 0, .int .u64 0]] 8 rfl (World.shaped_of_RefB (by kernel_rfl) (by kernel_rfl)) (by kernel_rfl) (by kernel_rfl) (by kernel_rfl) (door_met os _)) ?_
  intro W base args ds gs before hval0 hW _ _ hL _
  have hval : ∀ (j : Nat) t v, Tryd.f5.params[j]? = some t → args[j]? = some v → Value.okWide Tryd.prog W .any base t v := hval0
  have hW' := hW
  obtain ⟨p, q, hA0, hV, rfl, hfz, hnd⟩ := hW
  have hA : DataW.TrodAll enc Tryd.prog W 0 (fun _ => true) true Tryd.f5.params.toList args.toList ds p := hA0
  rw [Tryd.params5] at hA hval
  obtain ⟨v0, vs0, d0, ds0, p0, q0, hargs, rfl, rfl, h0, r0⟩ := trodAll_cons hA
  obtain ⟨rfl, rfl, rfl⟩ := trodAll_nil r0
  obtain rfl : args = #[v0] := by cases args; simp_all
  have k0 := h0
  have lt0 : ∀ x ∈ p0, x.block < W.heap.size := by obtain ⟨m, hm⟩ := k0; exact DataW.trod_lt m _ _ _ hm
  obtain ⟨x0, rfl⟩ := open_num (hval 0 24 v0 rfl rfl)
  have hlen := trodVars_len hV
  obtain ⟨z0, z1, z2, z3, z4, z5, z6, rfl⟩ : ∃ z0 z1 z2 z3 z4 z5 z6, gs = [z0, z1, z2, z3, z4, z5, z6] := by
    match gs, hlen with
    | [z0, z1, z2, z3, z4, z5, z6], _ => exact ⟨z0, z1, z2, z3, z4, z5, z6, rfl⟩
  clear hA0 hval0
  have hL2 : laidMet Tryd.prog Rows.fnReadJsonPlainRow.laid W := by rw [← MakeChecks.laidMetH_plain _ _ _ (by kernel_rfl)]; exact hL
  obtain ⟨a, hD⟩ := decW_of (Go.Lib.laidMet.reads hL2 (List.mem_cons_of_mem _ (List.mem_cons_of_mem _ (List.mem_cons_of_mem _ (List.mem_cons_of_mem _ (List.mem_cons_self)))))) (Go.Lib.laidMet.reads hL2 (List.mem_cons_of_mem _ (List.mem_cons_of_mem _ (List.mem_cons_of_mem _ (List.mem_cons_of_mem _ (List.mem_cons_of_mem _ (List.mem_cons_self))))))) (Go.Lib.laidMet.reads hL2 (List.mem_cons_of_mem _ (List.mem_cons_of_mem _ (List.mem_cons_of_mem _ (List.mem_cons_of_mem _ (List.mem_cons_of_mem _ (List.mem_cons_of_mem _ (List.mem_cons_of_mem _ (List.mem_cons_of_mem _ (List.mem_cons_of_mem _ (List.mem_cons_of_mem _ (List.mem_cons_of_mem _ (List.mem_cons_self))))))))))))) (Go.Lib.laidMet.reads hL2 (List.mem_cons_of_mem _ (List.mem_cons_of_mem _ (List.mem_cons_of_mem _ (List.mem_cons_of_mem _ (List.mem_cons_of_mem _ (List.mem_cons_of_mem _ (List.mem_cons_of_mem _ (List.mem_cons_of_mem _ (List.mem_cons_of_mem _ (List.mem_cons_of_mem _ (List.mem_cons_of_mem _ (List.mem_cons_of_mem _ (List.mem_cons_self))))))))))))))
  refine (walk x0 W a hD).mono fun e W' ⟨he, bel⟩ => ?_
  subst he
  exact ⟨_, rfl, _, _, _, [], _, _, hW', trodAll_mk1 (shut_bool Tryd.underlying4 _), (trodAll_cons_mk (Below.trod laidOut (by kernel_rfl) (of_decide_eq_true (by kernel_rfl)) k0 bel lt0) trodAll_mk0), Below.trodVars laidOut bel (by kernel_rfl) hV, bel.frame _, fun h => by cases h⟩
theorem row_holds : Rows.FnReadJsonPlainSaid :=
  OpenClaim.holds_of_wide 5 Tryd.f5 rfl rfl rfl rfl rfl rfl rfl ⟨rfl, rfl, rfl, rfl, rfl⟩ rfl rfl rfl rfl rfl (by kernel_rfl) Tryd.func5 (by kernel_rfl)
    (of_decide_eq_true (by kernel_rfl)) (by unfold Func.isWrapper; first | (rw [if_pos (by decide +kernel)]; kernel_rfl) | (rw [if_neg (by decide +kernel)]; exact ⟨rfl, rfl⟩))
    (fun os started H enc _ => lifted os started H enc)
theorem holds : Rows.FnReadJsonPlainCardSaid :=
  Claim7.holds_tied_plain_at .later [] _ true _ true
    row_holds (fun _ h => by cases h) (by kernel_rfl) (fun _ h => by cases h) fnReadJsonPlain_row_tie rfl ⟨rfl, rfl⟩ (by kernel_rfl) rfl
    (fun f fn hf hfn => by
      obtain rfl : f = 5 := Option.some.inj ((show Tryd.prog.funcNamed "loop.example/pub-g03023/laws.FnReadJsonPlain" = some 5 by kernel_rfl).symm.trans hf) |>.symm
      obtain rfl : fn = Tryd.f5 := (Option.some.inj (Tryd.func5.symm.trans hfn)).symm
      exact ⟨by kernel_rfl, fun j t ht => by
        rw [Tryd.params5] at ht
        have hm : t ∈ [24] := by simpa using Array.mem_of_getElem? ht
        have hall : ([24].all fun u => !Tryd.prog.wantsStandIn u) = true := by kernel_rfl
        exact (show Tryd.prog.wantsStandIn t = false by simpa using List.all_eq_true.1 hall t hm)⟩)
    (by kernel_rfl)
#print axioms holds
end Go.Proofs.YtfaocjcpnjmfiaaDoor.fnReadJsonPlain
