/-
  For every text: UnmarshalText takes digits of sixteen behind 0x, or decimal ones, as the reference does, and refuses all others (the card FnReadTextIsCardSaid; the listed variables hold what the text lays into them, which the card ties).
-/
import Derived.Test.YtfaocjcpnjmfiaaDoorEql
import Derived.Test.YtfaocjcpnjmfiaaDoorBunT
import Derived.Test.YtfaocjcpnjmfiaaDoorBunS
import Derived.Test.YtfaocjcpnjmfiaaDoorRows
import Derived.Test.YtfaocjcpnjmfiaaDoorTie
import Derived.Test.YtfaocjcpnjmfiaaDoorCards
import Derived.Test.YtfaocjcpnjmfiaaDoorOpen
import Derived.ProofKit
import Derived.LaidMore
import Derived.OpenShut
import Derived.OpenVars
import Derived.Stop.Joined
import Derived.SevenTiedAt
import Derived.Lib.LaidU8
import Derived.LaidLaws
import Derived.Lib.LaidTab
import Derived.Stop.LaidErr
/-
  The reference's OfText.
-/
set_option linter.unusedVariables false
set_option linter.unusedSimpArgs false
namespace Go.Proofs.YtfaocjcpnjmfiaaDoor
open Go.RowKit
theorem faults_none (s : List UInt8) (hp : isPre s = true) : specFaults s = [] ↔ hexFault s = 0 := by
  unfold specFaults hexFault
  by_cases h1 : s = []
  · rw [h1] at hp; cases hp
  · have hpf : ¬ isPre s = false := by rw [hp]; simp
    rw [if_neg h1, if_neg h1, if_neg hpf, if_neg hpf]
    have hl := isPre_len s hp
    by_cases h3 : s.length = 2
    · rw [if_pos h3, if_pos (List.drop_eq_nil_of_le (by omega))]; simp
    · rw [if_neg h3, if_neg (fun e => h3 (by have := congrArg List.length e; simp at this; omega))]
      have e1 : (s.drop 2)[0]? = s[2]? := by rw [List.getElem?_drop]
      have e2 : (s.drop 2).length = s.length - 2 := List.length_drop
      rw [e1, e2]
      have c1 : (1 < s.length - 2 ∧ s[2]? = some 48) ↔ (3 < s.length ∧ s[2]? = some 48) := by constructor <;> rintro ⟨a, b⟩ <;> exact ⟨by omega, b⟩
      have c2 : (64 < s.length - 2) ↔ 66 < s.length := by omega
      by_cases k1 : 3 < s.length ∧ s[2]? = some 48
      · rw [if_pos (c1.2 k1), if_pos k1]; simp
      · rw [if_neg (fun h => k1 (c1.1 h)), if_neg k1]
        by_cases k2 : 66 < s.length
        · rw [if_pos (c2.2 k2), if_pos k2]; simp
        · rw [if_neg (fun h => k2 (c2.1 h)), if_neg k2]
          by_cases k3 : Nibs (s.drop 2)
          · rw [if_pos k3, if_pos k3]; simp
          · rw [if_neg k3, if_neg k3]; simp
set_option maxHeartbeats 4000000 in
set_option maxRecDepth 20000 in
theorem ofText_any (s : List UInt8) (w : World) (hmax : s.length ≤ 65536) : Calls Tryd.prog 9 #[.string ⟨s.toArray⟩] w fun e w' => Below w.heap.size w w' ∧
    ((TxtOk s ∧ e = .returned (.tuple #[(ofN (txtN s)).v, .bool true])) ∨ (¬ TxtOk s ∧ e = .returned (.tuple #[zeroR.v, .bool false]))) := by
  have hth := thereR_z w
  have IP := Lib.hid (isPrefixed_any s)
  cases hp : isPre s
  · rw [hp] at IP
    have OD := Lib.hid (ofDecimal_any s (w.alloc Z4R) hmax)
    obtain ⟨x, f, OK, HF⟩ : ∃ (x : N4) (f : Bool), Hid (Calls Tryd.prog 7 #[.string ⟨s.toArray⟩] (w.alloc Z4R) fun e w' => Below (w.alloc Z4R).heap.size (w.alloc Z4R) w' ∧ e = .returned (.tuple #[x.v, .bool f])) ∧
        Hid ((TxtOk s ∧ x = ofN (txtN s) ∧ f = true) ∨ (¬ TxtOk s ∧ x = zeroR ∧ f = false)) := by
      have e1 : TxtOk s ↔ DecOk s := by unfold TxtOk; rw [if_neg (by rw [hp]; simp)]
      have e2 : txtN s = dv (unplus s) := by unfold txtN; rw [if_neg (by rw [hp]; simp)]
      by_cases h0 : DecOk s
      · refine ⟨ofN (txtN s), true, OD.out.mono fun e w' ⟨hb, h⟩ => ⟨hb, ?_⟩, .inl ⟨e1.2 h0, rfl, rfl⟩⟩
        rcases h with ⟨_, h⟩ | ⟨h, _⟩
        · rw [e2]; exact h
        · exact absurd h0 h
      · refine ⟨zeroR, false, OD.out.mono fun e w' ⟨hb, h⟩ => ⟨hb, ?_⟩, .inr ⟨fun k => h0 (e1.1 k), rfl, rfl⟩⟩
        rcases h with ⟨h, _⟩ | ⟨_, h⟩
        · exact absurd h h0
        · exact h
    clear OD hp
    go_enter Tryd.func9, Tryd.ntmps9
    go_wp2_with (first
      | (go_at_call 21; refine (IP.out _).mono ?_; rintro e w1 ⟨rfl, hw1⟩; have hw1 := hw1.symm; subst hw1)
      | (go_at_call 7; refine OK.out.mono ?_; rintro e w2 ⟨hb2, rfl⟩; have HB2 := Lib.hid hb2; have hth2 := thereR_bel hth (by omega) hb2; clear hb2)
      | (show wpList _ _ _ (⟨none, Op.store 24 _ _, _, _, _, _⟩ :: _) _ _; refine wpList_store_mid (op := ⟨none, Op.store 24 (.tmp 2) (.tmp 19), _, _, _, _⟩) rfl 24 _ _ rfl w.heap.size 0 [V x.a, V x.b, V x.c, V x.d].toArray rfl rfl hth2 (by kernel_rfl) (by simp [Value.oneCell']) ?_))
    refine bodyPost_ret (v := .tuple #[x.v, .bool f]) (resultsR_slot rfl _ _ w.heap.size [V x.a, V x.b, V x.c, V x.d] _ rfl (World.rangeAt_setCells_same _ _ 0 _ hth2) Tryd.underlying24 rfl (by kernel_rfl) rfl) rfl ⟨?_, ?_⟩
    · exact setCellsR_bel (bel_trans (bel_alloc (bel_refl w) _) HB2.out) (Nat.le_refl _)
    · rcases HF.out with ⟨h1, rfl, rfl⟩ | ⟨h1, rfl, rfl⟩
      · exact .inl ⟨h1, rfl⟩
      · exact .inr ⟨h1, rfl⟩
  · rw [hp] at IP
    have OD := Lib.hid (ofHex_any s (w.alloc Z4R) hmax)
    have e0 := faults_none s hp
    have e1 : TxtOk s ↔ hexFault s = 0 := by unfold TxtOk; rw [if_pos hp]
    have e2 : txtN s = hv (s.drop 2) := by unfold txtN; rw [if_pos hp]
    by_cases h0 : specFaults s = []
    · have HOK : Hid (TxtOk s) := e1.2 (e0.1 h0)
      obtain ⟨x, hx⟩ : ∃ x, x = ofN (txtN s) := ⟨_, rfl⟩
      have OK : Hid (Calls Tryd.prog 22 #[.string ⟨s.toArray⟩] (w.alloc Z4R) fun e w' => Below (w.alloc Z4R).heap.size (w.alloc Z4R) w' ∧ e = .returned (.tuple #[x.v, .slice none 0 0])) := OD.out.mono fun e w' ⟨hb, h⟩ => ⟨hb, by
        rcases h with ⟨_, h⟩ | ⟨h, _⟩
        · rw [hx, e2]; exact h
        · exact absurd h0 h⟩
      have HX := Lib.hid hx
      clear OD hp e0 e1 e2 h0 hx
      go_enter Tryd.func9, Tryd.ntmps9
      go_wp2_with (first
        | (go_at_call 21; refine (IP.out _).mono ?_; rintro e w1 ⟨rfl, hw1⟩; have hw1 := hw1.symm; subst hw1)
        | (go_at_call 22; refine OK.out.mono ?_; rintro e w2 ⟨hb2, rfl⟩; have HB2 := Lib.hid hb2; have hth2 := thereR_bel (thereR_bel hth (by omega) hb2) (by omega) (bel_alloc (bel_refl _) (.cells #[V x.a, V x.b, V x.c, V x.d] 24)); clear hb2)
        | (show wpList _ _ _ (⟨none, Op.store 24 _ _, _, _, _, _⟩ :: _) _ _; refine wpList_store_mid (op := ⟨none, Op.store 24 (.tmp 2) (.tmp 13), _, _, _, _⟩) rfl 24 _ _ rfl w.heap.size 0 [V x.a, V x.b, V x.c, V x.d].toArray rfl rfl hth2 (by kernel_rfl) (by simp [Value.oneCell']) ?_))
      refine bodyPost_ret (v := .tuple #[x.v, .bool true]) (resultsR_slot rfl _ _ w.heap.size [V x.a, V x.b, V x.c, V x.d] _ rfl (World.rangeAt_setCells_same _ _ 0 _ hth2) Tryd.underlying24 rfl (by kernel_rfl) rfl) rfl ⟨?_, .inl ⟨HOK.out, by rw [HX.out]⟩⟩
      exact setCellsR_bel (bel_alloc (bel_trans (bel_alloc (bel_refl w) _) HB2.out) _) (Nat.le_refl _)
    · have HOK : Hid (¬ TxtOk s) := fun k => h0 (e0.2 (e1.1 k))
      obtain ⟨F, hFe⟩ : ∃ F, F = specFaults s := ⟨_, rfl⟩
      have BAD : Hid (Calls Tryd.prog 22 #[.string ⟨s.toArray⟩] (w.alloc Z4R) fun e w' => Below (w.alloc Z4R).heap.size (w.alloc Z4R) w' ∧ ∃ v, e = .returned (.tuple #[zeroR.v, v]) ∧ Sl w' v F) := OD.out.mono fun e w' ⟨hb, h⟩ => ⟨hb, by
        rcases h with ⟨h, _⟩ | ⟨_, h⟩
        · exact absurd h h0
        · rw [hFe]; exact h⟩
      have hne : F ≠ [] := by rw [hFe]; exact h0
      clear OD hp e0 e1 e2 h0 hFe
      obtain ⟨k, L, rfl⟩ : ∃ k L, F = k :: L := by
        match F, hne with
        | k :: L, _ => exact ⟨k, L, rfl⟩
      clear hne
      have hn0 : (((L.length : Int) + 1) == 0) = false := by simp; omega
      go_enter Tryd.func9, Tryd.ntmps9
      go_wp2_with (first
        | (go_at_call 21; refine (IP.out _).mono ?_; rintro e w1 ⟨rfl, hw1⟩; have hw1 := hw1.symm; subst hw1)
        | (go_at_call 22; refine BAD.out.mono ?_; rintro e w2 ⟨hb2, v, rfl, ⟨A, cap, rfl, hcap, hcell⟩⟩; clear hcell hcap; have HB2 := Lib.hid hb2; have hth2 := thereR_bel (thereR_bel hth (by omega) hb2) (by omega) (bel_alloc (bel_refl _) (.cells #[V zeroR.a, V zeroR.b, V zeroR.c, V zeroR.d] 24)); clear hb2)
        | (show wpList _ _ _ (⟨none, Op.store 24 _ _, _, _, _, _⟩ :: _) _ _; refine wpList_store_mid (op := ⟨none, Op.store 24 (.tmp 2) (.tmp 13), _, _, _, _⟩) rfl 24 _ _ rfl w.heap.size 0 [V zeroR.a, V zeroR.b, V zeroR.c, V zeroR.d].toArray rfl rfl hth2 (by kernel_rfl) (by simp [Value.oneCell']) ?_))
      refine bodyPost_ret (v := .tuple #[zeroR.v, .bool false]) (resultsR_slot rfl _ _ w.heap.size [V zeroR.a, V zeroR.b, V zeroR.c, V zeroR.d] _ rfl (World.rangeAt_setCells_same _ _ 0 _ hth2) Tryd.underlying24 rfl (by kernel_rfl) rfl) rfl ⟨?_, .inr ⟨HOK.out, rfl⟩⟩
      exact setCellsR_bel (bel_alloc (bel_trans (bel_alloc (bel_refl w) _) HB2.out) _) (Nat.le_refl _)
end Go.Proofs.YtfaocjcpnjmfiaaDoor
/-
  What the decimal readers ask of the memory, off the row's own list of variables: the errors are there, the multipliers are powers of ten.
-/
set_option linter.unusedVariables false
set_option linter.unusedSimpArgs false
namespace Go.Proofs.YtfaocjcpnjmfiaaDoor
open Go.RowKit Go.Lib
theorem errCell {w : World} {n nm : String} {d : DataW Unit} {g : Nat} (h : VarReads Tryd.prog w n (.iface nm d)) (hg : Tryd.prog.globalNamed n = some g) (ht : (Tryd.prog.globals[g]?).map (·.type) = some 36) : ∃ t u, w.cell? ⟨g, 0, none⟩ = some (.iface t u) := by
  obtain ⟨g', t, cs, fuel, p, hg', hty, hvar, hd⟩ := h
  obtain rfl := Option.some.inj (hg.symm.trans hg')
  obtain rfl := Option.some.inj (ht.symm.trans hty)
  obtain ⟨_, u, v, hcs, _, _⟩ := iface_of_trod Tryd.underlying36 hd
  refine ⟨u, v, ?_⟩
  rw [World.var?_cell hg hvar 0, ← Array.getElem?_toList, hcs]
  rfl
theorem nilPtr {P : Program} {w : World} {fuel : Nat} {t e : TypeId} {cs : List Value} {p : List MemPlace} (ht : P.underlying t = some (.pointer e))
    (h : DataW.trod (fun _ => ()) P w 0 (fun _ => true) false fuel t cs = some (.nil, p)) : cs = [.pointer none] := by
  cases fuel with
  | zero => simp [DataW.trod] at h
  | succ fuel =>
    match cs with
    | [] => simp [DataW.trod, ht] at h
    | _ :: _ :: _ => simp [DataW.trod, ht] at h
    | [c] =>
      cases c <;> simp [DataW.trod, ht] at h
      rename_i o
      cases o with
      | none => rfl
      | some a =>
        simp only [Option.bind_eq_some_iff, Function.comp, Option.map_eq_some_iff, Prod.mk.injEq] at h
        obtain ⟨_, _, _, _, h, _⟩ := h
        cases h
/-- The words of a multiplier. -/
def mulW (j : Nat) : List Int := (List.range 4).map fun i => ((10 ^ (19 * j) / 2 ^ (64 * i) % 2 ^ 64 : Nat) : Int)
theorem mul_datum : (Rows.laid_loop_example_pub_g03023_pub_uint256_multipliers : DataW Unit) = .agg [.nil, .ptr (tabData .u64 (mulW 1)), .ptr (tabData .u64 (mulW 2)), .ptr (tabData .u64 (mulW 3)), .ptr (tabData .u64 (mulW 4))] := by kernel_rfl
theorem cells4 {w : World} {a : Addr} {l : List Value} (h : w.cells? 0 a 4 = some l) (hl : l.length = 4) : a.spot = none ∧ ∀ i, i < 4 → w.cell? ⟨a.block, a.off + i, none⟩ = l[i]? := by
  unfold World.cells? at h
  rw [if_pos (Nat.zero_le _)] at h
  have h4 : (List.range 4) = [0, 1, 2, 3] := rfl
  rw [h4] at h
  simp only [List.mapM_cons, List.mapM_nil, Option.pure_def, Option.bind_eq_bind, Option.bind_eq_some_iff] at h
  obtain ⟨c0, e0, t1, ⟨c1, e1, t2, ⟨c2, e2, t3, ⟨c3, e3, t4, h5, h6⟩, h7⟩, h8⟩, h9⟩ := h
  simp at h5 h6 h7 h8 h9
  subst h5 h6 h7 h8 h9
  have hs : a.spot = none := by
    rw [show a.add 0 = a from rfl] at e0
    unfold World.cell? at e0
    split at e0
    · rcases hsp : a.spot with _ | x
      · rfl
      · rw [hsp] at e0; simp at e0
    · cases e0
  refine ⟨hs, fun i hi => ?_⟩
  obtain ⟨ab, ao, asp⟩ := a
  simp only at hs
  subst hs
  match i, hi with
  | 0, _ => exact e0
  | 1, _ => exact e1
  | 2, _ => exact e2
  | 3, _ => exact e3
theorem mul_of {w : World} (h : VarReads Tryd.prog w "loop.example/pub-g03023/pub/uint256.multipliers" Rows.laid_loop_example_pub_g03023_pub_uint256_multipliers) : ∃ a, MulT a w := by
  obtain ⟨g, t, cs, fuel, p, hg, hty, hvar, hd⟩ := h
  obtain rfl := Option.some.inj ((show Tryd.prog.globalNamed "loop.example/pub-g03023/pub/uint256.multipliers" = some 3 by kernel_rfl).symm.trans hg)
  obtain rfl := Option.some.inj ((show (Tryd.prog.globals[3]?).map (·.type) = some 58 by kernel_rfl).symm.trans hty)
  rw [mul_datum] at hd
  have cell1 : Tryd.prog.cellsOf 34 = 1 := by kernel_rfl
  have cell4 : Tryd.prog.cellsOf 43 = 4 := by kernel_rfl
  have one : ∀ j, 1 ≤ j → j ≤ 4 → ∃ a : Addr, w.cell? ⟨3, j, none⟩ = some (.pointer (some ⟨a.block, a.off, none⟩)) ∧ At4 w a.block a.off (ofN (10 ^ (19 * j))) := fun j h1 h2 => by
    obtain ⟨fuel', d, q, hdi, he⟩ := array_elem (t := 58) (e := 34) (n := 5) (by kernel_rfl) hd j (by omega)
    have hdj : d = .ptr (tabData .u64 (mulW j)) := by
      rcases (by omega : j = 1 ∨ j = 2 ∨ j = 3 ∨ j = 4) with rfl | rfl | rfl | rfl <;> simpa using hdi.symm
    subst hdj
    rw [cell1, Nat.mul_one] at he
    obtain ⟨fuel2, a, cs', q2, hcs, hc4, he2, _⟩ := ptr_of_trod Tryd.underlying34 he
    rw [cell4] at hc4
    have hw := cells_of_tab (t := 43) (e := 22) (n := 4) (k := .u64) (by kernel_rfl) (by kernel_rfl) (by kernel_rfl) (by kernel_rfl) he2
    obtain ⟨hsp, hcell⟩ := cells4 hc4 (by rw [hw]; simp [mulW])
    obtain ⟨ab, ao, asp⟩ := a
    simp only at hsp hcell
    subst hsp
    refine ⟨⟨ab, ao, none⟩, ?_, ?_⟩
    · have e0 := congrArg (·[0]?) hcs
      simp only [List.getElem?_take, List.getElem?_drop, Nat.zero_lt_one, if_true, Nat.add_zero] at e0
      rw [World.var?_cell hg hvar j, ← Array.getElem?_toList, e0]
      rfl
    · rw [hw] at hcell
      have k0 := hcell 0 (by omega)
      have k1 := hcell 1 (by omega)
      have k2 := hcell 2 (by omega)
      have k3 := hcell 3 (by omega)
      simp only [mulW, List.getElem?_map, List.getElem?_range (show (0 : Nat) < 4 by omega), List.getElem?_range (show (1 : Nat) < 4 by omega), List.getElem?_range (show (2 : Nat) < 4 by omega), List.getElem?_range (show (3 : Nat) < 4 by omega), Option.map_some] at k0 k1 k2 k3
      obtain ⟨P, hP⟩ : ∃ P, P = 10 ^ (19 * j) := ⟨_, rfl⟩
      rw [← hP] at k0 k1 k2 k3 ⊢
      have wd : ∀ n : Nat, V (BitVec.ofNat 64 n) = .int .u64 ((n % 2 ^ 64 : Nat) : Int) := fun n => by
        show Value.int .u64 (U (BitVec.ofNat 64 n)) = _
        unfold U
        rw [BitVec.toNat_ofNat]
      refine ⟨?_, ?_, ?_, ?_⟩
      · rw [show (ofN P).a = BitVec.ofNat 64 P from rfl, wd]
        simpa using k0
      · rw [show (ofN P).b = BitVec.ofNat 64 (P / 2 ^ 64) from rfl, wd]
        simpa using k1
      · rw [show (ofN P).c = BitVec.ofNat 64 (P / 2 ^ 128) from rfl, wd]
        simpa using k2
      · rw [show (ofN P).d = BitVec.ofNat 64 (P / 2 ^ 192) from rfl, wd]
        simpa using k3
  have c0 : w.cell? ⟨3, 0, none⟩ = some (.pointer none) := by
    obtain ⟨fuel', d, q, hdi, he⟩ := array_elem (t := 58) (e := 34) (n := 5) (by kernel_rfl) hd 0 (by omega)
    have hdj : d = .nil := by simpa using hdi.symm
    subst hdj
    rw [cell1, Nat.mul_one] at he
    have hn : (cs.toList.drop 0).take 1 = [.pointer none] := nilPtr Tryd.underlying34 he
    have e0 := congrArg (·[0]?) hn
    simp only [List.getElem?_take, List.getElem?_drop, Nat.zero_lt_one, if_true, Nat.add_zero] at e0
    rw [World.var?_cell hg hvar 0, ← Array.getElem?_toList, e0]
    rfl
  obtain ⟨a1, p1, q1⟩ := one 1 (by omega) (by omega)
  obtain ⟨a2, p2, q2⟩ := one 2 (by omega) (by omega)
  obtain ⟨a3, p3, q3⟩ := one 3 (by omega) (by omega)
  obtain ⟨a4, p4, q4⟩ := one 4 (by omega) (by omega)
  refine ⟨fun j => if j = 1 then a1 else if j = 2 then a2 else if j = 3 then a3 else a4, c0, fun j h1 h2 => ?_, fun j h1 h2 => ?_⟩
  · rcases (by omega : j = 1 ∨ j = 2 ∨ j = 3 ∨ j = 4) with rfl | rfl | rfl | rfl
    · exact p1
    · exact p2
    · exact p3
    · exact p4
  · rcases (by omega : j = 1 ∨ j = 2 ∨ j = 3 ∨ j = 4) with rfl | rfl | rfl | rfl
    · exact q1
    · exact q2
    · exact q3
    · exact q4
theorem decW_of {w : World} (h1 : VarReads Tryd.prog w "strconv.ErrSyntax" Rows.laid_strconv_ErrSyntax) (h2 : VarReads Tryd.prog w "io.EOF" Rows.laid_io_EOF) (h3 : VarReads Tryd.prog w "loop.example/pub-g03023/pub/uint256.ErrBig256Range" Rows.laid_loop_example_pub_g03023_pub_uint256_ErrBig256Range) (h4 : VarReads Tryd.prog w "loop.example/pub-g03023/pub/uint256.multipliers" Rows.laid_loop_example_pub_g03023_pub_uint256_multipliers) : ∃ a, DecW a w := by
  obtain ⟨a, hm⟩ := mul_of h4
  exact ⟨a, errCell h1 (by kernel_rfl) (by kernel_rfl), hm, errCell h2 (by kernel_rfl) (by kernel_rfl), errCell h3 (by kernel_rfl) (by kernel_rfl)⟩
end Go.Proofs.YtfaocjcpnjmfiaaDoor
/-
  The six sentinels, off the row's own list of variables.
-/
set_option linter.unusedVariables false
set_option linter.unusedSimpArgs false
namespace Go.Proofs.YtfaocjcpnjmfiaaDoor
open Go.RowKit Go.ChangeShapes
theorem cellsErrT : Tryd.prog.cellsOf 80 = 1 := by kernel_rfl
theorem cellsStrT : Tryd.prog.cellsOf 9 = 1 := by kernel_rfl
theorem starT : "*" ++ "errors.errorString" = "*errors.errorString" := by decide
theorem rowErrT (u : TypeId) (h : Tryd.prog.typeName? 3 u = some "*errors.errorString") : u = 78 :=
  typeName_ptr_named (nm := "errors.errorString") (by rw [starT]; kernel_rfl) (by kernel_rfl) (by decide) u (by rw [starT]; exact h)
theorem sentinel_at {n : String} {text : List UInt8} {r : List (String × DataW Unit)} {W : World} {g : Nat} (h : laidMet Tryd.prog ((n, .iface "*errors.errorString" (.ptr (.agg [.lit (.string text)]))) :: r) W) (hg : Tryd.prog.globalNamed n = some g) (ht : (Tryd.prog.globals[g]?).map (·.type) = some 36) :
    ∃ a, W.cell? ⟨g, 0, none⟩ = some (.iface 78 (.pointer (some a))) := by
  obtain ⟨a, s, hv, _⟩ := laid_sentinel h hg ht Tryd.underlying36 rowErrT Tryd.underlying78 Tryd.underlying80 rfl rfl Tryd.underlying9 cellsErrT cellsStrT
  exact ⟨a, by simpa using World.var?_cell hg hv 0⟩
theorem hexE_of {r : List (String × DataW Unit)} {W : World} (h : laidMet Tryd.prog (("loop.example/pub-g03023/pub/uint256.ErrEmptyString", Rows.laid_loop_example_pub_g03023_pub_uint256_ErrEmptyString) :: ("loop.example/pub-g03023/pub/uint256.ErrSyntax", Rows.laid_loop_example_pub_g03023_pub_uint256_ErrSyntax) :: ("loop.example/pub-g03023/pub/uint256.ErrMissingPrefix", Rows.laid_loop_example_pub_g03023_pub_uint256_ErrMissingPrefix) :: ("loop.example/pub-g03023/pub/uint256.ErrEmptyNumber", Rows.laid_loop_example_pub_g03023_pub_uint256_ErrEmptyNumber) :: ("loop.example/pub-g03023/pub/uint256.ErrLeadingZero", Rows.laid_loop_example_pub_g03023_pub_uint256_ErrLeadingZero) :: ("loop.example/pub-g03023/pub/uint256.ErrBig256Range", Rows.laid_loop_example_pub_g03023_pub_uint256_ErrBig256Range) :: r) W) :
    ∃ a, HexE a W := by
  obtain ⟨a1, k1⟩ := sentinel_at h (g := 4) (by kernel_rfl) (by kernel_rfl)
  obtain ⟨a2, k2⟩ := sentinel_at h.tail (g := 1) (by kernel_rfl) (by kernel_rfl)
  obtain ⟨a3, k3⟩ := sentinel_at h.tail.tail (g := 5) (by kernel_rfl) (by kernel_rfl)
  obtain ⟨a4, k4⟩ := sentinel_at h.tail.tail.tail (g := 6) (by kernel_rfl) (by kernel_rfl)
  obtain ⟨a5, k5⟩ := sentinel_at h.tail.tail.tail.tail (g := 7) (by kernel_rfl) (by kernel_rfl)
  obtain ⟨a6, k6⟩ := sentinel_at h.tail.tail.tail.tail.tail (g := 0) (by kernel_rfl) (by kernel_rfl)
  exact ⟨fun i => if i = 1 then a1 else if i = 2 then a2 else if i = 3 then a3 else if i = 4 then a4 else if i = 5 then a5 else a6, k1, k2, k3, k4, k5, k6⟩
end Go.Proofs.YtfaocjcpnjmfiaaDoor
namespace Go.Proofs.YtfaocjcpnjmfiaaDoor.fnReadTextIs
open Go.ChangeShapes Go.WideShapes Go.ChangeAt Go.RowKit Go.Lib
set_option linter.unusedVariables false
set_option linter.unusedSimpArgs false

set_option maxRecDepth 20000 in
set_option maxHeartbeats 4000000 in
theorem walk (B : ByteArray) (w : World) (a ah : Nat → Addr) (hT : TxtW a ah w) : Calls Tryd.prog 4 #[.string B] w (RetBel (.bool true) w) := by
  obtain ⟨s, rfl⟩ : ∃ s : List UInt8, B = ⟨s.toArray⟩ := ⟨B.data.toList, by cases B; simp⟩
  by_cases c1 : 2147483647 < s.length
  · have c1' : (2147483647 : Int) < (s.length : Int) := by omega
    go_enter Tryd.func4, Tryd.ntmps4
    go_wp2
    go_ret
    exact retBel rfl (bel_refl w)
  have c1' : ¬ (2147483647 : Int) < (s.length : Int) := by omega
  by_cases c2 : 65536 < s.length
  · have c2' : (65536 : Int) < (s.length : Int) := by omega
    go_enter Tryd.func4, Tryd.ntmps4
    go_wp2
    go_ret
    exact retBel rfl (bel_refl w)
  have c2' : ¬ (65536 : Int) < (s.length : Int) := by omega
  have OH := Lib.hid (ofText_any s w (by omega))
  obtain ⟨x, f, OK, FH⟩ : ∃ (x : N4) (f : Bool), Hid (Calls Tryd.prog 9 #[.string ⟨s.toArray⟩] w fun e w' => Below w.heap.size w w' ∧ e = .returned (.tuple #[x.v, .bool f])) ∧
      Hid (∀ w2, Below w.heap.size w w2 → Calls Tryd.prog 10 #[.string ⟨s.toArray⟩] w2 fun e w' => e = .returned (.tuple #[x.v, .bool f]) ∧ Below w2.heap.size w2 w') := by
    by_cases h0 : TxtOk s
    · refine ⟨ofN (txtN s), true, OH.out.mono fun e w' ⟨hb, h⟩ => ⟨hb, ?_⟩, fun w2 hb => ?_⟩
      · rcases h with ⟨_, h⟩ | ⟨h, _⟩
        · exact h
        · exact absurd h0 h
      · exact (implReadText_any a ah s w2 (hT.bel hb)).mono fun e w' ⟨hb, h⟩ => ⟨by
          rcases h with ⟨_, h⟩ | ⟨h, _⟩
          · exact h
          · exact absurd h0 h, hb⟩
    · refine ⟨zeroR, false, OH.out.mono fun e w' ⟨hb, h⟩ => ⟨hb, ?_⟩, fun w2 hb => ?_⟩
      · rcases h with ⟨h, _⟩ | ⟨_, h⟩
        · exact absurd h h0
        · exact h
      · exact (implReadText_any a ah s w2 (hT.bel hb)).mono fun e w' ⟨hb, h⟩ => ⟨by
          rcases h with ⟨h, _⟩ | ⟨_, h⟩
          · exact absurd h h0
          · exact h, hb⟩
  have ex := eqb_self x
  have ef : (f == f) = true := by cases f <;> rfl
  clear OH c1 c2 hT
  go_enter Tryd.func4, Tryd.ntmps4
  go_wp2_with (go_at_call 9; refine OK.out.mono ?_; rintro e w1 ⟨hb1, rfl⟩; have HB1 := Lib.hid hb1; clear hb1)
  refine (FH.out _ (bel_alloc HB1.out _)).mono ?_
  rintro e w2 ⟨rfl, hb2⟩
  have A4 : At4 (w1.alloc (.cells #[V x.a, V x.b, V x.c, V x.d] 24)) w1.heap.size 0 x := by constructor <;> simp [go_sem]
  obtain ⟨q0, q1, q2, q3⟩ := A4.bel hb2
  simp only [Nat.zero_add] at q1 q2 q3
  have hlt : w1.heap.size < w2.heap.size := by have := hb2.size; simp at this; omega
  have HB2 := Lib.hid (bel_trans (bel_alloc HB1.out (.cells #[V x.a, V x.b, V x.c, V x.d] 24)) hb2)
  clear hb2 A4
  go_wp2
  go_ret
  exact retBel rfl (bel_alloc HB2.out _)

theorem trodVars_len {H : Type} {enc : TypeId × Value → H} {P : Program} {W : World} {sp : Nat → Bool} : ∀ {ns : List String} {gs : List (DataW H)} {ps : List MemPlace}, DataW.TrodVars enc P W sp ns gs ps → gs.length = ns.length
  | [], [], _, _ => rfl
  | [], _ :: _, _, h => h.elim
  | _ :: _, [], _, h => h.elim
  | _ :: _, _ :: _, _, h => by
    obtain ⟨g, t, cs, fuel, p, q, h1, h2, h3, h4, hs, e⟩ := h
    simp [trodVars_len hs]
theorem own : ownKnob Tryd.prog.godebug = none := by kernel_rfl
theorem laidOut : laidOutB Tryd.prog = true := by kernel_rfl
theorem door_met (os : Os) (args : Array Value) : laidMetH Tryd.prog Rows.fnReadTextIsRow.laid ((World.doorLaid Tryd.prog 400 os).forCall (fun _ _ => 0) ⟨#[], args, []⟩).memory :=
  laidMetH_of_parts3 (fuel := 8) (laidMet_of_run' 8 (by kernel_rfl) (by kernel_rfl)) (by kernel_rfl) (by kernel_rfl)
set_option maxRecDepth 100000 in
theorem lifted (os : Os) (started : os.Started) (H : Type) (enc : TypeId × Value → H) :
    ReturnsInHanded {} Tryd.checked os 4 .any (fun w args => (Rows.fnReadTextIsSpec.pre enc Tryd.prog Tryd.f4 [] false w args ∧ laidMetH Tryd.prog Rows.fnReadTextIsRow.laid w) ∧ sizedMet enc Tryd.prog Tryd.f4 (OpenSpec.ofChange Rows.fnReadTextIsSpec) false w args)
      (Rows.fnReadTextIsSpec.post enc Tryd.prog Tryd.f4 false true false false) := by
  refine returnsInHanded_of_change_and (C := Tryd.checked) (X := fun w _ => laidMetH Tryd.prog Rows.fnReadTextIsRow.laid w) (fun _ _ _ hh h => h.of_heap hh) own started (by kernel_rfl) Tryd.func4
    (ChangeSpec.witness_shaped (enc := enc) (C := Tryd.checked) (os := os) (X := fun w _ => laidMetH Tryd.prog Rows.fnReadTextIsRow.laid w) false (World.doorLaid Tryd.prog 400 os) #[.string ByteArray.empty] 8 rfl (World.shaped_of_RefB (by kernel_rfl) (by kernel_rfl)) (by kernel_rfl) (by kernel_rfl) (by kernel_rfl) (door_met os _)) ?_
  intro W base args ds gs before hval0 hW _ _ hL _
  have hval : ∀ (j : Nat) t v, Tryd.f4.params[j]? = some t → args[j]? = some v → Value.okWide Tryd.prog W .any base t v := hval0
  have hW' := hW
  obtain ⟨p, q, hA0, hV, rfl, hfz, hnd⟩ := hW
  have hA : DataW.TrodAll enc Tryd.prog W 0 (fun _ => true) true Tryd.f4.params.toList args.toList ds p := hA0
  rw [Tryd.params4] at hA hval
  obtain ⟨v0, vs0, d0, ds0, p0, q0, hargs, rfl, rfl, h0, r0⟩ := trodAll_cons hA
  obtain ⟨rfl, rfl, rfl⟩ := trodAll_nil r0
  obtain rfl : args = #[v0] := by cases args; simp_all
  have k0 := h0
  have lt0 : ∀ x ∈ p0, x.block < W.heap.size := by obtain ⟨m, hm⟩ := k0; exact DataW.trod_lt m _ _ _ hm
  obtain ⟨x0, rfl⟩ := okWide_string Tryd.underlying9 (hval 0 9 v0 rfl rfl)
  have hlen := trodVars_len hV
  obtain ⟨z0, z1, z2, z3, z4, z5, z6, rfl⟩ : ∃ z0 z1 z2 z3 z4 z5 z6, gs = [z0, z1, z2, z3, z4, z5, z6] := by
    match gs, hlen with
    | [z0, z1, z2, z3, z4, z5, z6], _ => exact ⟨z0, z1, z2, z3, z4, z5, z6, rfl⟩
  clear hA0 hval0
  have hL2 : laidMet Tryd.prog Rows.fnReadTextIsRow.laid W := by rw [← MakeChecks.laidMetH_plain _ _ _ (by kernel_rfl)]; exact hL
  obtain ⟨a, hD⟩ := decW_of (Go.Lib.laidMet.reads hL2 (List.mem_cons_of_mem _ (List.mem_cons_of_mem _ (List.mem_cons_of_mem _ (List.mem_cons_of_mem _ (List.mem_cons_self)))))) (Go.Lib.laidMet.reads hL2 (List.mem_cons_of_mem _ (List.mem_cons_of_mem _ (List.mem_cons_of_mem _ (List.mem_cons_of_mem _ (List.mem_cons_of_mem _ (List.mem_cons_self))))))) (Go.Lib.laidMet.reads hL2 (List.mem_cons_of_mem _ (List.mem_cons_of_mem _ (List.mem_cons_of_mem _ (List.mem_cons_of_mem _ (List.mem_cons_of_mem _ (List.mem_cons_of_mem _ (List.mem_cons_of_mem _ (List.mem_cons_of_mem _ (List.mem_cons_of_mem _ (List.mem_cons_of_mem _ (List.mem_cons_of_mem _ (List.mem_cons_self))))))))))))) (Go.Lib.laidMet.reads hL2 (List.mem_cons_of_mem _ (List.mem_cons_of_mem _ (List.mem_cons_of_mem _ (List.mem_cons_of_mem _ (List.mem_cons_of_mem _ (List.mem_cons_of_mem _ (List.mem_cons_of_mem _ (List.mem_cons_of_mem _ (List.mem_cons_of_mem _ (List.mem_cons_of_mem _ (List.mem_cons_of_mem _ (List.mem_cons_of_mem _ (List.mem_cons_self))))))))))))))
  have hL3 := hL2
  unfold Rows.fnReadTextIsRow at hL3
  obtain ⟨ah, hX⟩ := hexE_of hL3.tail.tail.tail.tail.tail.tail
  refine (walk x0 W a ah ⟨hD, hX⟩).mono fun e W' ⟨he, bel⟩ => ?_
  subst he
  exact ⟨_, rfl, _, _, _, [], _, _, hW', trodAll_mk1 (shut_bool Tryd.underlying4 _), (trodAll_cons_mk (Below.trod laidOut (by kernel_rfl) (of_decide_eq_true (by kernel_rfl)) k0 bel lt0) trodAll_mk0), Below.trodVars laidOut bel (by kernel_rfl) hV, bel.frame _, fun h => by cases h⟩
theorem row_holds : Rows.FnReadTextIsSaid :=
  OpenClaim.holds_of_wide 4 Tryd.f4 rfl rfl rfl rfl rfl rfl rfl ⟨rfl, rfl, rfl, rfl, rfl⟩ rfl rfl rfl rfl rfl (by kernel_rfl) Tryd.func4 (by kernel_rfl)
    (of_decide_eq_true (by kernel_rfl)) (by unfold Func.isWrapper; first | (rw [if_pos (by decide +kernel)]; kernel_rfl) | (rw [if_neg (by decide +kernel)]; exact ⟨rfl, rfl⟩))
    (fun os started H enc _ => lifted os started H enc)
theorem holds : Rows.FnReadTextIsCardSaid :=
  Claim7.holds_tied_plain_at .later [] _ true _ true
    row_holds (fun _ h => by cases h) (by kernel_rfl) (fun _ h => by cases h) fnReadTextIs_row_tie rfl ⟨rfl, rfl⟩ (by kernel_rfl) rfl
    (fun f fn hf hfn => by
      obtain rfl : f = 4 := Option.some.inj ((show Tryd.prog.funcNamed "loop.example/pub-g03023/laws.FnReadTextIs" = some 4 by kernel_rfl).symm.trans hf) |>.symm
      obtain rfl : fn = Tryd.f4 := (Option.some.inj (Tryd.func4.symm.trans hfn)).symm
      exact ⟨by kernel_rfl, fun j t ht => by
        rw [Tryd.params4] at ht
        have hm : t ∈ [9] := by simpa using Array.mem_of_getElem? ht
        have hall : ([9].all fun u => !Tryd.prog.wantsStandIn u) = true := by kernel_rfl
        exact (show Tryd.prog.wantsStandIn t = false by simpa using List.all_eq_true.1 hall t hm)⟩)
    (by kernel_rfl)
#print axioms holds
end Go.Proofs.YtfaocjcpnjmfiaaDoor.fnReadTextIs
