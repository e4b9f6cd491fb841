/-
  The reference's OfBytes: the number of the last 32 bytes, the highest first.
-/
import Derived.Test.YtpmhkmcikjbncaaFmtByt
import Derived.Test.YtpmhkmcikjbncaaFmtDig5
namespace Go.Proofs.YtpmhkmcikjbncaaFmt
set_option maxRecDepth 20000
open Go.RowKit
set_option linter.unusedVariables false
set_option linter.unusedSimpArgs false
set_option maxRecDepth 20000
theorem beNat_more (l : List UInt8) (n : Nat) (b : UInt8) (k : Nat) (hk : n + 1 + k = l.length) (hb : l[k]? = some b) : Lib.beNat (l.drop (l.length - (n + 1))) = Lib.beNat (l.drop (l.length - n)) + b.toNat * 256 ^ n := by
  obtain ⟨h1, h2⟩ := List.getElem?_eq_some_iff.1 hb
  have e : l.drop (l.length - (n + 1)) = b :: l.drop (l.length - n) := by
    rw [show l.length - (n + 1) = k by omega, show l.length - n = k + 1 by omega, ← h2]
    exact List.drop_eq_getElem_cons h1
  rw [e, beNat_cons, List.length_drop, show l.length - (l.length - n) = n by omega, Nat.add_comm]
theorem ofb_even (o : List Nat) (l : List UInt8) (n k : Nat) (b : UInt8) (hk : n + 1 + k = l.length) (hb : l[k]? = some b) (he : n % 2 = 0) (ho : o.length = (n + 1) / 2) (hv : val o = Lib.beNat (l.drop (l.length - n))) :
    val (o ++ [b.toNat]) = Lib.beNat (l.drop (l.length - (n + 1))) := by
  rw [val_snoc, hv, beNat_more l n b k hk hb, ho, show (65536 : Nat) = 256 ^ 2 from rfl, ← Nat.pow_mul, show 2 * ((n + 1) / 2) = n by omega, Nat.mul_comm]
theorem ofb_odd (o : List Nat) (l : List UInt8) (n k : Nat) (b : UInt8) (hk : n + 1 + k = l.length) (hb : l[k]? = some b) (he : n % 2 = 1) (ho : o.length = (n + 1) / 2) (hv : val o = Lib.beNat (l.drop (l.length - n))) :
    val (o.set (n / 2) (dig o (n / 2) + 256 * b.toNat)) = Lib.beNat (l.drop (l.length - (n + 1))) := by
  have h1 := val_set (l := o) (i := n / 2) (d := dig o (n / 2) + 256 * b.toNat) (by omega)
  rw [Nat.mul_add] at h1
  rw [beNat_more l n b k hk hb, ← hv]
  have e : 65536 ^ (n / 2) * (256 * b.toNat) = b.toNat * 256 ^ n := by
    rw [show (65536 : Nat) = 256 ^ 2 from rfl, ← Nat.pow_mul, ← Nat.mul_assoc, Nat.mul_comm (_ * 256), ← Nat.pow_succ, show (2 * (n / 2)).succ = n by omega]
  omega
theorem ofb_dig (o : List Nat) (l : List UInt8) (n : Nat) (hn : n ≤ l.length) (hd : Digits o) (he : n % 2 = 1) (hv : val o = Lib.beNat (l.drop (l.length - n))) : dig o (n / 2) < 256 := by
  have h := beNat_lt (l.drop (l.length - n))
  rw [List.length_drop, show l.length - (l.length - n) = n by omega, ← hv] at h
  rw [dig_val hd]
  have e : 256 ^ n = 65536 ^ (n / 2) * 256 := by
    rw [show (65536 : Nat) = 256 ^ 2 from rfl, ← Nat.pow_mul, ← Nat.pow_succ, show (2 * (n / 2)).succ = n by omega]
  rw [e] at h
  exact Nat.lt_of_le_of_lt (Nat.mod_le _ _) (Nat.div_lt_of_lt_mul h)
theorem there_far {w w' : World} {b o n B : Nat} (h : w.there b o n) (k : Below B w w') (hb : b < B) : w'.there b o n := fun j hj => by
  have := h j hj
  rw [k.cell (p := ⟨b, o + j, none⟩) hb, k.frozen (p := ⟨b, o + j, none⟩) hb]
  exact this
theorem SlB.cellAt {w : World} {A : Option Addr} {n cap : Nat} {l : List UInt8} (h : SlB w (.slice A n cap) l) {i : Nat} {b : UInt8} (hb : l[i]? = some b) : ∃ g p, A = some ⟨g, p, none⟩ ∧ w.cell? ⟨g, p + i, none⟩ = some (.int .u8 (b.toNat : Int)) := by
  obtain ⟨A', cap', e, hc, h⟩ := h
  injection e with e1 e2 e3
  subst e1
  exact h i b hb
theorem Tryf.infoIntO : (Tryf.prog.info? 3).map (fun i => (i.zero, i.size, i.bytes)) = some (some (.int .i64 0), 1, 8) := by kernel_rfl
set_option maxHeartbeats 4000000 in
theorem ofBytes_any (v : Value) (l : List UInt8) (w : World) (hv : SlB w v l) (hl : l.length ≤ 4294967296) :
    Calls Tryf.prog 6 #[v] w (RetBel (ofN (Lib.beNat (l.drop (l.length - 32)))).v w) := by
  obtain ⟨i0, hi, hz0, hz1, hz2⟩ := info_parts Tryf.infoIntO
  obtain ⟨A, cap, N, rfl, hN, hcap, hv⟩ : ∃ A cap N, v = .slice A N cap ∧ N = l.length ∧ N ≤ cap ∧ SlB w (.slice A N cap) l := by
    have h2 := hv
    obtain ⟨A, cap, rfl, hc, _⟩ := hv
    exact ⟨A, cap, _, rfl, rfl, hc, h2⟩
  rw [← hN] at hl
  have HN := Lib.hid hN
  have HV := Lib.hid hv
  clear hN hv
  go_enter Tryf.func6, Tryf.ntmps6
  go_wp2
  obtain ⟨W, hW⟩ : ∃ W, W = w.alloc (Obj.cells #[Value.int IntKind.u64 0, Value.int IntKind.u64 0, Value.int IntKind.u64 0, Value.int IntKind.u64 0] 25) := ⟨_, rfl⟩
  have hth : W.there w.heap.size 0 4 := by rw [hW]; exact there_new w 25 _ 4 (by simp)
  have hWb : Below w.heap.size w W := by rw [hW]; exact bel_alloc (bel_refl w) _
  have hWs : W.heap.size = w.heap.size + 1 := by rw [hW]; simp
  rw [← hW]
  clear hW
  have hown0 : (W.alloc (Obj.cells #[] 3)).ownsRow (w.heap.size + 1) 3 1 (.slice (some ⟨w.heap.size + 1, 0, none⟩) 0 0) 0 (ints []) := by
    rw [← hWs]; exact World.ownsRow_made (base := W.heap.size) (e := 3) (size := 1) W #[] 0 (Nat.le_refl _) (Nat.zero_le _) rfl
  have HTH := Lib.hid hth
  have HWB := Lib.hid hWb
  clear hth hWb
  go_loopw [3, 4, 5] (fun v t u wr => ∃ (o : List Nat) (n : Nat) (q s : Value), u = q ∧ s = v ∧ n ≤ N ∧ n ≤ 32 ∧ t = .int .i64 ((N : Int) - 1 - (n : Int)) ∧ wr.ownsRow (w.heap.size + 1) 3 1 s ((n + 1) / 2) (ints o) ∧ Hid (o.length = (n + 1) / 2) ∧ Digits o ∧ Hid (val o = Lib.beNat (l.drop (N - n))) ∧ Below (w.heap.size + 1) W wr) (fun _ t _ _ => (intOf t + 1).toNat)
  case atStart => exact ⟨[], 0, _, _, rfl, rfl, Nat.zero_le _, by omega, by congr 1; omega, hown0, rfl, (fun d hd => absurd hd (by simp)), (by show val [] = _; rw [HN.out, Nat.sub_zero, List.drop_length]; rfl), (Below.refl _ W).alloc (by omega) _⟩
  case round =>
    obtain ⟨o, n, q, s, rfl, rfl, hnN, hn32, rfl, hown, HL, hdo, HVal, hbel⟩ := hrel
    have hcells := Lib.hid (fun (i : Nat) (b : UInt8) (hb : l[i]? = some b) => HV.out.cellAt hb)
    have hsz := hbel.size
    have HB := Lib.hid hbel
    by_cases c1 : n < N ∧ n < 32
    · obtain ⟨k, hk⟩ : ∃ k, N = n + 1 + k := ⟨N - (n + 1), by omega⟩
      have hkN : k < N := by omega
      have hi1 : (N : Int) - 1 - (n : Int) = (k : Int) := by omega
      rw [hi1]
      have hi2 : (N : Int) - 1 - (k : Int) = (n : Int) := by omega
      have hi3 : (N : Int) - (k : Int) ≤ 32 := by omega
      have HK := Lib.hid hk
      have hn31 := c1.2
      obtain ⟨b, hb⟩ : ∃ b, l[k]? = some b := ⟨_, List.getElem?_eq_getElem (by rw [← HN.out]; omega)⟩
      obtain ⟨g, p, rfl, hc⟩ := hcells.out k b hb
      have HE := Lib.hid hb
      have hcell : wr.cell? ⟨g, p + k, none⟩ = some (.int .u8 (b.toNat : Int)) := by
        rw [HB.out.cell (p := ⟨g, p + k, none⟩) (show g < w.heap.size + 1 from Nat.lt_succ_of_lt (World.block_lt_of_cell? _ _ hc))]
        exact HWB.out.cell (p := ⟨g, p + k, none⟩) (World.block_lt_of_cell? _ _ hc) |>.trans hc
      have hbl := b.toNat_lt
      clear hc hb hk hbel c1 hcells
      rcases (by omega : n % 2 = 0 ∨ n % 2 = 1) with he | he
      · have hrem : (n : Int).tmod 2 = 0 := by rw [Int.tmod_eq_emod_of_nonneg (by omega)]; omega
        have hrow : (n + 1) / 2 = n / 2 := by omega
        have HEv := Lib.hid he
        have HOwn : Hid (wr.ownsRow (w.heap.size + 1) 3 1 s (n / 2) (ints o)) := by show World.ownsRow _ _ _ _ _ _ _; rw [← hrow]; exact hown
        clear hown he hrow
        go_wp2_with (at_builtin; refine wpList_append_own _ rfl _ _ 44 rfl (w.heap.size + 1) 3 i0 (.int .i64 0) 1 8 Tryf.underlying44 hi hz0 hz1 hz2 rfl (by decide) _ _ _ rfl (HOwn.out.alloc _) ⟨wr.heap.size, 0, none⟩ 1 1 [.int .i64 (b.toNat : Int)] rfl rfl ?c1 ?c2 ?c3 ?c4 ?c5 ?_)
        case c1 =>
          intro i u hu
          match i with
          | 0 => simp at hu; subst hu; simp [Addr.add, go_sem]
          | i + 1 => simp at hu
        case c2 => intro u hu; simp at hu; subst hu; rfl
        case c3 => unfold maxLen; omega
        case c4 => omega
        case c5 => simp; omega
        intro v' w2 hown2 hgrow _
        have HO := HOwn.out
        have hown3 : w2.ownsRow (w.heap.size + 1) 3 1 v' ((n + 1 + 1) / 2) (ints (o ++ [b.toNat])) := by
          rw [show (n + 1 + 1) / 2 = n / 2 + 1 by have := HEv.out; omega, ints_snoc]
          exact hown2
        have hbel3 : Below (w.heap.size + 1) W w2 := (HB.out.alloc (by omega) _).grown hgrow (by simp; omega) (fun g hg => (HO.lt g hg).1)
        have NV : Hid (val (o ++ [b.toNat]) = Lib.beNat (l.drop (N - (n + 1)))) := by
          show _ = _
          rw [HN.out]
          exact ofb_even o l n k b (by rw [← HN.out, HK.out]) HE.out HEv.out HL.out (by rw [← HN.out]; exact HVal.out)
        have NL : Hid ((o ++ [b.toNat]).length = (n + 1 + 1) / 2) := by show _ = _; rw [List.length_append, HL.out]; have := HEv.out; simp; omega
        clear hown2 hgrow HO
        go_wp2
        go_roundw
        case rel => exact ⟨_, n + 1, _, _, rfl, rfl, by omega, by omega, by congr 1; omega, hown3, NL, hdo.snoc (by omega), NV, hbel3⟩
        case measure => simp [intOf] <;> omega
      · have hrem : ((n : Int).tmod 2 == 0) = false := by rw [Int.tmod_eq_emod_of_nonneg (by omega)]; simp; omega
        have hL0 := HL.out
        have hod := ofb_dig o l n (by rw [← HN.out]; omega) hdo he (by rw [← HN.out]; exact HVal.out)
        have hrow : (n + 1) / 2 = n / 2 + 1 := by omega
        rw [hrow] at hown hL0
        obtain ⟨gb, cb, cur, rfl, hgb⟩ : ∃ gb cb cur, s = .slice (some ⟨gb, 0, none⟩) (n / 2 + 1) cb ∧ cur = (0 : Nat) := by
          rcases hown.2 with ⟨rfl, h0⟩ | ⟨gb, cb, cur, h1, _⟩
          · omega
          · exact ⟨gb, cb, 0, h1, rfl⟩
        have hlt := hown.lt gb rfl
        have hco : wr.cell? ⟨gb, n / 2, none⟩ = some (.int .i64 (dig o (n / 2) : Int)) := by
          rw [hown.cellAt (n / 2) (by omega), ints_getElem (by omega)]
        have hfo := hown.frozenAt (n / 2)
        obtain ⟨D, hD⟩ : ∃ D, D = dig o (n / 2) + 256 * b.toNat := ⟨_, rfl⟩
        have hDl : D < 65536 := by omega
        have hst := hown.stored (n / 2) (.int .i64 (D : Int))
        have HO : Hid ((wr.setCell ⟨gb, n / 2, none⟩ (.int .i64 (D : Int))).ownsRow (w.heap.size + 1) 3 1 (.slice (some ⟨gb, 0, none⟩) (n / 2 + 1) cb) ((n + 1 + 1) / 2) (ints (o.set (n / 2) D))) := by
          show World.ownsRow _ _ _ _ _ _ _
          rw [ints_set, show (n + 1 + 1) / 2 = n / 2 + 1 by omega]
          exact hst.1
        have hb3 := Lib.hid (HB.out.setCell (p := ⟨gb, n / 2, none⟩) hlt.1 (.int .i64 (D : Int)))
        have NV : Hid (val (o.set (n / 2) D) = Lib.beNat (l.drop (N - (n + 1)))) := by
          show _ = _
          rw [HN.out, hD]
          exact ofb_odd o l n k b (by rw [← HN.out, HK.out]) HE.out he HL.out (by rw [← HN.out]; exact HVal.out)
        have NL : Hid ((o.set (n / 2) D).length = (n + 1 + 1) / 2) := by show _ = _; rw [List.length_set, hL0]; omega
        have ea : IntKind.i64.wrap ((n : Int) / 2) = (n : Int) / 2 := IntWalk.i64_in _ (by omega)
        have eb : (n : Int).tdiv 2 = (n : Int) / 2 := Int.tdiv_eq_ediv_of_nonneg (by omega)
        have ed : ((n : Int) / 2).toNat = n / 2 := by omega
        have ef : (dig o (n / 2) : Int) + 256 * (b.toNat : Int) = (D : Int) := by omega
        have eg : (n : Int) / 2 < ((n / 2 + 1 : Nat) : Int) := by omega
        have hDo := hdo.set (n / 2) (d := D) hDl
        clear hD hst hown hod hL0
        go_wp2
        go_region
        go_wp2
        go_roundw
        case rel => exact ⟨_, n + 1, _, _, rfl, rfl, by omega, by omega, by congr 1; omega, HO.out, NL, hDo, NV, (hb3.out).drew⟩
        case measure => simp [intOf] <;> omega
    · have hend : Hid (N - n = N - 32 ∨ N - n = 0 ∧ N ≤ 32) := by show _ ∨ _; omega
      have NV : Hid (val o = Lib.beNat (l.drop (l.length - 32))) := by
        show _ = _
        rw [HVal.out, ← HN.out]
        congr 2
        have := hend.out
        omega
      have hsl := Sl.of_own (by rw [HL.out]; exact hown)
      have hol : o.length ≤ 100000 := by rw [HL.out]; omega
      have hth := there_far HTH.out HB.out (by omega)
      have hbw : Below w.heap.size w wr := HWB.out.trans (HB.out.mono (by omega))
      have HTW := Lib.hid hth
      have HBW := Lib.hid hbw
      have HSL := Lib.hid hsl
      have HOL := Lib.hid hol
      obtain ⟨y, hy⟩ : ∃ y, y = ofN (val o) := ⟨_, rfl⟩
      have HY : Hid (ofN (Lib.beNat (l.drop (l.length - 32))) = y) := by show _ = _; rw [hy, ← NV.out]
      have CUT : Hid (Calls Tryf.prog 15 #[s] wr (RetBel y.v wr)) := by
        show Calls _ _ _ _ _
        rw [hy]
        exact cut_dg _ (val o) o.length _ ⟨o, HSL.out, hdo, rfl, Nat.le_refl _⟩ HOL.out
      obtain ⟨k, hk⟩ : ∃ k : Int, k = (N : Int) - 1 - (n : Int) := ⟨_, rfl⟩
      rw [← hk]
      have hgs : ¬ (0 : Int) ≤ k ∨ ((0 : Int) ≤ k ∧ ¬ (N : Int) - k ≤ 32) := by omega
      clear hth hbw hsl hol hown hend NV hk hy c1 hbel
      rcases hgs with g1 | ⟨g1, g2⟩
      all_goals
        go_wp2_with fail
        refine CUT.out.mono ?_
        rintro e w3 ⟨rfl, hb3⟩
        have hth3 := there_bel HTW.out (by omega) hb3
        have hb4 := bel_trans HBW.out hb3
        go_wp2_with (refine wpList_store_mid rfl 25 _ _ rfl w.heap.size 0 [V y.a, V y.b, V y.c, V y.d].toArray rfl rfl hth3 (by kernel_rfl) (by simp [Value.oneCell']) ?_)
        rw [HY.out]
        exact retBel_row rfl rfl w.heap.size [V y.a, V y.b, V y.c, V y.d] _ rfl (World.rangeAt_setCells_same w3 _ 0 _ hth3) Tryf.underlying25 rfl (by kernel_rfl) rfl (setCells_bel hb4 (Nat.le_refl _))
end Go.Proofs.YtpmhkmcikjbncaaFmt
