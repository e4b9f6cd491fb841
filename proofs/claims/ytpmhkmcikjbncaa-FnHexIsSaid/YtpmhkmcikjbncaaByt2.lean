/-
  Contracts of uint256's writers of bytes: PaddedBytes, WriteToSlice.
-/
import Derived.Test.YtpmhkmcikjbncaaByt1
import Derived.Outline
namespace Go.Proofs.Ytpmhkmcikjbncaa
set_option maxRecDepth 20000
open Go.RowKit
set_option linter.unusedVariables false
set_option linter.unusedSimpArgs false
set_option maxRecDepth 20000
/-- The word at index j lies at its place. -/
theorem At4.word {w : World} {b o : Nat} {x : N4} (h : At4 w b o x) (j : Nat) (hj : j < 4) : w.cell? ⟨b, o + j, none⟩ = some (V (x.wd j)) := by
  obtain ⟨h0, h1, h2, h3⟩ := h
  rcases (by omega : j = 0 ∨ j = 1 ∨ j = 2 ∨ j = 3) with rfl | rfl | rfl | rfl
  · exact h0
  · exact h1
  · exact h2
  · exact h3
theorem N4.btw (x : N4) (i : Nat) (h : i < 32) : IntKind.u8.wrap (((x.wd (i / 8)).toNat / 2 ^ (8 * (i % 8)) : Nat) : Int) = ((x.bt i).toNat : Int) := by
  rw [← bt_wd x i h]
  simp [IntKind.wrap, IntKind.bits, IntKind.signed]
theorem u64_shr8 (x : W64) (k : Nat) : Op.shift .shr .u64 (U x) .u64 (8 * ((k : Int) % 8)) = pure (.int .u64 ((x.toNat / 2 ^ (8 * (k % 8)) : Nat) : Int)) := by
  rw [show 8 * ((k : Int) % 8) = ((8 * (k % 8) : Nat) : Int) by omega, shift_shr_any _ _ _ _ (by omega), Int.toNat_natCast]
  congr 2
  rw [show min (8 * (k % 8)) IntKind.u64.bits = 8 * (k % 8) from Nat.min_eq_left (by show _ ≤ 64; omega)]
  simp [U]
theorem bytes_set (l : List UInt8) (i : Nat) (d : UInt8) : Lib.byteCells (l.set i d) = (Lib.byteCells l).set i (.int .u8 (d.toNat : Int)) := by simp [Lib.byteCells, List.map_set]
/-- The lowest k bytes stand at the end. -/
def padTo (n k v : Nat) : List UInt8 := List.replicate (n - k) 0 ++ Lib.beBytes k v
theorem padTo_len {n k : Nat} (h : k ≤ n) (v : Nat) : (padTo n k v).length = n := by unfold padTo; rw [List.length_append, List.length_replicate, be_len]; omega
theorem padTo_step {n k : Nat} (h : k < n) (v : Nat) : padTo n (k + 1) v = (padTo n k v).set (n - 1 - k) (UInt8.ofNat (v / 256 ^ k % 256)) := by
  unfold padTo
  rw [be_cons, show n - k = (n - (k + 1)) + 1 by omega, List.replicate_succ', List.append_assoc, List.set_append_right _ _ (by simp; omega), List.length_replicate, show n - 1 - k - (n - (k + 1)) = 0 by omega]
  rfl
theorem padTo_old {n k v : Nat} (h : k < n) : (Lib.byteCells (padTo n k v))[n - 1 - k]? = some (.int .u8 0) := by
  unfold padTo
  rw [Lib.byteCells_append, List.getElem?_append_left (by simp [Lib.byteCells]; omega)]
  unfold Lib.byteCells
  rw [List.getElem?_map, List.getElem?_replicate, if_pos (by omega)]
  rfl
theorem padTo_end {n k : Nat} (x : N4) (h1 : k ≤ n) (h2 : n ≤ k ∨ 32 ≤ k) : padTo n k x.toNat = Lib.beBytes n x.toNat := by
  unfold padTo
  rcases h2 with h | h
  · obtain rfl : n = k := by omega
    simp
  · have := be_high (n - k) k x.toNat (Nat.lt_of_lt_of_le x.lt256 (Nat.pow_le_pow_right (by decide) h))
    rw [show n - k + k = n by omega] at this
    exact this.symm
attribute [local go_sem ↓] u64_shr8
set_option maxHeartbeats 1000000 in
theorem padInt_any (b o : Nat) (x : N4) (n : Nat) (w : World) (hx : At4 w b o x) (hn : n ≤ 1048576) : Calls Try.prog 34 #[.pointer (some ⟨b, o, none⟩), .int .i64 (n : Int)] w (RetOwn (Lib.beBytes n x.toNat) w) := by
  obtain ⟨i0, hi, hz0, hz1, hz2⟩ := info_parts Try.infoByte
  have h0 : (0 : Int) ≤ (n : Int) := by omega
  go_enter Try.func34, Try.ntmps34
  go_wp2_with (at_make; refine wpList_make_full _ rfl _ _ 25 rfl w.heap.size 5 i0 (.int .u8 0) 1 Try.underlying25 hi hz0 hz1 _ _ _ _ n rfl rfl rfl rfl ?_ ?_ ?_ ?_)
  · rw [hz2]; omega
  · unfold maxLen; omega
  · omega
  intro w1 hown hgrow
  rw [bytes_made] at hown
  have hb1 : Below w.heap.size w w1 := (bel_refl w).grown hgrow (Nat.le_refl _) (fun g hg => by cases hg)
  clear hgrow
  go_wp2
  go_loopw [6] (fun t wr => ∃ k : Nat, k ≤ 32 ∧ k ≤ n ∧ t = .int .i64 (k : Int) ∧ wr.ownsRow w.heap.size 5 1 (.slice (some ⟨w.heap.size, 0, none⟩) n n) n (Lib.byteCells (padTo n k x.toNat)) ∧ Below w.heap.size w wr) (fun t _ => 32 - (intOf t).toNat)
  case atStart => exact ⟨0, by omega, by omega, rfl, by simpa [padTo, Lib.beBytes, Lib.leBytes] using hown, hb1⟩
  case round =>
    obtain ⟨k, hk, hkn, rfl, hown, hbel⟩ := hrel
    by_cases hlt : k < 32 ∧ k < n
    · obtain ⟨h32, hlt⟩ := hlt
      have hcell := (hx.bel hbel).word (k / 8) (by omega)
      have hf := hown.frozenAt (n - 1 - k)
      have hst := hown.cellAt (n - 1 - k) (by omega)
      rw [padTo_old hlt] at hst
      have H1 := Lib.hid (x.btw k h32)
      have H2 := Lib.hid hown
      clear hown
      go_wp2
      go_roundw
      case rel =>
        have e : (((x.wd (k / 8)).toNat : Int) / 2 ^ (8 * (k % 8)) % 256) = ((x.bt k).toNat : Int) := by simpa [IntKind.wrap, IntKind.bits, IntKind.signed] using H1.out
        refine ⟨k + 1, by omega, by omega, by go_num, ?_, bel_set hbel _ (Nat.le_refl _) _⟩
        rw [padTo_step hlt, bytes_set, e]
        exact (H2.out.stored (n - 1 - k) (.int .u8 ((x.bt k).toNat : Int))).1
      case measure => simp [intOf] <;> omega
    · have hend : Hid (padTo n k x.toNat = Lib.beBytes n x.toNat) := padTo_end x (by omega) (by omega)
      have HO := Lib.hid hown
      clear hown
      by_cases h32 : k < 32
      · have hkn' : ¬ k < n := fun h => hlt ⟨h32, h⟩
        go_wp2
        go_ret
        have h := HO.out
        rw [hend.out] at h
        exact ⟨_, rfl, by rw [be_len]; exact h, hbel⟩
      · go_wp2
        go_ret
        have h := HO.out
        rw [hend.out] at h
        exact ⟨_, rfl, by rw [be_len]; exact h, hbel⟩
/-- The lowest k bytes stand at the end of the first m. -/
def wrIn (l : List UInt8) (m k v : Nat) : List UInt8 := l.take (m - k) ++ (Lib.beBytes k v ++ l.drop m)
theorem wrIn_len {l : List UInt8} {m k : Nat} (h : k ≤ m) (hm : m ≤ l.length) (v : Nat) : (wrIn l m k v).length = l.length := by
  unfold wrIn; rw [List.length_append, List.length_append, List.length_take, be_len, List.length_drop]; omega
theorem wrIn_step {l : List UInt8} {m k : Nat} (h : k < m) (hm : m ≤ l.length) (v : Nat) : wrIn l m (k + 1) v = (wrIn l m k v).set (m - 1 - k) (UInt8.ofNat (v / 256 ^ k % 256)) := by
  unfold wrIn
  have e : l.take (m - k) = l.take (m - (k + 1)) ++ [l[m - (k + 1)]'(by omega)] := by
    rw [show m - k = m - (k + 1) + 1 by omega]
    exact List.take_succ_eq_append_getElem (by omega)
  rw [e, be_cons, List.append_assoc, List.set_append_right _ _ (by simp; omega), List.length_take, show m - 1 - k - min (m - (k + 1)) l.length = 0 by omega]
  rfl
theorem bytes_at {l : List UInt8} {j : Nat} (h : j < l.length) : ∃ d : Int, (Lib.byteCells l)[j]? = some (.int .u8 d) := by
  unfold Lib.byteCells
  rw [List.getElem?_map, List.getElem?_eq_getElem h]
  exact ⟨_, rfl⟩
/-- What WriteToSlice leaves. -/
def wrote (l : List UInt8) (x : N4) : List UInt8 := wrIn l (min 32 l.length) (min 32 l.length) x.toNat
theorem wrIn_zero (l : List UInt8) (m v : Nat) : wrIn l m 0 v = l := by
  unfold wrIn
  simp [Lib.beBytes, Lib.leBytes]
theorem grownBy_trans' {w w1 w2 : World} {r : Option Nat} (h : w.grownBy w1 r) (k : w1.grownBy w2 r) : w.grownBy w2 r :=
  ⟨k.os.trans h.os, k.tape.trans h.tape, k.output.trans h.output, Nat.le_trans h.size k.size, fun i hi hne => (k.block i (Nat.lt_of_lt_of_le hi h.size) hne).trans (h.block i hi hne)⟩
theorem wrote_len (l : List UInt8) (x : N4) : (wrote l x).length = l.length := wrIn_len (Nat.le_refl _) (Nat.min_le_right _ _) _
attribute [local go_sem ↓] u64_shr8
set_option maxHeartbeats 2000000 in
theorem writeTo_any (b o : Nat) (x : N4) (base : Nat) (v : Value) (l : List UInt8) (w : World) (hx : At4 w b o x) (hown : w.ownsRow base 5 1 v l.length (Lib.byteCells l)) (hne : v.ownBlock ≠ some b) (hl : l.length ≤ 4294967296) :
    Calls Try.prog 38 #[.pointer (some ⟨b, o, none⟩), v] w fun e w' => e = .returned (.tuple #[]) ∧ w'.ownsRow base 5 1 v l.length (Lib.byteCells (wrote l x)) ∧ w.grownBy w' v.ownBlock := by
  rcases hown.2 with ⟨rfl, hn⟩ | ⟨g, cap, cur, hv, hbg, _⟩
  · have : l = [] := List.eq_nil_of_length_eq_zero hn
    subst this
    have h0 := Lib.hid hown
    clear hown
    go_enter Try.func38, Try.ntmps38
    go_wp2
    go_loop [5] (fun t => t = .int .i64 0) (fun _ => 0)
    case atStart => rfl
    case round =>
      obtain rfl := hrel
      go_wp2
      go_end0
      refine ⟨rfl, h0.out, World.grownBy.refl _ _⟩
  · subst hv
    have hbne : b ≠ g := fun e => hne (by rw [e]; rfl)
    have HO := Lib.hid hown
    clear hown
    obtain ⟨n, hnl⟩ : ∃ n, n = l.length := ⟨_, rfl⟩
    have HN := Lib.hid hnl
    rw [← hnl] at hl HO ⊢
    clear hnl
    by_cases hlong : 32 < n
    · go_enter Try.func38, Try.ntmps38
      go_wp2
      go_loopw [5] (fun t wr => ∃ k : Nat, k ≤ 32 ∧ t = .int .i64 (k : Int) ∧ Hid (wr.ownsRow base 5 1 (.slice (some ⟨g, 0, none⟩) n cap) n (Lib.byteCells (wrIn l 32 k x.toNat))) ∧ Hid (w.grownBy wr (some g))) (fun t _ => 32 - (intOf t).toNat)
      case atStart => exact ⟨0, by omega, rfl, by rw [wrIn_zero]; exact HO, World.grownBy.refl w _⟩
      case round =>
        obtain ⟨k, hk, rfl, HR, HG⟩ := hrel
        by_cases hlt : k < 32
        · have hcell := HG.out.cell (hx.word (k / 8) (by omega)) (by simpa using hbne)
          have hf := HR.out.frozenAt (32 - 1 - k)
          have hst := HR.out.cellAt (32 - 1 - k) (by omega)
          obtain ⟨d, hd⟩ := bytes_at (l := wrIn l 32 k x.toNat) (j := 32 - 1 - k) (by rw [wrIn_len (by omega) (by rw [← HN.out]; omega), ← HN.out]; omega)
          rw [hd] at hst
          have H1 := Lib.hid (x.btw k (by omega))
          clear hd
          go_wp2
          go_roundw
          case rel =>
            have e : (((x.wd (k / 8)).toNat : Int) / 2 ^ (8 * (k % 8)) % 256) = ((x.bt k).toNat : Int) := by simpa [IntKind.wrap, IntKind.bits, IntKind.signed] using H1.out
            have s := HR.out.stored (32 - 1 - k) (.int .u8 ((x.bt k).toNat : Int))
            refine ⟨k + 1, by omega, by go_num, ?_, ?_⟩
            · show World.ownsRow _ _ _ _ _ _ _
              rw [wrIn_step (by omega) (by rw [← HN.out]; omega), bytes_set, e]
              exact s.1
            · show World.grownBy _ _ _
              rw [e]
              exact grownBy_trans' HG.out s.2
          case measure => simp [intOf] <;> omega
        · obtain rfl : 32 = k := by omega
          go_wp2
          go_end0
          have h := HR.out
          refine ⟨rfl, ?_, HG.out⟩
          unfold wrote
          rw [← HN.out, show min 32 n = 32 by omega]
          exact h
    · go_enter Try.func38, Try.ntmps38
      go_wp2
      go_loopw [5] (fun t wr => ∃ k : Nat, k ≤ n ∧ t = .int .i64 (k : Int) ∧ Hid (wr.ownsRow base 5 1 (.slice (some ⟨g, 0, none⟩) n cap) n (Lib.byteCells (wrIn l n k x.toNat))) ∧ Hid (w.grownBy wr (some g))) (fun t _ => n - (intOf t).toNat)
      case atStart => exact ⟨0, by omega, rfl, by rw [wrIn_zero]; exact HO, World.grownBy.refl w _⟩
      case round =>
        obtain ⟨k, hk, rfl, HR, HG⟩ := hrel
        by_cases hlt : k < n
        · have hcell := HG.out.cell (hx.word (k / 8) (by omega)) (by simpa using hbne)
          have hf := HR.out.frozenAt (n - 1 - k)
          have hst := HR.out.cellAt (n - 1 - k) (by omega)
          obtain ⟨d, hd⟩ := bytes_at (l := wrIn l n k x.toNat) (j := n - 1 - k) (by rw [wrIn_len (by omega) (by rw [← HN.out]; omega), ← HN.out]; omega)
          rw [hd] at hst
          have H1 := Lib.hid (x.btw k (by omega))
          clear hd
          go_wp2
          go_roundw
          case rel =>
            have e : (((x.wd (k / 8)).toNat : Int) / 2 ^ (8 * (k % 8)) % 256) = ((x.bt k).toNat : Int) := by simpa [IntKind.wrap, IntKind.bits, IntKind.signed] using H1.out
            have s := HR.out.stored (n - 1 - k) (.int .u8 ((x.bt k).toNat : Int))
            refine ⟨k + 1, by omega, by go_num, ?_, ?_⟩
            · show World.ownsRow _ _ _ _ _ _ _
              rw [wrIn_step (by omega) (by rw [← HN.out]; omega), bytes_set, e]
              exact s.1
            · show World.grownBy _ _ _
              rw [e]
              exact grownBy_trans' HG.out s.2
          case measure => simp [intOf] <;> omega
        · obtain rfl : n = k := by omega
          go_wp2
          go_end0
          have h := HR.out
          refine ⟨rfl, ?_, HG.out⟩
          unfold wrote
          rw [← HN.out, show min 32 n = n by omega]
          exact h
set_option maxHeartbeats 400000 in
theorem implPadded_any (x : N4) (n : Nat) (w : World) (hn : n ≤ 1048576) : Calls Try.prog 14 #[x.v, .int .i64 (n : Int)] w (RetOwn (Lib.beBytes n x.toNat) w) := by
  go_enter Try.func14, Try.ntmps14
  go_wp2_with fail
  refine (intOf_any x _).mono ?_
  rintro e w1 ⟨B, rfl, m⟩
  have hb := bel_trans (bel_alloc (bel_refl w) _) m.bel
  go_wp2_with fail
  refine (padInt_any B 0 x n _ m.at4 hn).mono ?_
  rintro e w2 ⟨v, rfl, hown, hb2⟩
  have H := Lib.hid hown
  clear hown
  go_wp2
  go_ret
  exact ⟨_, rfl, own_base H.out hb.size, bel_trans hb hb2⟩
theorem own_bel {w w' : World} {b e s n : Nat} {v : Value} {xs : List Value} (h : w.ownsRow b e s v n xs) (k : Below w.heap.size w w') : w'.ownsRow b e s v n xs := by
  refine h.kept (grown_of_bel k) ?_
  cases hv : v.ownBlock with
  | none => exact .inl rfl
  | some g => exact .inr (by simp)
theorem grown_bel {a w w' : World} {r : Option Nat} (h : Below a.heap.size a w) (hg : w.grownBy w' r) (hr : ∀ g, r = some g → a.heap.size ≤ g) : Below a.heap.size a w' := h.grown hg h.size hr
set_option maxHeartbeats 1000000 in
theorem implWriteTo_any (x : N4) (v : Value) (l : List UInt8) (w : World) (hv : SlB w v l) (hl : l.length ≤ 4294967296) : Calls Try.prog 17 #[x.v, v] w (RetOwn (wrote l x) w) := by
  go_enter Try.func17, Try.ntmps17
  go_wp2_with fail
  refine (copied_any v l _ (hv.alloc _) hl).mono ?_
  rintro e w1 ⟨u, rfl, hown, hb⟩
  have hb1 := bel_trans (bel_alloc (bel_refl w) _) hb
  have hc := fun (o : Nat) (z : Value) h => bel_cell (c := w.heap.size) (o := o) (v := z) hb h
  have HO := Lib.hid hown
  clear hown
  go_wp2_with fail
  refine (intOf_any x _).mono ?_
  rintro e w2 ⟨B, rfl, m⟩
  have hlt := HO.out.lt
  have hown2 := own_bel HO.out m.bel
  have hne : u.ownBlock ≠ some B := by
    intro e
    have h1 := (hlt B e).2
    have h2 := m.ge
    omega
  have hb2 := bel_trans hb1 m.bel
  clear HO
  go_wp2_with fail
  refine (writeTo_any B 0 x _ u l _ m.at4 hown2 hne hl).mono ?_
  rintro e w3 ⟨rfl, hown3, hgrow⟩
  have H3 := Lib.hid hown3
  clear hown3 hown2
  go_wp2
  go_ret
  refine ⟨_, rfl, ?_, hb2.grown hgrow hb2.size (fun g hg => Nat.le_trans (by simp) (hlt g hg).1)⟩
  rw [wrote_len]
  exact own_base H3.out (by simp)
end Go.Proofs.Ytpmhkmcikjbncaa
