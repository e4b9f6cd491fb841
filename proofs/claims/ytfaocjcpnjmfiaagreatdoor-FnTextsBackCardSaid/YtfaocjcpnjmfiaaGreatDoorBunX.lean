/-
  Decimal digits in groups: a numeral is the numeral of its upper part and the padded digits of its lower part.
  strconv.FormatUint and AppendUint at base 10 (the kit's contracts of the parts, laid at this program by its tool: XShelf).
  Rows of bytes in Int.Dec: an owned row cut to nothing, and its copy into the row of digits.
  Int.Dec: the loop over groups of nineteen digits.
  Int.Dec: the decimal numeral of a number, in groups of nineteen digits.
  impl.Dec, MarshalText, impl.Text, MarshalJSON, impl.Json.
-/
import Derived.Lib.ItoaNum
import Derived.Test.YtfaocjcpnjmfiaaGreatDoorShelf
import Derived.Lib.AppendIntMem
import Derived.Lib.BufferKept
import Derived.Lib.OwnKind
import Derived.Test.YtfaocjcpnjmfiaaGreatDoorImpl0
import Derived.Test.YtfaocjcpnjmfiaaGreatDoorRow
import Derived.Laws.IdiomCopy
import Derived.Lib.FrozenHead
import Derived.Test.YtfaocjcpnjmfiaaGreatDoorBunV
import Derived.Test.YtfaocjcpnjmfiaaGreatDoorDec0
import Derived.Test.YtfaocjcpnjmfiaaGreatDoorByt1
import Derived.Great.BuildSlice
import Derived.Lib.SlBytesConst
import Derived.Test.YtfaocjcpnjmfiaaGreatDoorBunT
import Derived.Lib.ConvBytes
import Derived.Lib.AtoiErrMem

set_option linter.unusedVariables false
namespace Go.Proofs.YtfaocjcpnjmfiaaGreatDoor
open Go.Lib

/-- k digits of v, with leading zeros. -/
def padD : Nat → Nat → List UInt8
  | 0, _ => []
  | k + 1, v => padD k (v / 10) ++ [UInt8.ofNat (48 + v % 10)]
theorem padD_length : ∀ (k v : Nat), (padD k v).length = k
  | 0, _ => rfl
  | k + 1, v => by simp [padD, padD_length k]
theorem decDigits_small {u : Nat} (h : u < 10) : decDigits u = [UInt8.ofNat (48 + u)] := by rw [decDigits, dif_pos h]
theorem decDigits_big {u : Nat} (h : ¬ u < 10) : decDigits u = decDigits (u / 10) ++ [UInt8.ofNat (48 + u % 10)] := by rw [decDigits, dif_neg h]
/-- The numeral of a number splits behind its k lower digits. -/
theorem decDigits_split : ∀ (k q r : Nat), 0 < q → r < 10 ^ k → decDigits (q * 10 ^ k + r) = decDigits q ++ padD k r
  | 0, q, r, hq, hr => by
    have : r = 0 := by simpa using hr
    subst this
    simp [padD]
  | k + 1, q, r, hq, hr => by
    have e : q * 10 ^ (k + 1) = 10 * (q * 10 ^ k) := by rw [Nat.pow_succ]; grind
    have hp : 1 ≤ q * 10 ^ k := Nat.mul_pos hq (Nat.pow_pos (by omega))
    rw [Nat.pow_succ] at hr
    have hd : (q * 10 ^ (k + 1) + r) / 10 = q * 10 ^ k + r / 10 := by rw [e]; omega
    have hm : (q * 10 ^ (k + 1) + r) % 10 = r % 10 := by rw [e]; omega
    rw [decDigits_big (by rw [e]; omega), hd, hm, decDigits_split k q (r / 10) hq (by omega), padD, List.append_assoc]
/-- Padded digits are zeros and the numeral. -/
theorem padD_eq : ∀ (k v : Nat), 0 < k → v < 10 ^ k → padD k v = List.replicate (k - nDigits v) 48 ++ decDigits v ∧ nDigits v ≤ k
  | 0, v, h, _ => by omega
  | k + 1, v, _, hv => by
    rw [Nat.pow_succ] at hv
    by_cases hs : v < 10
    · rw [decDigits_small hs, nDigits_small hs, padD, show v / 10 = 0 by omega, show v % 10 = v by omega]
      refine ⟨?_, by omega⟩
      congr 1
      clear hv hs
      have z : ∀ n : Nat, padD n 0 = List.replicate n 48 := by
        intro n
        induction n with
        | zero => rfl
        | succ n ih => rw [padD, Nat.zero_div, ih, List.replicate_succ']; rfl
      rw [z]; simp
    · have hk : 0 < k := by
        rcases Nat.eq_zero_or_pos k with h | h
        · subst h; omega
        · exact h
      obtain ⟨h1, h2⟩ := padD_eq k (v / 10) hk (by omega)
      rw [decDigits_big hs, nDigits_big hs, padD, h1, show k + 1 - (nDigits (v / 10) + 1) = k - nDigits (v / 10) by omega, List.append_assoc]
      exact ⟨rfl, by omega⟩
/-- Padded digits split behind the k lower ones. -/
theorem padD_split : ∀ (k a v : Nat), padD (a + k) v = padD a (v / 10 ^ k) ++ padD k (v % 10 ^ k)
  | 0, a, v => by simp [padD]
  | k + 1, a, v => by
    rw [← Nat.add_assoc, padD, padD, padD_split k a (v / 10), Nat.div_div_eq_div_mul, List.append_assoc, Nat.pow_succ, Nat.mul_comm 10]
    have h1 : v % (10 ^ k * 10) / 10 = v / 10 % 10 ^ k := by rw [Nat.mul_comm, Nat.mod_mul_right_div_self]
    have h2 : v % (10 ^ k * 10) % 10 = v % 10 := Nat.mod_mul_left_mod _ _ _
    rw [h1, h2]

/-- One round: from the digits already laid to the digits with the next group ahead of them. -/
theorem pad_round (j x d : Nat) : padD (d + d * j) (x % 10 ^ (d + d * j)) = padD d (x / 10 ^ (d * j) % 10 ^ d) ++ padD (d * j) (x % 10 ^ (d * j)) := by
  rw [padD_split]
  have h1 : x % 10 ^ (d + d * j) / 10 ^ (d * j) = x / 10 ^ (d * j) % 10 ^ d := by rw [Nat.add_comm, Nat.pow_add, Nat.mod_mul_right_div_self]
  have h2 : x % 10 ^ (d + d * j) % 10 ^ (d * j) = x % 10 ^ (d * j) := by rw [Nat.pow_add]; exact Nat.mod_mul_left_mod _ _ _
  rw [h1, h2]
end Go.Proofs.YtfaocjcpnjmfiaaGreatDoor

namespace Go.Proofs.YtfaocjcpnjmfiaaGreatDoor
open Go.RowKit Go.Sort Go.Lib

/-- The powers of ten of the library hold what its text lays into them. -/
def P10 (w : World) : Prop := Lib.TabIs Tryz.prog w "internal/strconv.uint64pow10" .u64 Lib.pow10Tab
theorem P10.bel {w w1 : World} (h : P10 w) (hb : Below w.heap.size w w1) : P10 w1 := Lib.tabBelow_of_tabIs h w1 hb

theorem appendUintIn (B n u : Nat) (hu64 : u < 18446744073709551616) (sv : Value) (xs : List Value) (w : World) (hown : w.ownsRow B 5 1 sv n xs) (hBw : B ≤ w.heap.size) (hlim : n + 20 ≤ 140737488355328) (htab : P10 w) :
    Calls Tryz.prog 42 #[sv, .int .u64 u, .int .i64 10] w fun e w' => ∃ v', e = .returned v' ∧ w'.ownsRow B 5 1 v' (n + (Lib.decDigits u).length) (xs ++ Lib.byteCells (Lib.decDigits u)) ∧ Below B w w' := by
  by_cases h : u < 100
  · exact (Tryz.internal_strconv_AppendUint_10_small B n u h sv xs w hown hBw hlim).mono fun e w' ⟨v', h1, h2, h3, _⟩ => ⟨v', h1, h2, h3⟩
  · exact (Tryz.internal_strconv_AppendUint_10_big B n u (by omega) hu64 sv xs w hown hBw hlim htab).mono fun e w' ⟨v', h1, h2, h3, _⟩ => ⟨v', h1, h2, h3⟩

theorem appendUint_any (B n u : Nat) (hu64 : u < 18446744073709551616) (sv : Value) (xs : List Value) (w : World) (hown : w.ownsRow B 5 1 sv n xs) (hBw : B ≤ w.heap.size) (hlim : n + 20 ≤ 140737488355328) (htab : P10 w) :
    Calls Tryz.prog 32 #[sv, .int .u64 u, .int .i64 10] w fun e w' => ∃ v', e = .returned v' ∧ w'.ownsRow B 5 1 v' (n + (Lib.decDigits u).length) (xs ++ Lib.byteCells (Lib.decDigits u)) ∧ Below B w w' := by
  have HC := Lib.hid (appendUintIn B n u hu64 sv xs w hown hBw hlim htab)
  clear hown htab
  go_enter Tryz.func32, Tryz.ntmps32
  go_wp2_with fail
  refine HC.out.mono ?_
  rintro e w2 ⟨v2, rfl, hown2, hnx2⟩
  go_wp2
  go_ret
  exact ⟨v2, rfl, hown2, hnx2⟩

set_option maxHeartbeats 6400000 in
set_option maxRecDepth 100000 in
theorem formatUintIn (u : Nat) (hu64 : u < 18446744073709551616) (w : World) (htab : P10 w) :
    Calls Tryz.prog 37 #[.int .u64 u, .int .i64 10] w (RetBel (.string ⟨(Lib.decDigits u).toArray⟩) w) := by
  by_cases hs : u < 100
  · have hu : (u : Int) < 100 := by omega
    go_enter Tryz.func37, Tryz.ntmps37
    go_wp2_with fail
    refine (Tryz.internal_strconv_small u hs _).mono ?_
    rintro e w' ⟨rfl, rfl⟩
    go_wp2
    go_ret
    exact retBel rfl (bel_refl _)
  · have hu1 : 1 ≤ u := by omega
    have hu : (100 : Int) ≤ (u : Int) := by omega
    have hnd20 : Lib.nDigits u ≤ 20 := by have := Lib.numDigits_eq u hu1 hu64; split at this <;> omega
    have hal : Tryz.prog.arrayLen 74 = 24 := by kernel_rfl
    have hsl : ∀ W, (Instr.sliceAt 74 (.pointer (some ⟨w.heap.size, 0, none⟩)) none (some (.int .i64 (Lib.nDigits u : Int))) none).run Tryz.prog W = .ok (.slice (some ⟨w.heap.size, 0, none⟩) (Lib.nDigits u) 24) W := fun W => by
      rw [run_sliceAt_array_h W 74 ⟨w.heap.size, 0, none⟩ (by kernel_rfl) .i64 (Lib.nDigits u : Int) (by omega) (by rw [hal]; omega)]
      go_simp
    have hH0 := Lib.holds_zero0 w 74 (Lib.nDigits u) (by omega)
    have hfmt := Tryz.internal_strconv_formatBase10 w.heap.size 0 24 u (Array.replicate (Lib.nDigits u) 0) (w.alloc (.cells Lib.zeros24 74)) hH0 (by rw [Array.size_replicate]; exact Lib.lt_pow_nDigits u) hu64 (by rw [Array.size_replicate]; omega)
    rw [Array.size_replicate] at hfmt
    have HH0 := Lib.hid hH0
    clear hH0 hal
    go_enter Tryz.func37, Tryz.ntmps37
    go_wp2_with fail
    refine (Tryz.internal_strconv_numDigits u hu1 hu64 _ (Lib.tabIs_alloc htab _)).mono ?_
    rintro e w' ⟨rfl, rfl⟩
    go_wp2_with fail
    refine hfmt.mono ?_
    rintro e w' ⟨rfl, k, v', dk, rfl, hF⟩
    have hcv : (convert 43 9 (.slice (some ⟨w.heap.size, 0, none⟩) (Lib.nDigits u) 24)).run Tryz.prog ((putRow (fun (b : UInt8) => Value.int .u8 (b.toNat : Int)) (w.alloc (.cells Lib.zeros24 74)) w.heap.size 0 dk).drewN k) = .ok (.string ⟨(Lib.decDigits u).toArray⟩) ((putRow (fun (b : UInt8) => Value.int .u8 (b.toNat : Int)) (w.alloc (.cells Lib.zeros24 74)) w.heap.size 0 dk).drewN k) := by
      have h := run_convert_bytes_back (P := Tryz.prog) ((putRow (fun (b : UInt8) => Value.int .u8 (b.toNat : Int)) (w.alloc (.cells Lib.zeros24 74)) w.heap.size 0 dk).drewN k) 43 9 5 ⟨w.heap.size, 0, none⟩ 24 (Lib.decDigits u) (by kernel_rfl) (by kernel_rfl) (by kernel_rfl) (fun j hj => by
        rw [Lib.row_is_numeral hF j hj, Lib.add_plain, World.cell?_drewN]
        exact cell?_putRow (fun (b : UInt8) => Value.int .u8 (b.toNat : Int)) _ w.heap.size 0 _ dk HH0.out (by rw [hF.size, Array.size_replicate]) j (by rw [hF.size]; rw [Lib.decDigits_length] at hj; exact hj))
      rw [Lib.decDigits_length] at h
      exact h
    go_wp2
    go_ret
    obtain ⟨os, eo⟩ := Lib.fin_at w (.cells Lib.zeros24 74) dk k 0
    refine retBel rfl ?_
    rw [eo]
    exact Lib.below_grow w.heap.size w (Nat.le_refl _) k os

theorem formatUint_any (u : Nat) (hu64 : u < 18446744073709551616) (w : World) (htab : P10 w) :
    Calls Tryz.prog 27 #[.int .u64 u, .int .i64 10] w (RetBel (.string ⟨(Lib.decDigits u).toArray⟩) w) := by
  have HC := Lib.hid (formatUintIn u hu64 w htab)
  clear htab
  go_enter Tryz.func27, Tryz.ntmps27
  go_wp2_with fail
  refine HC.out.mono ?_
  rintro e w2 ⟨rfl, hb⟩
  go_wp2
  go_ret
  exact retBel rfl hb

end Go.Proofs.YtfaocjcpnjmfiaaGreatDoor

set_option linter.unusedVariables false
set_option linter.unusedSimpArgs false
namespace Go.Proofs.YtfaocjcpnjmfiaaGreatDoor
open Go.RowKit Go.Lib

theorem own_cut0 {w : World} {B g n cap : Nat} {e : TypeId} {xs : List Value} (h : w.ownsRow B e 1 (.slice (some ⟨g, 0, none⟩) n cap) n xs) : w.ownsRow B e 1 (.slice (some ⟨g, 0, none⟩) 0 cap) 0 [] := by
  obtain ⟨h1, h2⟩ := h
  refine ⟨rfl, .inr ?_⟩
  rcases h2 with ⟨h3, _⟩ | ⟨g', cap', cur, h3, h4, h5, h6, h7, h8, h9⟩
  · cases h3
  · cases h3
    exact ⟨g, cap, cur, rfl, h4, h5, Nat.zero_le _, h7, h8, by simp⟩

/-- A block of its own holds these bytes and no more (marked as the bytes of a constant: no cell of it is frozen). -/
def RowIs (w : World) (g : Nat) (l : List UInt8) : Prop := w.heap[g]? = some (.cells (Lib.byteCells l).toArray 5 (l.length, l.length + 1))
theorem RowIs.bel {w w' : World} {g : Nat} {l : List UInt8} (h : RowIs w g l) (hb : Below w.heap.size w w') : RowIs w' g l := by
  unfold RowIs at *
  have hg : g < w.heap.size := (Array.getElem?_eq_some_iff.1 h).1
  rw [hb.block g hg]; exact h
theorem RowIs.cell {w : World} {g : Nat} {l : List UInt8} (h : RowIs w g l) (i : Nat) (hi : i < l.length) : w.cell? ⟨g, i, none⟩ = some (.int .u8 (l[i].toNat : Int)) := by
  unfold RowIs at h
  simp [World.cell?, h, Lib.byteCells, hi]
theorem RowIs.free {w : World} {g : Nat} {l : List UInt8} (h : RowIs w g l) (i : Nat) (hi : i < l.length) : w.frozen? ⟨g, i, none⟩ = false := by
  unfold RowIs at h
  simp [World.frozen?, h]
  omega
/-- The owned row goes into the row of digits, from place o. -/
theorem RowIs.copy {w : World} {g B gb n cap : Nat} {l ys : List UInt8} (h : RowIs w g l) (hown : w.ownsRow B 5 1 (.slice (some ⟨gb, 0, none⟩) n cap) n (Lib.byteCells ys)) (o k c : Nat) (hn : n = ys.length) (hk : n ≤ k) (ho : o + n ≤ l.length) :
    (Builtin.copy_ #[43, 43] 3 #[.slice (some ⟨g, o, none⟩) k c, .slice (some ⟨gb, 0, none⟩) n cap]).run Tryz.prog w = .ok (goInt n) (w.setCells g o (Lib.byteCells ys)) := by
  have hl : (Lib.byteCells ys).length = n := by simp [Lib.byteCells, hn]
  have r := run_copy_cells (P := Tryz.prog) w 43 43 3 5 g o k c ⟨gb, 0, none⟩ n cap (Lib.byteCells ys) (by kernel_rfl) (by kernel_rfl) (by rw [hl]; exact (Nat.min_eq_left hk).symm)
    (fun j v hv => (World.ownsRowF_of hown).cells rfl j v hv)
    (fun j hj => by rw [hl] at hj; rw [h.cell (o + j) (by omega)]; rfl)
    (fun j hj => by rw [hl] at hj; exact h.free (o + j) (by omega))
    (fun v hv => by simp only [Lib.byteCells, List.mem_map] at hv; obtain ⟨b, _, rfl⟩ := hv; rfl)
  rw [hl] at r
  exact r
theorem RowIs.set {w : World} {g : Nat} {l : List UInt8} (h : RowIs w g l) (o : Nat) (b : UInt8) : RowIs (w.setCell ⟨g, o, none⟩ (.int .u8 (b.toNat : Int))) g (l.set o b) := by
  unfold RowIs at *
  have e : (Lib.byteCells l).toArray.setIfInBounds o (Value.int .u8 (b.toNat : Int)) = (Lib.byteCells (l.set o b)).toArray := by
    simp [Lib.byteCells, List.map_set]
  simp only [World.setCell, Array.getElem?_modify, if_pos, h, Option.map_some]
  simp only [Option.isSome_none, if_neg (show ¬ (false = true) by decide), e, List.length_set]
/-- What stands in the row behind the copy. -/
theorem RowIs.setCells {g : Nat} : ∀ (ys : List UInt8) {w : World} {l : List UInt8} (o : Nat), RowIs w g l → o + ys.length ≤ l.length → RowIs (w.setCells g o (Lib.byteCells ys)) g (l.take o ++ ys ++ l.drop (o + ys.length))
  | [], w, l, o, h, _ => by simpa [World.setCells, Lib.byteCells] using h
  | y :: ys, w, l, o, h, ho => by
    simp only [List.length_cons] at ho
    have h2 := RowIs.setCells ys (o + 1) (h.set o y) (by simp; omega)
    have e : (l.set o y).take (o + 1) ++ ys ++ (l.set o y).drop (o + 1 + ys.length) = l.take o ++ (y :: ys) ++ l.drop (o + (y :: ys).length) := by
      rw [List.take_set, List.drop_set_of_lt (by omega), List.take_succ_eq_append_getElem (by omega), List.set_append_right _ _ (by simp; omega)]
      simp [show min o l.length = o by omega, show o + 1 + ys.length = o + (ys.length + 1) by omega]
    rw [e] at h2
    exact h2
theorem But.setCells {S : List Nat} {g : Nat} : ∀ (vs : List Value) {w w' : World} (o : Nat), But S w w' → (g ∈ S ∨ w.heap.size ≤ g) → But S w (w'.setCells g o vs)
  | [], _, _, _, h, _ => h
  | v :: vs, _, _, o, h, hg => But.setCells vs (o + 1) (h.set hg o v) hg
theorem RowIs.but {S : List Nat} {w w' : World} {g : Nat} {l : List UInt8} (h : RowIs w g l) (hb : But S w w') (hg : g ∉ S) : RowIs w' g l := by
  unfold RowIs at *
  have hl : g < w.heap.size := (Array.getElem?_eq_some_iff.1 h).1
  rw [hb.block g hl hg]; exact h
theorem own_but {S : List Nat} {w w' : World} {B n gb cap : Nat} {e : TypeId} {xs : List Value} (h : w.ownsRow B e 1 (.slice (some ⟨gb, 0, none⟩) n cap) n xs) (hb : But S w w') (hg : gb ∉ S) : w'.ownsRow B e 1 (.slice (some ⟨gb, 0, none⟩) n cap) n xs := by
  obtain ⟨h1, h2⟩ := h
  refine ⟨h1, .inr ?_⟩
  rcases h2 with ⟨h3, _⟩ | ⟨g', cap', cur, h3, h4, h5, h6, h7, h8, h9⟩
  · cases h3
  · cases h3
    have hl : gb < w.heap.size := (Array.getElem?_eq_some_iff.1 h5).1
    exact ⟨gb, cap, cur, rfl, h4, by rw [hb.block gb hl hg]; exact h5, h6, h7, h8, h9⟩
end Go.Proofs.YtfaocjcpnjmfiaaGreatDoor

set_option linter.unusedVariables false
set_option linter.unusedSimpArgs false
namespace Go.Proofs.YtfaocjcpnjmfiaaGreatDoor
open Go.RowKit Go.Lib
/-- The first loop's body in a code. -/
def loopBody : Code → Option Code
  | .loop c => some c
  | .seq a b => match loopBody a with
    | some c => some c
    | none => loopBody b
  | .block _ c => loopBody c
  | .scope c => loopBody c
  | .cond _ a b => match loopBody a with
    | some c => some c
    | none => loopBody b
  | _ => none
noncomputable def decBody : Code := (Tryz.f15.body.bind loopBody).getD .skip
abbrev D19 : N4 := ⟨10000000000000000000#64, 0#64, 0#64, 0#64⟩
theorem D19_toNat : D19.toNat = 10 ^ 19 := by decide
/-- What holds at the head of round j. -/
structure DecW (go gy dv gb : Nat) (w0 : World) (x : N4) (j g n cap : Nat) (W : World) : Prop where
  jle : j ≤ 4
  pos : 0 < x.toNat / 10 ^ (19 * j)
  own : ∃ xs, W.ownsRow gb 5 1 (.slice (some ⟨g, 0, none⟩) n cap) n xs
  row : RowIs W go (List.replicate (98 - 19 * j) 48 ++ padD (19 * j) (x.toNat % 10 ^ (19 * j)))
  y4 : At4 W gy 0 (ofN (x.toNat / 10 ^ (19 * j)))
  yf : Free4 W gy 0
  d4 : At4 W dv 0 D19
  bel : Below w0.heap.size w0 W
  gbl : gb ≤ W.heap.size
/-- What holds behind the loop. -/
structure DecX (go : Nat) (w0 : World) (x : N4) (K L : Nat) (W : World) : Prop where
  kl : K + (decDigits x.toNat).length = 98
  row : RowIs W go (List.replicate K 48 ++ decDigits x.toNat)
  bel : Below w0.heap.size w0 W
theorem dec_row (j N : Nat) (d : List UInt8) (h : 19 * j + d.length ≤ 98) :
    (List.replicate (98 - 19 * j) 48 ++ padD (19 * j) N).take (98 - 19 * j - d.length) ++ d ++ (List.replicate (98 - 19 * j) 48 ++ padD (19 * j) N).drop (98 - 19 * j - d.length + d.length) = List.replicate (98 - 19 * j - d.length) 48 ++ d ++ padD (19 * j) N := by
  rw [List.take_append_of_le_length (by simp), List.take_replicate, show 98 - 19 * j - d.length + d.length = 98 - 19 * j by omega, show min (98 - 19 * j - d.length) (98 - 19 * j) = 98 - 19 * j - d.length by omega]
  congr 1
  rw [List.drop_append_of_le_length (by simp)]
  simp
theorem dec_more (X j : Nat) (hj : j ≤ 3) : List.replicate (98 - 19 * j - (decDigits (X / 10 ^ (19 * j) % 10 ^ 19)).length) 48 ++ decDigits (X / 10 ^ (19 * j) % 10 ^ 19) ++ padD (19 * j) (X % 10 ^ (19 * j)) = List.replicate (98 - 19 * (j + 1)) 48 ++ padD (19 * (j + 1)) (X % 10 ^ (19 * (j + 1))) := by
  obtain ⟨h1, h2⟩ := padD_eq 19 (X / 10 ^ (19 * j) % 10 ^ 19) (by omega) (Nat.mod_lt _ (by decide))
  rw [show 19 * (j + 1) = 19 + 19 * j by omega, pad_round, ← List.append_assoc, h1, ← List.append_assoc, List.replicate_append_replicate, decDigits_length, show 98 - (19 + 19 * j) + (19 - nDigits (X / 10 ^ (19 * j) % 10 ^ 19)) = 98 - 19 * j - nDigits (X / 10 ^ (19 * j) % 10 ^ 19) by omega]
theorem dec_last (X j : Nat) (h0 : X / 10 ^ (19 * j) / 10 ^ 19 = 0) (hp : 0 < X / 10 ^ (19 * j)) : decDigits (X / 10 ^ (19 * j) % 10 ^ 19) ++ padD (19 * j) (X % 10 ^ (19 * j)) = decDigits X := by
  have e : X / 10 ^ (19 * j) % 10 ^ 19 = X / 10 ^ (19 * j) := Nat.mod_eq_of_lt (Nat.lt_of_div_eq_zero (by decide) h0)
  have hl : X % 10 ^ (19 * j) < 10 ^ (19 * j) := Nat.mod_lt _ (Nat.pow_pos (by omega))
  have h := decDigits_split (19 * j) (X / 10 ^ (19 * j)) (X % 10 ^ (19 * j)) hp hl
  rw [Nat.div_add_mod'] at h
  rw [e, h]
theorem dec_div (X j : Nat) : X / 10 ^ (19 * j) / 10 ^ 19 = X / 10 ^ (19 * (j + 1)) := by
  rw [Nat.div_div_eq_div_mul, ← Nat.pow_add, show 19 * j + 19 = 19 * (j + 1) by omega]
theorem dec_stop (x : N4) : x.toNat / 10 ^ (19 * 5) = 0 := Nat.div_eq_of_lt (Nat.lt_of_lt_of_le (toNat_lt x) (by decide))
theorem RowIs.bel' {w w' : World} {g B : Nat} {l : List UInt8} (h : RowIs w g l) (hb : Below B w w') (hg : g < B) : RowIs w' g l := by
  unfold RowIs at *
  rw [hb.block g hg]; exact h
theorem At4.belB {a b : World} {B c o : Nat} {x : N4} (h : At4 a c o x) (k : Below B a b) (hc : c < B) : At4 b c o x := by
  obtain ⟨h0, h1, h2, h3⟩ := h
  have e : ∀ p, b.cell? ⟨c, p, none⟩ = a.cell? ⟨c, p, none⟩ := fun p => k.cell (p := ⟨c, p, none⟩) hc
  exact ⟨(e _).trans h0, (e _).trans h1, (e _).trans h2, (e _).trans h3⟩
theorem nDigits_max (k u : Nat) (hk : 0 < k) (hu : u < 10 ^ k) : nDigits u ≤ k := (padD_eq k u hk hu).2
theorem Free4.belB {a b : World} {B c o : Nat} (h : Free4 a c o) (k : Below B a b) (hc : c < B) : Free4 b c o := by
  obtain ⟨h0, h1, h2, h3⟩ := h
  have e : ∀ p, b.frozen? ⟨c, p, none⟩ = a.frozen? ⟨c, p, none⟩ := fun p => by unfold World.frozen?; rw [k.block c hc]
  exact ⟨(e _).trans h0, (e _).trans h1, (e _).trans h2, (e _).trans h3⟩
theorem own_slice {w : World} {B n : Nat} {e : TypeId} {v : Value} {xs : List Value} (h : w.ownsRow B e 1 v n xs) (hn : 0 < n) : ∃ g cap, v = .slice (some ⟨g, 0, none⟩) n cap ∧ B ≤ g := by
  obtain ⟨h1, h2⟩ := h
  rcases h2 with ⟨h3, h4⟩ | ⟨g', cap', cur, h3, h4, h5⟩
  · omega
  · exact ⟨g', cap', h3, h4⟩
set_option maxHeartbeats 8000000 in
set_option maxRecDepth 20000 in
theorem dec_round (go gy dv gb : Nat) (w0 : World) (x : N4) (j g n cap : Nat) (W : World) (Q : Exit → Act → World → Prop) (c0 c1 c2 c10 c11 c12 c13 c14 c15 c16 c17 c18 c19 c20 c21 c22 c23 c24 c25 c50 c51 c52 c53 c54 c55 c56 v8 v9 v26 v27 v28 v29 v30 v31 v32 v33 v34 v35 v36 v37 v38 v39 v40 v41 v42 v43 v44 v45 v46 v47 v48 v49 : Value)
    (H : DecW go gy dv gb w0 x j g n cap W) (h1 : go ≠ gy) (h2 : dv ≠ gy) (h3 : dv ≠ go) (h4 : go < gb) (h5 : gy < gb) (h6 : dv < gb) (h7 : w0.heap.size ≤ go) (h8 : w0.heap.size ≤ gy) (P0 : P10 w0)
    (HN : Hid (∀ (g n cap : Nat) (P : Int) (W' : World) (u8 u9 u26 u27 u28 u29 u30 u31 u32 u33 u34 u35 u36 u37 u38 u39 u40 u41 u42 u43 u44 u45 u46 u47 u48 u49 : Value), P = 98 - 19 * ((j + 1 : Nat) : Int) → DecW go gy dv gb w0 x (j + 1) g n cap W' → Q .normal ⟨List.toArray (c0 :: c1 :: c2 :: .slice (some ⟨go, 0, none⟩) 98 98 :: .pointer (some ⟨dv, 0, none⟩) :: .pointer (some ⟨gy, 0, none⟩) :: .int .i64 P :: (.slice (some ⟨g, 0, none⟩) n cap) :: u8 :: u9 :: c10 :: c11 :: c12 :: c13 :: c14 :: c15 :: c16 :: c17 :: c18 :: c19 :: c20 :: c21 :: c22 :: c23 :: c24 :: c25 :: u26 :: u27 :: u28 :: u29 :: u30 :: u31 :: u32 :: u33 :: u34 :: u35 :: u36 :: u37 :: u38 :: u39 :: u40 :: u41 :: u42 :: u43 :: u44 :: u45 :: u46 :: u47 :: u48 :: u49 :: c50 :: c51 :: c52 :: c53 :: c54 :: c55 :: c56 :: []), []⟩ W'))
    (HX : Hid (∀ (K L g cap : Nat) (P : Int) (W' : World) (u8 u9 u26 u27 u28 u29 u30 u31 u32 u33 u34 u35 u36 u37 u38 u39 u40 u41 u42 u43 u44 u45 u46 u47 u48 u49 : Value), P = ((K + L : Nat) : Int) → DecX go w0 x K L W' → Q (.exit 0) ⟨List.toArray (c0 :: c1 :: c2 :: .slice (some ⟨go, 0, none⟩) 98 98 :: .pointer (some ⟨dv, 0, none⟩) :: .pointer (some ⟨gy, 0, none⟩) :: .int .i64 P :: (.slice (some ⟨g, 0, none⟩) L cap) :: u8 :: u9 :: c10 :: c11 :: c12 :: c13 :: c14 :: c15 :: c16 :: c17 :: c18 :: c19 :: c20 :: c21 :: c22 :: c23 :: c24 :: c25 :: u26 :: u27 :: u28 :: u29 :: u30 :: u31 :: u32 :: u33 :: u34 :: u35 :: u36 :: u37 :: u38 :: u39 :: u40 :: u41 :: u42 :: u43 :: u44 :: u45 :: u46 :: u47 :: u48 :: u49 :: c50 :: c51 :: c52 :: c53 :: c54 :: c55 :: c56 :: []), []⟩ W')) :
    Code.wp Tryz.prog decBody Q ⟨List.toArray (c0 :: c1 :: c2 :: .slice (some ⟨go, 0, none⟩) 98 98 :: .pointer (some ⟨dv, 0, none⟩) :: .pointer (some ⟨gy, 0, none⟩) :: .int .i64 (98 - 19 * (j : Int)) :: (.slice (some ⟨g, 0, none⟩) n cap) :: v8 :: v9 :: c10 :: c11 :: c12 :: c13 :: c14 :: c15 :: c16 :: c17 :: c18 :: c19 :: c20 :: c21 :: c22 :: c23 :: c24 :: c25 :: v26 :: v27 :: v28 :: v29 :: v30 :: v31 :: v32 :: v33 :: v34 :: v35 :: v36 :: v37 :: v38 :: v39 :: v40 :: v41 :: v42 :: v43 :: v44 :: v45 :: v46 :: v47 :: v48 :: v49 :: c50 :: c51 :: c52 :: c53 :: c54 :: c55 :: c56 :: []), []⟩ W := by
  obtain ⟨jle, pos, ⟨xs, own⟩, row, y4, yf, d4, bel, gbl⟩ := H
  have HOWN := Lib.hid own
  have HROW := Lib.hid row
  have HY := Lib.hid y4
  have HYF := Lib.hid yf
  have HD := Lib.hid d4
  have HP0 := Lib.hid P0
  have HB := Lib.hid bel
  have HPOS := Lib.hid pos
  clear own row y4 yf d4 bel pos P0
  conv => arg 2; whnf
  go_upto_region 11 with fail
  generalize hW1 : (W.alloc (Obj.cells #[.int .u64 0, .int .u64 0, .int .u64 0, .int .u64 0] 41)).alloc (Obj.cells #[.int .u64 0, .int .u64 0, .int .u64 0, .int .u64 0] 41) = W1
  have b1 : Below W.heap.size W W1 := by rw [← hW1]; exact bel_alloc (bel_alloc (bel_refl W) _) _
  have s1 : W1.heap.size = W.heap.size + 2 := by rw [← hW1]; simp
  have HQR : Hid (RowW W1 W.heap.size 0 (List.replicate 4 0#64)) := by
    show RowW _ _ _ _
    rw [← hW1]; exact (RowW.new4 W _).alloc _
  have HR4 : Hid (At4 W1 (W.heap.size + 1) 0 ⟨0#64, 0#64, 0#64, 0#64⟩) := by
    show At4 _ _ _ _
    rw [← hW1]; constructor <;> simp [go_sem] <;> rfl
  have HRF : Hid (Free4 W1 (W.heap.size + 1) 0) := by
    show Free4 _ _ _
    rw [← hW1]; constructor <;> simp [go_sem]
  generalize hq : W.heap.size = q at *
  clear hW1
  have HY1 := Lib.hid (HY.out.bel (by rw [hq]; exact b1))
  have HYF1 := Lib.hid (HYF.out.bel HY.out.lt (by rw [hq]; exact b1))
  have HD1 := Lib.hid (HD.out.bel (by rw [hq]; exact b1))
  obtain ⟨Y, hY⟩ : ∃ Y, Y = x.toNat / 10 ^ (19 * j) := ⟨_, rfl⟩
  have hYN : (ofN Y).toNat = Y := by
    rw [ofN_toNat, Nat.mod_eq_of_lt]
    rw [hY]; exact Nat.lt_of_le_of_lt (Nat.div_le_self _ _) (toNat_lt x)
  rw [← hY] at HY1
  have HYE := Lib.hid hY
  have HYN := Lib.hid hYN
  clear hY hYN
  have hgy : gy < q := by omega
  have hdv : dv < q := by omega
  have UD : Hid (∀ k, Calls Tryz.prog 31 #[.slice (some ⟨q, 0, none⟩) 4 4, .slice (some ⟨gy, 0, none⟩) 4 4, .pointer (some ⟨dv, 0, none⟩), .pointer (some ⟨q + 1, 0, none⟩)] (W1.drewN k) fun e w' => e = .returned (.tuple #[]) ∧ At4 w' q 0 (ofN (Y / 10 ^ 19)) ∧ (∃ r : N4, At4 w' (q + 1) 0 r ∧ r.toNat = Y % 10 ^ 19) ∧ But [q, q + 1] W1 w') := fun k => by
    have h := udivrem_wide q 0 4 4 gy 0 4 4 dv 0 (some (q + 1, 0)) (ofN Y).l4 D19 (W1.drewN k) (HQR.out.drewN k) (RowW.of4 (HY1.out.drewN k) (HYF1.out.drewN k)) (HD1.out.drewN k) rfl (by decide) (by decide) (by decide) (by decide) (by decide) (by omega) (by omega) (fun b o e => by cases e; exact ⟨HR4.out.drewN k, HRF.out.drewN k, by omega, by omega, by omega, .inr (by rw [D19_toNat]; decide)⟩) (by rw [D19_toNat]; decide) (by rw [N4.wseg4, HYN.out]; rw [HYE.out]; exact HPOS.out)
    refine h.mono ?_
    rintro e w' ⟨Q', he, g1, g2, g3, g4, g5⟩
    rw [N4.wseg4, HYN.out, D19_toNat] at g2
    obtain ⟨r, r1, r2, r3⟩ := g4 (q + 1) 0 rfl
    rw [N4.wseg4, HYN.out, D19_toNat] at r3
    refine ⟨he, ?_, ⟨r, r1, r3⟩, ((But.refl _ W1).drewN k).trans g5⟩
    rw [← n4_ofN g2]
    exact g3.at4 (by omega)
  have hsl := fun b o w => sliceAll4 b o w
  go_region_held3 (fun w' => True) (trivial) ((go_at_call 31; refine (UD.out _).mono ?_; rintro e w5 ⟨rfl, hq5, ⟨r, hr5, hrN⟩, hB5⟩))
  have B5 : But [gy] W w5 := (But.of_bel (S := [gy]) (by rw [hq]; exact b1)).step hB5 (fun t ht => by simp at ht; omega)
  have HY5 := Lib.hid (HY1.out.but hB5 (by simp; omega))
  have HYF5 := Lib.hid (HYF1.out.but HY1.out.lt hB5 (by simp; omega))
  have HQ5 := Lib.hid hq5
  have HR5 := Lib.hid hr5
  have HB5' := Lib.hid B5
  have hgyq : gy ≠ q := by omega
  clear hsl UD HY1 HYF1 HD1 HQR HR4 HRF hB5 hq5 hr5 B5 b1
  go_upto_region 13 with (go_at_call 30; refine (set_any gy 0 q 0 _ _ _ HY5.out HYF5.out HQ5.out (Sep.blocks (by omega))).mono ?_; rintro e w6 ⟨rfl, n6, hw6⟩; have HW6 := Lib.hid hw6; clear hw6)
  have hw6 := HW6.out
  have B6 : But [gy] W w6 := by rw [hw6]; exact (HB5'.out.put4 (by simp) _ _).drewN _
  have HY6 : Hid (At4 w6 gy 0 (ofN (Y / 10 ^ 19))) := by show At4 _ _ _ _; rw [hw6]; exact (put4_at _ _ _ _ _ HY5.out).drewN _
  have HYF6 : Hid (Free4 w6 gy 0) := by show Free4 _ _ _; rw [hw6]; exact (Free4.put _ HYF5.out).drewN _
  have HR6 : Hid (At4 w6 (q + 1) 0 r) := by show At4 _ _ _ _; rw [hw6]; exact (put4_far HR5.out (by omega)).drewN _
  have HD6 := Lib.hid (HD.out.but B6 (by simp; omega))
  have HROW6 := Lib.hid (HROW.out.but B6 (by simp; omega))
  have HB6 := Lib.hid (B6.bel HB.out (fun b hb => by simp at hb; omega))
  have gbl6 : gb ≤ w6.heap.size := Nat.le_trans (by omega) B6.size
  obtain ⟨_, _, e0, hgg⟩ : ∃ g' cap', Value.slice (some ⟨g, 0, none⟩) n cap = .slice (some ⟨g', 0, none⟩) n cap' ∧ gb ≤ g' := by
    rcases HOWN.out.2 with ⟨e, _⟩ | ⟨g', cap', cur, e, hb, _⟩
    · cases e
    · exact ⟨g', cap', e, hb⟩
  cases e0
  have HOWN6 := Lib.hid (own_cut0 (own_but HOWN.out B6 (by simp; omega)))
  have hr64 : r.toNat < 18446744073709551616 := by rw [hrN]; exact Nat.lt_of_lt_of_le (Nat.mod_lt _ (by decide)) (by decide)
  have hra : r.a.toNat = Y % 10 ^ 19 := by rw [← hrN]; exact (small_toNat (by omega)).symm
  obtain ⟨ds, hds⟩ : ∃ ds, ds = decDigits (Y % 10 ^ 19) := ⟨_, rfl⟩
  have APP : Hid (∀ k, Calls Tryz.prog 32 #[.slice (some ⟨g, 0, none⟩) 0 cap, V r.a, .int .i64 10] (w6.drewN k) fun e w' => ∃ g' cap', e = .returned (.slice (some ⟨g', 0, none⟩) ds.length cap') ∧ gb ≤ g' ∧ w'.ownsRow gb 5 1 (.slice (some ⟨g', 0, none⟩) ds.length cap') ds.length (byteCells ds) ∧ Below gb w6 w') := fun k => by
    have h := appendUint_any gb 0 r.a.toNat r.a.isLt (.slice (some ⟨g, 0, none⟩) 0 cap) [] (w6.drewN k) HOWN6.out gbl6 (by omega) (HP0.out.bel ((bel_drewN HB6.out k)))
    refine h.mono ?_
    rintro e w' ⟨v', rfl, g1, g2⟩
    rw [hra, ← hds, Nat.zero_add, List.nil_append] at g1
    obtain ⟨g', cap', rfl, g3⟩ := own_slice g1 (by rw [hds, decDigits_length]; exact nDigits_pos _)
    exact ⟨g', cap', rfl, g3, g1, ⟨g2.os, g2.tape, g2.output, g2.size, g2.block⟩⟩
  have HDS := Lib.hid hds
  have HRN := Lib.hid hrN
  clear hds hrN hra HW6
  clear hw6 HY5 HYF5 HQ5 HR5 HB5' HOWN HROW HD HY HYF
  go_region_held3 (fun w' => True) (trivial) (first | (go_at_call 28; refine (uint64_any (q + 1) 0 r _ (HR6.out.drewN _)).mono ?_; rintro e w7 ⟨rfl, k7, rfl⟩) | (go_at_call 32; refine (APP.out _).mono ?_; rintro e w7 ⟨g', cap', rfl, hg', hown7, hb7⟩))
  have HY7 := Lib.hid (HY6.out.belB hb7 h5)
  have HYF7 := Lib.hid (HYF6.out.belB hb7 h5)
  have HD7 := Lib.hid (HD6.out.belB hb7 h6)
  have HROW7 := Lib.hid (HROW6.out.bel' hb7 h4)
  have HB7 := Lib.hid (HB6.out.trans (hb7.mono (by omega)))
  have gbl7 : gb ≤ w7.heap.size := Nat.le_trans gbl6 hb7.size
  have HOWN7 := Lib.hid hown7
  have hL1 : 0 < ds.length := by rw [HDS.out, decDigits_length]; exact nDigits_pos _
  have hL19 : ds.length ≤ 19 := by rw [HDS.out, decDigits_length]; exact nDigits_max 19 _ (by omega) (Nat.mod_lt _ (by decide))
  obtain ⟨L, hL⟩ : ∃ L, L = ds.length := ⟨_, rfl⟩
  obtain ⟨K, hK⟩ : ∃ K, K = 98 - 19 * j - L := ⟨_, rfl⟩
  have HLE := Lib.hid hL
  rw [← hL] at HOWN7 hL1 hL19 ⊢
  have hKL : K + L + 19 * j = 98 := by omega
  have hk : (98 : Int) - 19 * (j : Int) - (L : Int) = (K : Int) := by omega
  have hlen : (List.replicate (98 - 19 * j) (48 : UInt8) ++ padD (19 * j) (x.toNat % 10 ^ (19 * j))).length = 98 := by rw [List.length_append, List.length_replicate, padD_length]; omega
  have hcp := HROW7.out.copy HOWN7.out K (98 - K) (98 - K) HLE.out (by omega) (by rw [hlen]; omega)
  have HROW8 := HROW7.out.setCells ds K (by rw [hlen, ← HLE.out]; omega)
  have B8 : But [go] w7 (w7.setCells go K (byteCells ds)) := But.setCells (byteCells ds) K (But.refl _ _) (by simp)
  rw [HLE.out] at hK
  have HR8 := Lib.hid (show RowIs (w7.setCells go K (byteCells ds)) go (List.replicate (98 - 19 * j - ds.length) 48 ++ ds ++ padD (19 * j) (x.toNat % 10 ^ (19 * j))) by rw [hK, dec_row j _ ds (by omega)] at HROW8; rw [hK]; exact HROW8)
  have HY8 := Lib.hid (HY7.out.but B8 (by simp; omega))
  have HYF8 := Lib.hid (HYF7.out.but HY7.out.lt B8 (by simp; omega))
  have HD8 := Lib.hid (HD7.out.but B8 (by simp; omega))
  have HO8 := Lib.hid (own_but HOWN7.out B8 (by simp; omega))
  have HB8 := Lib.hid (B8.bel HB7.out (fun b hb => by simp at hb; omega))
  have gbl8 : gb ≤ (w7.setCells go K (byteCells ds)).heap.size := Nat.le_trans gbl7 B8.size
  clear hL hK hlen HROW8 B8 hown7 hb7 HY7 HYF7 HD7 HROW7 HOWN7 HY6 HYF6 HR6 HD6 HROW6 HB6 HOWN6 APP HB7
  generalize hw8 : w7.setCells go K (byteCells ds) = w8 at *
  clear hw8
  go_upto_region 15 with fail
  clear hcp
  have hYdiv : Y / 10 ^ 19 = x.toNat / 10 ^ (19 * (j + 1)) := by rw [HYE.out]; exact dec_div _ _
  have hYN2 : (ofN (Y / 10 ^ 19)).toNat = Y / 10 ^ 19 := by
    rw [ofN_toNat, Nat.mod_eq_of_lt]
    exact Nat.lt_of_le_of_lt (Nat.le_trans (Nat.div_le_self _ _) (by rw [HYE.out]; exact Nat.div_le_self _ _)) (toNat_lt x)
  cases hz : (ofN (Y / 10 ^ 19)).isZ
  · have hne : 0 < Y / 10 ^ 19 := by
      rcases Nat.eq_zero_or_pos (Y / 10 ^ 19) with h0 | h0
      · rw [(isZ_iff _).2 (by rw [hYN2, h0])] at hz; cases hz
      · exact h0
    have hj3 : j ≤ 3 := by
      rcases Nat.lt_or_ge j 4 with h | h
      · omega
      · have : j = 4 := by omega
        subst this
        rw [hYdiv, dec_stop] at hne
        omega
    have HNE := Lib.hid hne
    have HYD := Lib.hid hYdiv
    clear hYN2 hne hYdiv
    go_wp2_with (go_at_call 25; refine (isZero_any gy 0 _ _ HY8.out).mono ?_; rintro e w9 ⟨rfl, n9, rfl⟩)
    refine HN.out _ _ _ _ _ _ _ _ _ _ _ _ _ _ _ _ _ _ _ _ _ _ _ _ _ _ _ _ _ _ _ (by omega) ?_
    have hr := HR8.out
    rw [HDS.out, HYE.out, dec_more _ j hj3] at hr
    have hy := HY8.out
    rw [HYD.out] at hy
    exact ⟨by omega, by rw [← HYD.out]; exact HNE.out, ⟨_, HO8.out⟩, hr, hy.drewN _, HYF8.out.drewN _, HD8.out.drewN _, bel_drewN HB8.out _, gbl8⟩
  · have h0 : Y / 10 ^ 19 = 0 := by rw [← hYN2]; exact (isZ_iff _).1 hz
    have HH0 := Lib.hid h0
    clear hYN2 hYdiv h0
    go_wp2_with (go_at_call 25; refine (isZero_any gy 0 _ _ HY8.out).mono ?_; rintro e w9 ⟨rfl, n9, rfl⟩)
    have hr := HR8.out
    have h1 := HH0.out
    rw [HYE.out] at h1
    have hlast := dec_last _ j h1 HPOS.out
    have hl := congrArg List.length hlast
    rw [← HYE.out, ← HDS.out, List.length_append, padD_length, ← HLE.out] at hl
    rw [show 98 - 19 * j - ds.length = K by have := HLE.out; omega, HDS.out, HYE.out, List.append_assoc, hlast] at hr
    exact HX.out K L _ _ _ _ _ _ _ _ _ _ _ _ _ _ _ _ _ _ _ _ _ _ _ _ _ _ _ _ _ _ (by omega) ⟨by omega, hr, bel_drewN HB8.out _⟩
/-- The loop's invariant. -/
def DecI (go gy dv gb : Nat) (w0 : World) (x : N4) (c0 c1 c2 c10 c11 c12 c13 c14 c15 c16 c17 c18 c19 c20 c21 c22 c23 c24 c25 c50 c51 c52 c53 c54 c55 c56 : Value) (a : Act) (W : World) : Prop :=
  ∃ (u8 u9 u26 u27 u28 u29 u30 u31 u32 u33 u34 u35 u36 u37 u38 u39 u40 u41 u42 u43 u44 u45 u46 u47 u48 u49 : Value), ∃ (j g n cap : Nat) (P : Int), P = 98 - 19 * (j : Int) ∧ DecW go gy dv gb w0 x j g n cap W ∧ a = ⟨List.toArray (c0 :: c1 :: c2 :: .slice (some ⟨go, 0, none⟩) 98 98 :: .pointer (some ⟨dv, 0, none⟩) :: .pointer (some ⟨gy, 0, none⟩) :: .int .i64 P :: (.slice (some ⟨g, 0, none⟩) n cap) :: u8 :: u9 :: c10 :: c11 :: c12 :: c13 :: c14 :: c15 :: c16 :: c17 :: c18 :: c19 :: c20 :: c21 :: c22 :: c23 :: c24 :: c25 :: u26 :: u27 :: u28 :: u29 :: u30 :: u31 :: u32 :: u33 :: u34 :: u35 :: u36 :: u37 :: u38 :: u39 :: u40 :: u41 :: u42 :: u43 :: u44 :: u45 :: u46 :: u47 :: u48 :: u49 :: c50 :: c51 :: c52 :: c53 :: c54 :: c55 :: c56 :: []), []⟩
def DecMu (a : Act) (_ : World) : Nat := (RowKit.intOf (a.tmps[6]?.getD undef)).toNat
set_option maxHeartbeats 8000000 in
set_option maxRecDepth 20000 in
theorem dec_loop (go gy dv gb : Nat) (w0 : World) (x : N4) (j g n cap : Nat) (W : World) (Q : Exit → Act → World → Prop) (c0 c1 c2 c10 c11 c12 c13 c14 c15 c16 c17 c18 c19 c20 c21 c22 c23 c24 c25 c50 c51 c52 c53 c54 c55 c56 v8 v9 v26 v27 v28 v29 v30 v31 v32 v33 v34 v35 v36 v37 v38 v39 v40 v41 v42 v43 v44 v45 v46 v47 v48 v49 : Value)
    (H : DecW go gy dv gb w0 x j g n cap W) (h1 : go ≠ gy) (h2 : dv ≠ gy) (h3 : dv ≠ go) (h4 : go < gb) (h5 : gy < gb) (h6 : dv < gb) (h7 : w0.heap.size ≤ go) (h8 : w0.heap.size ≤ gy) (P0 : P10 w0)
    (HX : Hid (∀ (K L g cap : Nat) (P : Int) (W' : World) (u8 u9 u26 u27 u28 u29 u30 u31 u32 u33 u34 u35 u36 u37 u38 u39 u40 u41 u42 u43 u44 u45 u46 u47 u48 u49 : Value), P = ((K + L : Nat) : Int) → DecX go w0 x K L W' → Q (.exit 0) ⟨List.toArray (c0 :: c1 :: c2 :: .slice (some ⟨go, 0, none⟩) 98 98 :: .pointer (some ⟨dv, 0, none⟩) :: .pointer (some ⟨gy, 0, none⟩) :: .int .i64 P :: (.slice (some ⟨g, 0, none⟩) L cap) :: u8 :: u9 :: c10 :: c11 :: c12 :: c13 :: c14 :: c15 :: c16 :: c17 :: c18 :: c19 :: c20 :: c21 :: c22 :: c23 :: c24 :: c25 :: u26 :: u27 :: u28 :: u29 :: u30 :: u31 :: u32 :: u33 :: u34 :: u35 :: u36 :: u37 :: u38 :: u39 :: u40 :: u41 :: u42 :: u43 :: u44 :: u45 :: u46 :: u47 :: u48 :: u49 :: c50 :: c51 :: c52 :: c53 :: c54 :: c55 :: c56 :: []), []⟩ W')) :
    Code.wp Tryz.prog (.loop decBody) Q ⟨List.toArray (c0 :: c1 :: c2 :: .slice (some ⟨go, 0, none⟩) 98 98 :: .pointer (some ⟨dv, 0, none⟩) :: .pointer (some ⟨gy, 0, none⟩) :: .int .i64 (98 - 19 * (j : Int)) :: (.slice (some ⟨g, 0, none⟩) n cap) :: v8 :: v9 :: c10 :: c11 :: c12 :: c13 :: c14 :: c15 :: c16 :: c17 :: c18 :: c19 :: c20 :: c21 :: c22 :: c23 :: c24 :: c25 :: v26 :: v27 :: v28 :: v29 :: v30 :: v31 :: v32 :: v33 :: v34 :: v35 :: v36 :: v37 :: v38 :: v39 :: v40 :: v41 :: v42 :: v43 :: v44 :: v45 :: v46 :: v47 :: v48 :: v49 :: c50 :: c51 :: c52 :: c53 :: c54 :: c55 :: c56 :: []), []⟩ W := by
  refine wp_loop (DecI go gy dv gb w0 x c0 c1 c2 c10 c11 c12 c13 c14 c15 c16 c17 c18 c19 c20 c21 c22 c23 c24 c25 c50 c51 c52 c53 c54 c55 c56) DecMu ?_ ?_
  · exact ⟨v8, v9, v26, v27, v28, v29, v30, v31, v32, v33, v34, v35, v36, v37, v38, v39, v40, v41, v42, v43, v44, v45, v46, v47, v48, v49, j, g, n, cap, _, rfl, H, rfl⟩
  · intro a W1 hI
    obtain ⟨u8, hI⟩ := hI
    obtain ⟨u9, hI⟩ := hI
    obtain ⟨u26, hI⟩ := hI
    obtain ⟨u27, hI⟩ := hI
    obtain ⟨u28, hI⟩ := hI
    obtain ⟨u29, hI⟩ := hI
    obtain ⟨u30, hI⟩ := hI
    obtain ⟨u31, hI⟩ := hI
    obtain ⟨u32, hI⟩ := hI
    obtain ⟨u33, hI⟩ := hI
    obtain ⟨u34, hI⟩ := hI
    obtain ⟨u35, hI⟩ := hI
    obtain ⟨u36, hI⟩ := hI
    obtain ⟨u37, hI⟩ := hI
    obtain ⟨u38, hI⟩ := hI
    obtain ⟨u39, hI⟩ := hI
    obtain ⟨u40, hI⟩ := hI
    obtain ⟨u41, hI⟩ := hI
    obtain ⟨u42, hI⟩ := hI
    obtain ⟨u43, hI⟩ := hI
    obtain ⟨u44, hI⟩ := hI
    obtain ⟨u45, hI⟩ := hI
    obtain ⟨u46, hI⟩ := hI
    obtain ⟨u47, hI⟩ := hI
    obtain ⟨u48, hI⟩ := hI
    obtain ⟨u49, hI⟩ := hI
    obtain ⟨j, g, n, cap, P, rfl, H, rfl⟩ := hI
    refine dec_round go gy dv gb w0 x j g n cap W1 _ c0 c1 c2 c10 c11 c12 c13 c14 c15 c16 c17 c18 c19 c20 c21 c22 c23 c24 c25 c50 c51 c52 c53 c54 c55 c56 _ _ _ _ _ _ _ _ _ _ _ _ _ _ _ _ _ _ _ _ _ _ _ _ _ _ H h1 h2 h3 h4 h5 h6 h7 h8 P0 ?_ ?_
    · show ∀ _, _
      intro g n cap P W' u8 u9 u26 u27 u28 u29 u30 u31 u32 u33 u34 u35 u36 u37 u38 u39 u40 u41 u42 u43 u44 u45 u46 u47 u48 u49 hP HW
      refine ⟨⟨u8, u9, u26, u27, u28, u29, u30, u31, u32, u33, u34, u35, u36, u37, u38, u39, u40, u41, u42, u43, u44, u45, u46, u47, u48, u49, j + 1, g, n, cap, P, hP, HW, rfl⟩, ?_⟩
      show (RowKit.intOf (.int .i64 P)).toNat < (RowKit.intOf (.int .i64 (98 - 19 * (j : Int)))).toNat
      have := H.jle
      simp only [RowKit.intOf]
      omega
    · exact HX
end Go.Proofs.YtfaocjcpnjmfiaaGreatDoor

set_option linter.unusedVariables false
set_option linter.unusedSimpArgs false
namespace Go.Proofs.YtfaocjcpnjmfiaaGreatDoor
open Go.RowKit Go.Lib

set_option maxHeartbeats 16000000 in
set_option maxRecDepth 20000 in
theorem decInt_any (c p : Nat) (x : N4) (w : World) (hx : At4 w c p x) (hp : P10 w) : Calls Tryz.prog 15 #[.pointer (some ⟨c, p, none⟩)] w (RetBel (.string ⟨(decDigits x.toNat).toArray⟩) w) := by
  obtain ⟨ie, hie⟩ : ∃ ie, Tryz.prog.info? 5 = some ie := Option.isSome_iff_exists.1 (by kernel_rfl)
  have hsz : ie.size = 1 := by
    have h : (Tryz.prog.info? 5).map (·.size) = some 1 := by kernel_rfl
    rw [hie] at h; simpa using h
  have hz0 : ie.zero = some (.int .u8 0) := by
    have h : (Tryz.prog.info? 5).bind (·.zero) = some (.int .u8 0) := by kernel_rfl
    rw [hie] at h; simpa using h
  have HX := Lib.hid hx
  have HP := Lib.hid hp
  clear hp hx
  go_enter Tryz.func15, Tryz.ntmps15
  go_wp2_with fail
  refine (isZero_any c p x _ HX.out).mono ?_
  rintro e w1 ⟨rfl, n1, rfl⟩
  cases hz : x.isZ
  · go_wp2_with fail
    refine (isUint64_any c p x _ (HX.out.drewN n1)).mono ?_
    rintro e w1 ⟨rfl, n2, rfl⟩
    cases hu : x.isU
    · go_upto_region 5 with fail
      refine wp_region_lit ?_
      obtain ⟨C, hC⟩ : ∃ C, C = (List.replicate 98 (Value.int .u8 48)).toArray := ⟨_, rfl⟩
      have hCs : C.size = 98 := by rw [hC]; simp
      have hC' : ((List.replicate 98 (48 : Int)).map (Value.int .u8)).toArray = C := by rw [hC, List.map_replicate]
      refine wpList_buildFlat rfl 43 5 98 _ rfl .u8 (List.replicate 98 48) (by kernel_rfl) (by kernel_rfl) (by kernel_rfl) (by kernel_rfl) (by decide) (by decide) (by kernel_rfl) ?_
      rw [hC']
      clear hC'
      have hcv := Lib.run_convert_bytes_const (P := Tryz.prog) (w.drewN (n1 + n2)) 43 5 C 98 98 (by kernel_rfl) (by kernel_rfl)
      rw [hCs] at hcv
      have bel0 : Below w.heap.size w ((w.drewN (n1 + n2)).alloc (.cells C 5 (98, 98 + 1))) := bel_alloc (bel_drewN (bel_refl w) (n1 + n2)) _
      have row0 : RowIs ((w.drewN (n1 + n2)).alloc (.cells C 5 (98, 98 + 1))) w.heap.size (List.replicate 98 48) := by
        unfold RowIs
        rw [show Lib.byteCells (List.replicate 98 48) = List.replicate 98 (Value.int .u8 48) by kernel_rfl, ← hC, List.length_replicate]
        exact Array.getElem?_push_size
      have siz0 : ((w.drewN (n1 + n2)).alloc (.cells C 5 (98, 98 + 1))).heap.size = w.heap.size + 1 := Array.size_push _
      have B0 := Lib.hid bel0
      have R0 := Lib.hid row0
      clear row0 bel0 hC
      have hcv' : (convert 43 43 (.slice (some ⟨w.heap.size, 0, none⟩) 98 98)).run Tryz.prog ((w.drewN (n1 + n2)).alloc (.cells C 5)) = .ok (.slice (some ⟨w.heap.size, 0, none⟩) 98 98) ((w.drewN (n1 + n2)).alloc (.cells C 5 (98, 98 + 1))) := hcv
      clear hcv
      generalize (w.drewN (n1 + n2)).alloc (.cells C 5 (98, 98 + 1)) = W at *
      generalize hV : (w.drewN (n1 + n2)).alloc (.cells C 5) = V0 at *
      clear hV hCs
      have HX0 := Lib.hid (HX.out.bel B0.out)
      have HP0 := Lib.hid (HP.out.bel B0.out)
      go_wp2_with fail
      refine (newInt_any 10000000000000000000#64 W).mono ?_
      rintro e w1 ⟨dv, rfl, hD⟩
      go_wp2_with fail
      have sz0 : (w1.alloc (Obj.cells #[.int .u64 0, .int .u64 0, .int .u64 0, .int .u64 0] 41)).heap.size = w1.heap.size + 1 := Array.size_push _
      have hcl : c < w.heap.size := HX.out.lt
      have szW := B0.out.size
      have sz1 := hD.bel.size
      have hy4 : At4 (w1.alloc (Obj.cells #[.int .u64 0, .int .u64 0, .int .u64 0, .int .u64 0] 41)) w1.heap.size 0 ⟨0#64, 0#64, 0#64, 0#64⟩ := by constructor <;> simp [go_sem] <;> rfl
      have hyf : Free4 (w1.alloc (Obj.cells #[.int .u64 0, .int .u64 0, .int .u64 0, .int .u64 0] 41)) w1.heap.size 0 := by constructor <;> simp [go_sem]
      refine (set_any w1.heap.size 0 c p _ x _ hy4 hyf ((HX0.out.bel hD.bel).alloc _) (fun e => by omega)).mono ?_
      rintro e w2 ⟨rfl, n3, hw2⟩
      have P1 := HP0.out.bel hD.bel
      have hdv : dv ≠ w1.heap.size := by have := hD.at4.lt; omega
      have bel2 : Below w1.heap.size w1 w2 := by rw [hw2]; exact bel_drewN (put4_bel (bel_alloc (bel_refl w1) _) (Nat.le_refl _)) n3
      have HY2 : Hid (At4 w2 w1.heap.size 0 x) := by show At4 _ _ _ _; rw [hw2]; exact (put4_at _ _ _ _ ⟨0#64, 0#64, 0#64, 0#64⟩ hy4).drewN n3
      have HYF2 : Hid (Free4 w2 w1.heap.size 0) := by show Free4 _ _ _; rw [hw2]; exact (Free4.put _ hyf).drewN n3
      have HD2 := Lib.hid (hD.at4.bel bel2)
      have HP2 := Lib.hid (P1.bel bel2)
      have HB2 := Lib.hid (bel_trans B0.out (bel_trans hD.bel bel2))
      have HR2 := Lib.hid ((R0.out.bel hD.bel).bel bel2)
      have siz2 := bel2.size
      clear hw2 hy4 hyf P1 bel2 sz0 B0 R0 HX0 HP0 hcv'
      have hib : ie.bytes = 1 := by
        have h : (Tryz.prog.info? 5).map (·.bytes) = some 1 := by kernel_rfl
        rw [hie] at h; simpa using h
      obtain ⟨w3, hmk0, hown, hgr⟩ := run_makeSlice_owned (P := Tryz.prog) w2 w2.heap.size 43 5 ie (.int .u8 0) 1 (by kernel_rfl) hie hz0 hsz .i64 .i64 19 (by omega) (by rw [hib]; omega) (by decide) (Nat.le_refl _)
      have hmk : (Instr.makeSlice 43 (.int .i64 0) (.int .i64 19)).run Tryz.prog w2 = .ok (.slice (some ⟨w2.heap.size, 0, none⟩) 0 19) w3 := hmk0
      clear hmk0
      have b3 : Below w2.heap.size w2 w3 := (bel_refl w2).grown hgr (Nat.le_refl _) (fun g hg => by cases hg)
      have hx0 : 0 < x.toNat := by
        rcases Nat.eq_zero_or_pos x.toNat with h | h
        · rw [(isZ_iff x).2 h] at hz; cases hz
        · exact h
      have hdge := hD.ge
      have hdlt := hD.at4.lt
      have hylt := HY2.out.lt
      have HW : Hid (DecW w.heap.size w1.heap.size dv w2.heap.size w x 0 w2.heap.size 0 19 w3) := by
        refine ⟨by omega, by simpa using hx0, ⟨[], hown⟩, ?_, ?_, HYF2.out.bel HY2.out.lt b3, HD2.out.bel b3, bel_trans HB2.out b3, b3.size⟩
        · have h := HR2.out.bel b3
          rw [show 19 * 0 = 0 by rfl, padD, List.append_nil]
          exact h
        · have h := HY2.out.bel b3
          rw [show 19 * 0 = 0 by rfl, Nat.pow_zero, Nat.div_one, ofN_self]
          exact h
      clear hgr hown b3 hx0
      go_wp2_with fail
      refine dec_loop w.heap.size w1.heap.size dv w2.heap.size w x 0 w2.heap.size 0 19 w3 _ _ _ _ _ _ _ _ _ _ _ _ _ _ _ _ _ _ _ _ _ _ _ _ _ _ _ _ _ _ _ _ _ _ _ _ _ _ _ _ _ _ _ _ _ _ _ _ _ _ _ _ _ HW.out (by omega) hdv (by omega) (by omega) (by omega) (by omega) (Nat.le_refl _) (by omega) HP.out ?_
      show ∀ _, _
      intro K L g cap P W' u0 u1 u2 u3 u4 u5 u6 u7 u8 u9 u10 u11 u12 u13 u14 u15 u16 u17 u18 u19 u20 u21 u22 u23 u24 u25 hP HX
      have hpk : P - (L : Int) = (K : Int) := by omega
      have hkl := HX.kl
      have hsb : SlB W' (.slice (some ⟨w.heap.size, K, none⟩) (98 - K) (98 - K)) (decDigits x.toNat) := by
        rw [show 98 - K = (decDigits x.toNat).length by omega]
        refine ⟨some ⟨w.heap.size, K, none⟩, _, rfl, Nat.le_refl _, fun i b hb => ⟨_, _, rfl, ?_⟩⟩
        have hi : i < (decDigits x.toNat).length := (List.getElem?_eq_some_iff.1 hb).1
        have h := HX.row.cell (K + i) (by rw [List.length_append, List.length_replicate]; omega)
        rw [h]
        have e : (List.replicate K (48 : UInt8) ++ decDigits x.toNat)[K + i]? = some b := by rw [List.getElem?_append_right (by simp), List.length_replicate, show K + i - K = i by omega]; exact hb
        rw [(List.getElem?_eq_some_iff.1 e).2]
      have hcv := conv_slb hsb
      have hK98 : K < 98 := by have := nDigits_pos x.toNat; rw [decDigits_length] at hkl; omega
      have HBX := Lib.hid HX.bel
      clear HX hsb hP HW hkl
      go_wp2
      go_ret
      exact retBel rfl HBX.out
    · go_wp2_with fail
      refine (uint64_any c p x _ (HX.out.drewN (n1 + n2))).mono ?_
      rintro e w1 ⟨rfl, n3, rfl⟩
      go_wp2_with fail
      refine (formatUint_any x.a.toNat x.a.isLt _ (HP.out.bel (bel_drewN (bel_refl w) (n1 + n2 + n3)))).mono ?_
      rintro e w1 ⟨rfl, hb⟩
      go_wp2
      go_ret
      rw [isU_toNat hu]
      exact retBel rfl (bel_trans (bel_drewN (bel_refl w) (n1 + n2 + n3)) hb)
  · go_wp2
    go_ret
    have h0 : x.toNat = 0 := (isZ_iff x).1 hz
    rw [h0, decDigits_small (by omega)]
    exact retBel rfl (bel_drewN (bel_refl w) n1)
end Go.Proofs.YtfaocjcpnjmfiaaGreatDoor

set_option linter.unusedVariables false
set_option linter.unusedSimpArgs false
namespace Go.Proofs.YtfaocjcpnjmfiaaGreatDoor
open Go.RowKit
set_option maxHeartbeats 400000 in
theorem marshalText_any (b o : Nat) (x : N4) (w : World) (hx : At4 w b o x) (hp : P10 w) : Calls Tryz.prog 21 #[.pointer (some ⟨b, o, none⟩)] w fun e w' => ∃ v, e = .returned (.tuple #[v, .nilIface]) ∧ SlB w' v (Lib.decDigits x.toNat) ∧ Below w.heap.size w w' := by
  have DE := Lib.hid (decInt_any b o x w hx hp)
  clear hx hp
  go_enter Tryz.func21, Tryz.ntmps21
  go_wp2_with fail
  refine DE.out.mono ?_
  rintro e w1 ⟨rfl, hb1⟩
  obtain ⟨v, w2, hcv, hs, hb2⟩ := conv_str w1 (Lib.decDigits x.toNat)
  have HS := Lib.hid hs
  have HB := Lib.hid (bel_trans hb1 hb2)
  clear hs hb1 hb2
  go_wp2
  go_ret2
  exact ⟨v, rfl, HS.out, HB.out⟩
set_option maxHeartbeats 400000 in
theorem implDec_any (x : N4) (w : World) (hp : P10 w) : Calls Tryz.prog 5 #[x.v] w (RetBel (.string ⟨(Lib.decDigits x.toNat).toArray⟩) w) := by
  have HP := Lib.hid hp
  clear hp
  go_enter Tryz.func5, Tryz.ntmps5
  go_wp2_with fail
  refine (intOf_any x _).mono ?_
  rintro e w0 ⟨B, rfl, m⟩
  have hb0 := bel_trans (bel_alloc (bel_refl w) _) m.bel
  go_wp2_with fail
  refine (decInt_any B 0 x _ m.at4 (HP.out.bel hb0)).mono ?_
  rintro e w1 ⟨rfl, hb1⟩
  have HB := Lib.hid (bel_trans hb0 hb1)
  clear hb0 hb1
  go_wp2
  go_ret
  exact retBel rfl HB.out
set_option maxHeartbeats 400000 in
theorem implText_any (x : N4) (w : World) (hp : P10 w) : Calls Tryz.prog 9 #[x.v] w (RetBel (.string ⟨(Lib.decDigits x.toNat).toArray⟩) w) := by
  have HP := Lib.hid hp
  clear hp
  go_enter Tryz.func9, Tryz.ntmps9
  go_wp2_with fail
  refine (intOf_any x _).mono ?_
  rintro e w0 ⟨B, rfl, m⟩
  have hb0 := bel_trans (bel_alloc (bel_refl w) _) m.bel
  go_wp2_with fail
  refine (marshalText_any B 0 x _ m.at4 (HP.out.bel hb0)).mono ?_
  rintro e w1 ⟨v, rfl, hs, hb1⟩
  have HB := Lib.hid (bel_trans hb0 hb1)
  have hcv := conv_slb hs
  clear hb0 hb1 hs
  go_wp2
  go_ret
  exact retBel rfl HB.out
/-- The decimal digits between quotation marks. -/
def jsonText (n : Nat) : List UInt8 := 34 :: (Lib.decDigits n ++ [34])
theorem cat_quote (l : List UInt8) : ((⟨#[34]⟩ : ByteArray) ++ ⟨l.toArray⟩) ++ ⟨#[34]⟩ = ⟨(34 :: (l ++ [34])).toArray⟩ := by
  apply ByteArray.ext
  rw [ByteArray.data_append, ByteArray.data_append]
  simp
theorem digits_small (x : N4) : Lib.nDigits x.toNat ≤ 78 := (padD_eq 78 x.toNat (by omega) (Nat.lt_of_lt_of_le (toNat_lt x) (by decide))).2
set_option maxHeartbeats 400000 in
theorem marshalJson_any (b o : Nat) (x : N4) (w : World) (hx : At4 w b o x) (hp : P10 w) : Calls Tryz.prog 23 #[.pointer (some ⟨b, o, none⟩)] w fun e w' => ∃ v, e = .returned (.tuple #[v, .nilIface]) ∧ SlB w' v (jsonText x.toNat) ∧ Below w.heap.size w w' := by
  have DE := Lib.hid (decInt_any b o x w hx hp)
  have hlen := digits_small x
  rw [← Lib.decDigits_length] at hlen
  have hcat := cat_quote (Lib.decDigits x.toNat)
  clear hx hp
  go_enter Tryz.func23, Tryz.ntmps23
  go_wp2_with fail
  refine DE.out.mono ?_
  rintro e w1 ⟨rfl, hb1⟩
  obtain ⟨v, w2, hcv, hs, hb2⟩ := conv_str w1 (jsonText x.toNat)
  unfold jsonText at hcv
  have HS := Lib.hid hs
  have HB := Lib.hid (bel_trans hb1 hb2)
  clear hs hb1 hb2
  go_wp2
  go_ret2
  exact ⟨v, rfl, HS.out, HB.out⟩
set_option maxHeartbeats 400000 in
theorem implJson_any (x : N4) (w : World) (hp : P10 w) : Calls Tryz.prog 11 #[x.v] w (RetBel (.string ⟨(jsonText x.toNat).toArray⟩) w) := by
  have HP := Lib.hid hp
  clear hp
  go_enter Tryz.func11, Tryz.ntmps11
  go_wp2_with fail
  refine (intOf_any x _).mono ?_
  rintro e w0 ⟨B, rfl, m⟩
  have hb0 := bel_trans (bel_alloc (bel_refl w) _) m.bel
  go_wp2_with fail
  refine (marshalJson_any B 0 x _ m.at4 (HP.out.bel hb0)).mono ?_
  rintro e w1 ⟨v, rfl, hs, hb1⟩
  have HB := Lib.hid (bel_trans hb0 hb1)
  have hcv := conv_slb hs
  clear hb0 hb1 hs
  go_wp2
  go_ret
  exact retBel rfl HB.out
end Go.Proofs.YtfaocjcpnjmfiaaGreatDoor
