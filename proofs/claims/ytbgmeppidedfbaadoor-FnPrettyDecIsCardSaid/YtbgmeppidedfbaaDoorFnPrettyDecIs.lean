/-
  For every number and separating byte: PrettyDec is the decimal digits with the byte between each three, from the end on (the card FnPrettyDecIsCardSaid; the library table of powers of ten holds what its text lays into it, which the card ties).
-/
import Derived.Test.YtbgmeppidedfbaaDoorHeldM
import Derived.Test.YtbgmeppidedfbaaDoorOpen2
import Derived.Test.YtbgmeppidedfbaaDoorStrc
import Derived.Test.YtbgmeppidedfbaaDoorRow
import Derived.Test.YtbgmeppidedfbaaDoorDiv5
import Derived.Test.YtbgmeppidedfbaaDoorDiv6
import Derived.Test.YtbgmeppidedfbaaDoorByt1
import Derived.Test.YtbgmeppidedfbaaDoorDec0
import Derived.Test.YtbgmeppidedfbaaDoorRows
import Derived.Test.YtbgmeppidedfbaaDoorTie
import Derived.Test.YtbgmeppidedfbaaDoorCards
import Derived.Test.YtbgmeppidedfbaaDoorOpen
import Derived.ProofKit
import Derived.LaidMore
import Derived.OpenShut
import Derived.OpenVars
import Derived.Stop.Joined
import Derived.SevenTiedAt
import Derived.Lib.LaidU8
import Derived.Lib.ItoaNum
import Derived.Laws.IdiomCopy
import Derived.Lib.FrozenHead
import Derived.Great.BuildSlice
import Derived.Lib.SlBytesConst
/-
  Decimal digits in groups: a numeral is the numeral of its upper part and the padded digits of its lower part.
-/
set_option linter.unusedVariables false
namespace Go.Proofs.YtbgmeppidedfbaaDoor
set_option maxRecDepth 20000
open Go.Lib

/-- k digits of v, with leading zeros. -/
def padD : Nat → Nat → List UInt8
  | 0, _ => []
  | k + 1, v => padD k (v / 10) ++ [UInt8.ofNat (48 + v % 10)]
theorem padD_length : ∀ (k v : Nat), (padD k v).length = k
  | 0, _ => rfl
  | k + 1, v => by simp [padD, padD_length k]
theorem decDigits_small {u : Nat} (h : u < 10) : decDigits u = [UInt8.ofNat (48 + u)] := by rw [decDigits, dif_pos h]
theorem decDigits_big {u : Nat} (h : ¬ u < 10) : decDigits u = decDigits (u / 10) ++ [UInt8.ofNat (48 + u % 10)] := by rw [decDigits, dif_neg h]
/-- The numeral of a number splits behind its k lower digits. -/
theorem decDigits_split : ∀ (k q r : Nat), 0 < q → r < 10 ^ k → decDigits (q * 10 ^ k + r) = decDigits q ++ padD k r
  | 0, q, r, hq, hr => by
    have : r = 0 := by simpa using hr
    subst this
    simp [padD]
  | k + 1, q, r, hq, hr => by
    have e : q * 10 ^ (k + 1) = 10 * (q * 10 ^ k) := by rw [Nat.pow_succ]; grind
    have hp : 1 ≤ q * 10 ^ k := Nat.mul_pos hq (Nat.pow_pos (by omega))
    rw [Nat.pow_succ] at hr
    have hd : (q * 10 ^ (k + 1) + r) / 10 = q * 10 ^ k + r / 10 := by rw [e]; omega
    have hm : (q * 10 ^ (k + 1) + r) % 10 = r % 10 := by rw [e]; omega
    rw [decDigits_big (by rw [e]; omega), hd, hm, decDigits_split k q (r / 10) hq (by omega), padD, List.append_assoc]
/-- Padded digits are zeros and the numeral. -/
theorem padD_eq : ∀ (k v : Nat), 0 < k → v < 10 ^ k → padD k v = List.replicate (k - nDigits v) 48 ++ decDigits v ∧ nDigits v ≤ k
  | 0, v, h, _ => by omega
  | k + 1, v, _, hv => by
    rw [Nat.pow_succ] at hv
    by_cases hs : v < 10
    · rw [decDigits_small hs, nDigits_small hs, padD, show v / 10 = 0 by omega, show v % 10 = v by omega]
      refine ⟨?_, by omega⟩
      congr 1
      clear hv hs
      have z : ∀ n : Nat, padD n 0 = List.replicate n 48 := by
        intro n
        induction n with
        | zero => rfl
        | succ n ih => rw [padD, Nat.zero_div, ih, List.replicate_succ']; rfl
      rw [z]; simp
    · have hk : 0 < k := by
        rcases Nat.eq_zero_or_pos k with h | h
        · subst h; omega
        · exact h
      obtain ⟨h1, h2⟩ := padD_eq k (v / 10) hk (by omega)
      rw [decDigits_big hs, nDigits_big hs, padD, h1, show k + 1 - (nDigits (v / 10) + 1) = k - nDigits (v / 10) by omega, List.append_assoc]
      exact ⟨rfl, by omega⟩
/-- Padded digits split behind the k lower ones. -/
theorem padD_split : ∀ (k a v : Nat), padD (a + k) v = padD a (v / 10 ^ k) ++ padD k (v % 10 ^ k)
  | 0, a, v => by simp [padD]
  | k + 1, a, v => by
    rw [← Nat.add_assoc, padD, padD, padD_split k a (v / 10), Nat.div_div_eq_div_mul, List.append_assoc, Nat.pow_succ, Nat.mul_comm 10]
    have h1 : v % (10 ^ k * 10) / 10 = v / 10 % 10 ^ k := by rw [Nat.mul_comm, Nat.mod_mul_right_div_self]
    have h2 : v % (10 ^ k * 10) % 10 = v % 10 := Nat.mod_mul_left_mod _ _ _
    rw [h1, h2]

/-- One round: from the digits already laid to the digits with the next group ahead of them. -/
theorem pad_round (j x d : Nat) : padD (d + d * j) (x % 10 ^ (d + d * j)) = padD d (x / 10 ^ (d * j) % 10 ^ d) ++ padD (d * j) (x % 10 ^ (d * j)) := by
  rw [padD_split]
  have h1 : x % 10 ^ (d + d * j) / 10 ^ (d * j) = x / 10 ^ (d * j) % 10 ^ d := by rw [Nat.add_comm, Nat.pow_add, Nat.mod_mul_right_div_self]
  have h2 : x % 10 ^ (d + d * j) % 10 ^ (d * j) = x % 10 ^ (d * j) := by rw [Nat.pow_add]; exact Nat.mod_mul_left_mod _ _ _
  rw [h1, h2]
end Go.Proofs.YtbgmeppidedfbaaDoor
/-
  Decimal digits with a byte between each three, from the end on: plain law.
-/
set_option linter.unusedVariables false
namespace Go.Proofs.YtbgmeppidedfbaaDoor
open Go.Lib

/-- The digits with a byte between each three, from the end on. -/
def pret (sep : UInt8) : List UInt8 → List UInt8
  | [] => []
  | d :: l => d :: (if l ≠ [] ∧ l.length % 3 = 0 then sep :: pret sep l else pret sep l)
theorem pret_cons (sep d : UInt8) (l : List UInt8) : pret sep (d :: l) = d :: (if l ≠ [] ∧ l.length % 3 = 0 then sep :: pret sep l else pret sep l) := by rw [pret]
/-- What stands behind i digits already written. -/
def pretTail (sep : UInt8) (i : Nat) (l : List UInt8) : List UInt8 := if 0 < i ∧ l ≠ [] ∧ l.length % 3 = 0 then sep :: pret sep l else pret sep l
theorem pretTail_zero (sep : UInt8) (l : List UInt8) : pretTail sep 0 l = pret sep l := by unfold pretTail; rw [if_neg (by omega)]
theorem pretTail_nil (sep : UInt8) (i : Nat) : pretTail sep i [] = [] := by unfold pretTail; rw [if_neg (by simp)]; rfl
theorem pretTail_sep (sep : UInt8) (i : Nat) (d : UInt8) (l : List UInt8) (h : 0 < i ∧ (l.length + 1) % 3 = 0) : pretTail sep i (d :: l) = sep :: d :: pretTail sep (i + 1) l := by
  have e : pretTail sep (i + 1) l = if l ≠ [] ∧ l.length % 3 = 0 then sep :: pret sep l else pret sep l := by
    unfold pretTail
    by_cases hc : l ≠ [] ∧ l.length % 3 = 0
    · rw [if_pos ⟨by omega, hc.1, hc.2⟩, if_pos hc]
    · rw [if_neg (fun k => hc k.2), if_neg hc]
  rw [e]
  unfold pretTail
  rw [if_pos ⟨h.1, by simp, by rw [List.length_cons]; exact h.2⟩]
  rfl
theorem pretTail_no (sep : UInt8) (i : Nat) (d : UInt8) (l : List UInt8) (h : ¬ (0 < i ∧ (l.length + 1) % 3 = 0)) : pretTail sep i (d :: l) = d :: pretTail sep (i + 1) l := by
  have e : pretTail sep (i + 1) l = if l ≠ [] ∧ l.length % 3 = 0 then sep :: pret sep l else pret sep l := by
    unfold pretTail
    by_cases hc : l ≠ [] ∧ l.length % 3 = 0
    · rw [if_pos ⟨by omega, hc.1, hc.2⟩, if_pos hc]
    · rw [if_neg (fun k => hc k.2), if_neg hc]
  rw [e]
  unfold pretTail
  rw [if_neg (fun k => h ⟨k.1, by rw [List.length_cons] at k; exact k.2.2⟩)]
  rfl
/-- So many bytes are n digits and what stands between them. -/
def pretLen (n : Nat) : Nat := n + (n - 1) / 3
theorem pret_length (sep : UInt8) : ∀ l : List UInt8, (pret sep l).length = pretLen l.length
  | [] => rfl
  | d :: l => by
    have ih := pret_length sep l
    unfold pretLen at *
    rw [pret_cons]
    by_cases hc : l ≠ [] ∧ l.length % 3 = 0
    · rw [if_pos hc]
      have : 0 < l.length := by rcases l with _ | _; exact absurd rfl hc.1; simp
      simp only [List.length_cons]
      omega
    · rw [if_neg hc]
      simp only [List.length_cons]
      by_cases h0 : l = []
      · subst h0; simp at *; omega
      · have h1 : ¬ l.length % 3 = 0 := fun k => hc ⟨h0, k⟩
        omega
/-- The comma's count behind n digits. -/
def comma (n : Nat) : Nat := if n = 0 then 0 else (n - 1) % 3 + 1
theorem pret_cons_sep (sep d : UInt8) (l : List UInt8) (h : comma l.length = 3) : pret sep (d :: l) = d :: sep :: pret sep l ∧ comma (l.length + 1) = 1 ∧ pretLen (l.length + 1) = pretLen l.length + 2 := by
  unfold comma at *
  unfold pretLen
  by_cases h0 : l.length = 0
  · rw [if_pos h0] at h; omega
  · rw [if_neg h0] at h
    refine ⟨?_, by rw [if_neg (by omega)]; omega, by omega⟩
    rw [pret_cons, if_pos ⟨fun e => h0 (by rw [e]; rfl), by omega⟩]
theorem pret_cons_no (sep d : UInt8) (l : List UInt8) (h : comma l.length ≠ 3) : pret sep (d :: l) = d :: pret sep l ∧ comma (l.length + 1) = comma l.length + 1 ∧ pretLen (l.length + 1) = pretLen l.length + 1 := by
  unfold comma at *
  unfold pretLen
  by_cases h0 : l.length = 0
  · rw [if_pos h0] at h ⊢
    refine ⟨?_, by rw [if_neg (by omega)]; omega, by omega⟩
    rw [pret_cons, if_neg (fun k => k.1 (List.length_eq_zero_iff.1 h0))]
  · rw [if_neg h0] at h ⊢
    refine ⟨?_, by rw [if_neg (by omega)]; omega, by omega⟩
    rw [pret_cons, if_neg (fun k => by omega)]
end Go.Proofs.YtbgmeppidedfbaaDoor
/-
  Rows of bytes in Int.Dec: an owned row cut to nothing, and its copy into the row of digits.
-/
set_option linter.unusedVariables false
set_option linter.unusedSimpArgs false
namespace Go.Proofs.YtbgmeppidedfbaaDoor
open Go.RowKit Go.Lib

theorem own_cut0 {w : World} {B g n cap : Nat} {e : TypeId} {xs : List Value} (h : w.ownsRow B e 1 (.slice (some ⟨g, 0, none⟩) n cap) n xs) : w.ownsRow B e 1 (.slice (some ⟨g, 0, none⟩) 0 cap) 0 [] := by
  obtain ⟨h1, h2⟩ := h
  refine ⟨rfl, .inr ?_⟩
  rcases h2 with ⟨h3, _⟩ | ⟨g', cap', cur, h3, h4, h5, h6, h7, h8, h9⟩
  · cases h3
  · cases h3
    exact ⟨g, cap, cur, rfl, h4, h5, Nat.zero_le _, h7, h8, by simp⟩

/-- A block of its own holds these bytes and no more (marked as the bytes of a constant: no cell of it is frozen). -/
def RowIs (w : World) (g : Nat) (l : List UInt8) : Prop := w.heap[g]? = some (.cells (Lib.byteCells l).toArray 5 (l.length, l.length + 1))
theorem RowIs.bel {w w' : World} {g : Nat} {l : List UInt8} (h : RowIs w g l) (hb : Below w.heap.size w w') : RowIs w' g l := by
  unfold RowIs at *
  have hg : g < w.heap.size := (Array.getElem?_eq_some_iff.1 h).1
  rw [hb.block g hg]; exact h
theorem RowIs.cell {w : World} {g : Nat} {l : List UInt8} (h : RowIs w g l) (i : Nat) (hi : i < l.length) : w.cell? ⟨g, i, none⟩ = some (.int .u8 (l[i].toNat : Int)) := by
  unfold RowIs at h
  simp [World.cell?, h, Lib.byteCells, hi]
theorem RowIs.free {w : World} {g : Nat} {l : List UInt8} (h : RowIs w g l) (i : Nat) (hi : i < l.length) : w.frozen? ⟨g, i, none⟩ = false := by
  unfold RowIs at h
  simp [World.frozen?, h]
  omega
/-- The owned row goes into the row of digits, from place o. -/
theorem RowIs.copy {w : World} {g B gb n cap : Nat} {l ys : List UInt8} (h : RowIs w g l) (hown : w.ownsRow B 5 1 (.slice (some ⟨gb, 0, none⟩) n cap) n (Lib.byteCells ys)) (o k c : Nat) (hn : n = ys.length) (hk : n ≤ k) (ho : o + n ≤ l.length) :
    (Builtin.copy_ #[49, 49] 3 #[.slice (some ⟨g, o, none⟩) k c, .slice (some ⟨gb, 0, none⟩) n cap]).run Tryd.prog w = .ok (goInt n) (w.setCells g o (Lib.byteCells ys)) := by
  have hl : (Lib.byteCells ys).length = n := by simp [Lib.byteCells, hn]
  have r := run_copy_cells (P := Tryd.prog) w 49 49 3 5 g o k c ⟨gb, 0, none⟩ n cap (Lib.byteCells ys) (by kernel_rfl) (by kernel_rfl) (by rw [hl]; exact (Nat.min_eq_left hk).symm)
    (fun j v hv => (World.ownsRowF_of hown).cells rfl j v hv)
    (fun j hj => by rw [hl] at hj; rw [h.cell (o + j) (by omega)]; rfl)
    (fun j hj => by rw [hl] at hj; exact h.free (o + j) (by omega))
    (fun v hv => by simp only [Lib.byteCells, List.mem_map] at hv; obtain ⟨b, _, rfl⟩ := hv; rfl)
  rw [hl] at r
  exact r
theorem RowIs.set {w : World} {g : Nat} {l : List UInt8} (h : RowIs w g l) (o : Nat) (b : UInt8) : RowIs (w.setCell ⟨g, o, none⟩ (.int .u8 (b.toNat : Int))) g (l.set o b) := by
  unfold RowIs at *
  have e : (Lib.byteCells l).toArray.setIfInBounds o (Value.int .u8 (b.toNat : Int)) = (Lib.byteCells (l.set o b)).toArray := by
    simp [Lib.byteCells, List.map_set]
  simp only [World.setCell, Array.getElem?_modify, if_pos, h, Option.map_some]
  simp only [Option.isSome_none, if_neg (show ¬ (false = true) by decide), e, List.length_set]
/-- What stands in the row behind the copy. -/
theorem RowIs.setCells {g : Nat} : ∀ (ys : List UInt8) {w : World} {l : List UInt8} (o : Nat), RowIs w g l → o + ys.length ≤ l.length → RowIs (w.setCells g o (Lib.byteCells ys)) g (l.take o ++ ys ++ l.drop (o + ys.length))
  | [], w, l, o, h, _ => by simpa [World.setCells, Lib.byteCells] using h
  | y :: ys, w, l, o, h, ho => by
    simp only [List.length_cons] at ho
    have h2 := RowIs.setCells ys (o + 1) (h.set o y) (by simp; omega)
    have e : (l.set o y).take (o + 1) ++ ys ++ (l.set o y).drop (o + 1 + ys.length) = l.take o ++ (y :: ys) ++ l.drop (o + (y :: ys).length) := by
      rw [List.take_set, List.drop_set_of_lt (by omega), List.take_succ_eq_append_getElem (by omega), List.set_append_right _ _ (by simp; omega)]
      simp [show min o l.length = o by omega, show o + 1 + ys.length = o + (ys.length + 1) by omega]
    rw [e] at h2
    exact h2
theorem But.setCells {S : List Nat} {g : Nat} : ∀ (vs : List Value) {w w' : World} (o : Nat), But S w w' → (g ∈ S ∨ w.heap.size ≤ g) → But S w (w'.setCells g o vs)
  | [], _, _, _, h, _ => h
  | v :: vs, _, _, o, h, hg => But.setCells vs (o + 1) (h.set hg o v) hg
theorem RowIs.but {S : List Nat} {w w' : World} {g : Nat} {l : List UInt8} (h : RowIs w g l) (hb : But S w w') (hg : g ∉ S) : RowIs w' g l := by
  unfold RowIs at *
  have hl : g < w.heap.size := (Array.getElem?_eq_some_iff.1 h).1
  rw [hb.block g hl hg]; exact h
theorem own_but {S : List Nat} {w w' : World} {B n gb cap : Nat} {e : TypeId} {xs : List Value} (h : w.ownsRow B e 1 (.slice (some ⟨gb, 0, none⟩) n cap) n xs) (hb : But S w w') (hg : gb ∉ S) : w'.ownsRow B e 1 (.slice (some ⟨gb, 0, none⟩) n cap) n xs := by
  obtain ⟨h1, h2⟩ := h
  refine ⟨h1, .inr ?_⟩
  rcases h2 with ⟨h3, _⟩ | ⟨g', cap', cur, h3, h4, h5, h6, h7, h8, h9⟩
  · cases h3
  · cases h3
    have hl : gb < w.heap.size := (Array.getElem?_eq_some_iff.1 h5).1
    exact ⟨gb, cap, cur, rfl, h4, by rw [hb.block gb hl hg]; exact h5, h6, h7, h8, h9⟩
end Go.Proofs.YtbgmeppidedfbaaDoor
/-
  Int.Dec: the loop over groups of nineteen digits.
-/
set_option linter.unusedVariables false
set_option linter.unusedSimpArgs false
namespace Go.Proofs.YtbgmeppidedfbaaDoor
open Go.RowKit Go.Lib
/-- The first loop's body in a code. -/
def loopBody : Code → Option Code
  | .loop c => some c
  | .seq a b => match loopBody a with
    | some c => some c
    | none => loopBody b
  | .block _ c => loopBody c
  | .scope c => loopBody c
  | .cond _ a b => match loopBody a with
    | some c => some c
    | none => loopBody b
  | _ => none
noncomputable def decBody : Code := (Tryd.f41.body.bind loopBody).getD .skip
abbrev D19 : N4 := ⟨10000000000000000000#64, 0#64, 0#64, 0#64⟩
theorem D19_toNat : D19.toNat = 10 ^ 19 := by decide
/-- What holds at the head of round j. -/
structure DecW (go gy dv gb : Nat) (w0 : World) (x : N4) (j g n cap : Nat) (W : World) : Prop where
  jle : j ≤ 4
  pos : 0 < x.toNat / 10 ^ (19 * j)
  own : ∃ xs, W.ownsRow gb 5 1 (.slice (some ⟨g, 0, none⟩) n cap) n xs
  row : RowIs W go (List.replicate (98 - 19 * j) 48 ++ padD (19 * j) (x.toNat % 10 ^ (19 * j)))
  y4 : At4 W gy 0 (ofN (x.toNat / 10 ^ (19 * j)))
  yf : Free4 W gy 0
  d4 : At4 W dv 0 D19
  bel : Below w0.heap.size w0 W
  gbl : gb ≤ W.heap.size
/-- What holds behind the loop. -/
structure DecX (go : Nat) (w0 : World) (x : N4) (K L : Nat) (W : World) : Prop where
  kl : K + (decDigits x.toNat).length = 98
  row : RowIs W go (List.replicate K 48 ++ decDigits x.toNat)
  bel : Below w0.heap.size w0 W
theorem dec_row (j N : Nat) (d : List UInt8) (h : 19 * j + d.length ≤ 98) :
    (List.replicate (98 - 19 * j) 48 ++ padD (19 * j) N).take (98 - 19 * j - d.length) ++ d ++ (List.replicate (98 - 19 * j) 48 ++ padD (19 * j) N).drop (98 - 19 * j - d.length + d.length) = List.replicate (98 - 19 * j - d.length) 48 ++ d ++ padD (19 * j) N := by
  rw [List.take_append_of_le_length (by simp), List.take_replicate, show 98 - 19 * j - d.length + d.length = 98 - 19 * j by omega, show min (98 - 19 * j - d.length) (98 - 19 * j) = 98 - 19 * j - d.length by omega]
  congr 1
  rw [List.drop_append_of_le_length (by simp)]
  simp
theorem dec_more (X j : Nat) (hj : j ≤ 3) : List.replicate (98 - 19 * j - (decDigits (X / 10 ^ (19 * j) % 10 ^ 19)).length) 48 ++ decDigits (X / 10 ^ (19 * j) % 10 ^ 19) ++ padD (19 * j) (X % 10 ^ (19 * j)) = List.replicate (98 - 19 * (j + 1)) 48 ++ padD (19 * (j + 1)) (X % 10 ^ (19 * (j + 1))) := by
  obtain ⟨h1, h2⟩ := padD_eq 19 (X / 10 ^ (19 * j) % 10 ^ 19) (by omega) (Nat.mod_lt _ (by decide))
  rw [show 19 * (j + 1) = 19 + 19 * j by omega, pad_round, ← List.append_assoc, h1, ← List.append_assoc, List.replicate_append_replicate, decDigits_length, show 98 - (19 + 19 * j) + (19 - nDigits (X / 10 ^ (19 * j) % 10 ^ 19)) = 98 - 19 * j - nDigits (X / 10 ^ (19 * j) % 10 ^ 19) by omega]
theorem dec_last (X j : Nat) (h0 : X / 10 ^ (19 * j) / 10 ^ 19 = 0) (hp : 0 < X / 10 ^ (19 * j)) : decDigits (X / 10 ^ (19 * j) % 10 ^ 19) ++ padD (19 * j) (X % 10 ^ (19 * j)) = decDigits X := by
  have e : X / 10 ^ (19 * j) % 10 ^ 19 = X / 10 ^ (19 * j) := Nat.mod_eq_of_lt (Nat.lt_of_div_eq_zero (by decide) h0)
  have hl : X % 10 ^ (19 * j) < 10 ^ (19 * j) := Nat.mod_lt _ (Nat.pow_pos (by omega))
  have h := decDigits_split (19 * j) (X / 10 ^ (19 * j)) (X % 10 ^ (19 * j)) hp hl
  rw [Nat.div_add_mod'] at h
  rw [e, h]
theorem dec_div (X j : Nat) : X / 10 ^ (19 * j) / 10 ^ 19 = X / 10 ^ (19 * (j + 1)) := by
  rw [Nat.div_div_eq_div_mul, ← Nat.pow_add, show 19 * j + 19 = 19 * (j + 1) by omega]
theorem dec_stop (x : N4) : x.toNat / 10 ^ (19 * 5) = 0 := Nat.div_eq_of_lt (Nat.lt_of_lt_of_le (toNat_lt x) (by decide))
theorem RowIs.bel' {w w' : World} {g B : Nat} {l : List UInt8} (h : RowIs w g l) (hb : Below B w w') (hg : g < B) : RowIs w' g l := by
  unfold RowIs at *
  rw [hb.block g hg]; exact h
theorem At4.belB {a b : World} {B c o : Nat} {x : N4} (h : At4 a c o x) (k : Below B a b) (hc : c < B) : At4 b c o x := by
  obtain ⟨h0, h1, h2, h3⟩ := h
  have e : ∀ p, b.cell? ⟨c, p, none⟩ = a.cell? ⟨c, p, none⟩ := fun p => k.cell (p := ⟨c, p, none⟩) hc
  exact ⟨(e _).trans h0, (e _).trans h1, (e _).trans h2, (e _).trans h3⟩
theorem nDigits_max (k u : Nat) (hk : 0 < k) (hu : u < 10 ^ k) : nDigits u ≤ k := (padD_eq k u hk hu).2
theorem Free4.belB {a b : World} {B c o : Nat} (h : Free4 a c o) (k : Below B a b) (hc : c < B) : Free4 b c o := by
  obtain ⟨h0, h1, h2, h3⟩ := h
  have e : ∀ p, b.frozen? ⟨c, p, none⟩ = a.frozen? ⟨c, p, none⟩ := fun p => by unfold World.frozen?; rw [k.block c hc]
  exact ⟨(e _).trans h0, (e _).trans h1, (e _).trans h2, (e _).trans h3⟩
theorem own_slice {w : World} {B n : Nat} {e : TypeId} {v : Value} {xs : List Value} (h : w.ownsRow B e 1 v n xs) (hn : 0 < n) : ∃ g cap, v = .slice (some ⟨g, 0, none⟩) n cap ∧ B ≤ g := by
  obtain ⟨h1, h2⟩ := h
  rcases h2 with ⟨h3, h4⟩ | ⟨g', cap', cur, h3, h4, h5⟩
  · omega
  · exact ⟨g', cap', h3, h4⟩
set_option maxHeartbeats 8000000 in
set_option maxRecDepth 20000 in
theorem dec_round (go gy dv gb : Nat) (w0 : World) (x : N4) (j g n cap : Nat) (W : World) (Q : Exit → Act → World → Prop) (c0 c1 c2 c10 c11 c12 c13 c14 c15 c16 c17 c18 c19 c20 c21 c22 c23 c24 c25 c50 c51 c52 c53 c54 c55 c56 v8 v9 v26 v27 v28 v29 v30 v31 v32 v33 v34 v35 v36 v37 v38 v39 v40 v41 v42 v43 v44 v45 v46 v47 v48 v49 : Value)
    (H : DecW go gy dv gb w0 x j g n cap W) (h1 : go ≠ gy) (h2 : dv ≠ gy) (h3 : dv ≠ go) (h4 : go < gb) (h5 : gy < gb) (h6 : dv < gb) (h7 : w0.heap.size ≤ go) (h8 : w0.heap.size ≤ gy) (P0 : P10 w0)
    (HN : Hid (∀ (g n cap : Nat) (P : Int) (W' : World) (u8 u9 u26 u27 u28 u29 u30 u31 u32 u33 u34 u35 u36 u37 u38 u39 u40 u41 u42 u43 u44 u45 u46 u47 u48 u49 : Value), P = 98 - 19 * ((j + 1 : Nat) : Int) → DecW go gy dv gb w0 x (j + 1) g n cap W' → Q .normal ⟨List.toArray (c0 :: c1 :: c2 :: .slice (some ⟨go, 0, none⟩) 98 98 :: .pointer (some ⟨dv, 0, none⟩) :: .pointer (some ⟨gy, 0, none⟩) :: .int .i64 P :: (.slice (some ⟨g, 0, none⟩) n cap) :: u8 :: u9 :: c10 :: c11 :: c12 :: c13 :: c14 :: c15 :: c16 :: c17 :: c18 :: c19 :: c20 :: c21 :: c22 :: c23 :: c24 :: c25 :: u26 :: u27 :: u28 :: u29 :: u30 :: u31 :: u32 :: u33 :: u34 :: u35 :: u36 :: u37 :: u38 :: u39 :: u40 :: u41 :: u42 :: u43 :: u44 :: u45 :: u46 :: u47 :: u48 :: u49 :: c50 :: c51 :: c52 :: c53 :: c54 :: c55 :: c56 :: []), []⟩ W'))
    (HX : Hid (∀ (K L g cap : Nat) (P : Int) (W' : World) (u8 u9 u26 u27 u28 u29 u30 u31 u32 u33 u34 u35 u36 u37 u38 u39 u40 u41 u42 u43 u44 u45 u46 u47 u48 u49 : Value), P = ((K + L : Nat) : Int) → DecX go w0 x K L W' → Q (.exit 0) ⟨List.toArray (c0 :: c1 :: c2 :: .slice (some ⟨go, 0, none⟩) 98 98 :: .pointer (some ⟨dv, 0, none⟩) :: .pointer (some ⟨gy, 0, none⟩) :: .int .i64 P :: (.slice (some ⟨g, 0, none⟩) L cap) :: u8 :: u9 :: c10 :: c11 :: c12 :: c13 :: c14 :: c15 :: c16 :: c17 :: c18 :: c19 :: c20 :: c21 :: c22 :: c23 :: c24 :: c25 :: u26 :: u27 :: u28 :: u29 :: u30 :: u31 :: u32 :: u33 :: u34 :: u35 :: u36 :: u37 :: u38 :: u39 :: u40 :: u41 :: u42 :: u43 :: u44 :: u45 :: u46 :: u47 :: u48 :: u49 :: c50 :: c51 :: c52 :: c53 :: c54 :: c55 :: c56 :: []), []⟩ W')) :
    Code.wp Tryd.prog decBody Q ⟨List.toArray (c0 :: c1 :: c2 :: .slice (some ⟨go, 0, none⟩) 98 98 :: .pointer (some ⟨dv, 0, none⟩) :: .pointer (some ⟨gy, 0, none⟩) :: .int .i64 (98 - 19 * (j : Int)) :: (.slice (some ⟨g, 0, none⟩) n cap) :: v8 :: v9 :: c10 :: c11 :: c12 :: c13 :: c14 :: c15 :: c16 :: c17 :: c18 :: c19 :: c20 :: c21 :: c22 :: c23 :: c24 :: c25 :: v26 :: v27 :: v28 :: v29 :: v30 :: v31 :: v32 :: v33 :: v34 :: v35 :: v36 :: v37 :: v38 :: v39 :: v40 :: v41 :: v42 :: v43 :: v44 :: v45 :: v46 :: v47 :: v48 :: v49 :: c50 :: c51 :: c52 :: c53 :: c54 :: c55 :: c56 :: []), []⟩ W := by
  obtain ⟨jle, pos, ⟨xs, own⟩, row, y4, yf, d4, bel, gbl⟩ := H
  have HOWN := Lib.hid own
  have HROW := Lib.hid row
  have HY := Lib.hid y4
  have HYF := Lib.hid yf
  have HD := Lib.hid d4
  have HP0 := Lib.hid P0
  have HB := Lib.hid bel
  have HPOS := Lib.hid pos
  clear own row y4 yf d4 bel pos P0
  conv => arg 2; whnf
  go_upto_region 11 with fail
  generalize hW1 : (W.alloc (Obj.cells #[.int .u64 0, .int .u64 0, .int .u64 0, .int .u64 0] 59)).alloc (Obj.cells #[.int .u64 0, .int .u64 0, .int .u64 0, .int .u64 0] 59) = W1
  have b1 : Below W.heap.size W W1 := by rw [← hW1]; exact bel_alloc (bel_alloc (bel_refl W) _) _
  have s1 : W1.heap.size = W.heap.size + 2 := by rw [← hW1]; simp
  have HQR : Hid (RowW W1 W.heap.size 0 (List.replicate 4 0#64)) := by
    show RowW _ _ _ _
    rw [← hW1]; exact (RowW.new4 W _).alloc _
  have HR4 : Hid (At4 W1 (W.heap.size + 1) 0 ⟨0#64, 0#64, 0#64, 0#64⟩) := by
    show At4 _ _ _ _
    rw [← hW1]; constructor <;> simp [go_sem] <;> rfl
  have HRF : Hid (Free4 W1 (W.heap.size + 1) 0) := by
    show Free4 _ _ _
    rw [← hW1]; constructor <;> simp [go_sem]
  generalize hq : W.heap.size = q at *
  clear hW1
  have HY1 := Lib.hid (HY.out.bel (by rw [hq]; exact b1))
  have HYF1 := Lib.hid (HYF.out.bel HY.out.lt (by rw [hq]; exact b1))
  have HD1 := Lib.hid (HD.out.bel (by rw [hq]; exact b1))
  obtain ⟨Y, hY⟩ : ∃ Y, Y = x.toNat / 10 ^ (19 * j) := ⟨_, rfl⟩
  have hYN : (ofN Y).toNat = Y := by
    rw [ofN_toNat, Nat.mod_eq_of_lt]
    rw [hY]; exact Nat.lt_of_le_of_lt (Nat.div_le_self _ _) (toNat_lt x)
  rw [← hY] at HY1
  have HYE := Lib.hid hY
  have HYN := Lib.hid hYN
  clear hY hYN
  have hgy : gy < q := by omega
  have hdv : dv < q := by omega
  have UD : Hid (∀ k, Calls Tryd.prog 54 #[.slice (some ⟨q, 0, none⟩) 4 4, .slice (some ⟨gy, 0, none⟩) 4 4, .pointer (some ⟨dv, 0, none⟩), .pointer (some ⟨q + 1, 0, none⟩)] (W1.drewN k) fun e w' => e = .returned (.tuple #[]) ∧ At4 w' q 0 (ofN (Y / 10 ^ 19)) ∧ (∃ r : N4, At4 w' (q + 1) 0 r ∧ r.toNat = Y % 10 ^ 19) ∧ But [q, q + 1] W1 w') := fun k => by
    have h := udivrem_wide q 0 4 4 gy 0 4 4 dv 0 (some (q + 1, 0)) (ofN Y).l4 D19 (W1.drewN k) (HQR.out.drewN k) (RowW.of4 (HY1.out.drewN k) (HYF1.out.drewN k)) (HD1.out.drewN k) rfl (by decide) (by decide) (by decide) (by decide) (by decide) (by omega) (by omega) (fun b o e => by cases e; exact ⟨HR4.out.drewN k, HRF.out.drewN k, by omega, by omega, by omega, .inr (by rw [D19_toNat]; decide)⟩) (by rw [D19_toNat]; decide) (by rw [N4.wseg4, HYN.out]; rw [HYE.out]; exact HPOS.out)
    refine h.mono ?_
    rintro e w' ⟨Q', he, g1, g2, g3, g4, g5⟩
    rw [N4.wseg4, HYN.out, D19_toNat] at g2
    obtain ⟨r, r1, r2, r3⟩ := g4 (q + 1) 0 rfl
    rw [N4.wseg4, HYN.out, D19_toNat] at r3
    refine ⟨he, ?_, ⟨r, r1, r3⟩, ((But.refl _ W1).drewN k).trans g5⟩
    rw [← n4_ofN g2]
    exact g3.at4 (by omega)
  have hsl := fun b o w => sliceAll4 b o w
  go_region_held3 (fun w' => True) (trivial) ((go_at_call 54; refine (UD.out _).mono ?_; rintro e w5 ⟨rfl, hq5, ⟨r, hr5, hrN⟩, hB5⟩))
  have B5 : But [gy] W w5 := (But.of_bel (S := [gy]) (by rw [hq]; exact b1)).step hB5 (fun t ht => by simp at ht; omega)
  have HY5 := Lib.hid (HY1.out.but hB5 (by simp; omega))
  have HYF5 := Lib.hid (HYF1.out.but HY1.out.lt hB5 (by simp; omega))
  have HQ5 := Lib.hid hq5
  have HR5 := Lib.hid hr5
  have HB5' := Lib.hid B5
  have hgyq : gy ≠ q := by omega
  clear hsl UD HY1 HYF1 HD1 HQR HR4 HRF hB5 hq5 hr5 B5 b1
  go_upto_region 13 with (go_at_call 53; refine (set_any gy 0 q 0 _ _ _ HY5.out HYF5.out HQ5.out (Sep.blocks (by omega))).mono ?_; rintro e w6 ⟨rfl, n6, hw6⟩; have HW6 := Lib.hid hw6; clear hw6)
  have hw6 := HW6.out
  have B6 : But [gy] W w6 := by rw [hw6]; exact (HB5'.out.put4 (by simp) _ _).drewN _
  have HY6 : Hid (At4 w6 gy 0 (ofN (Y / 10 ^ 19))) := by show At4 _ _ _ _; rw [hw6]; exact (put4_at _ _ _ _ _ HY5.out).drewN _
  have HYF6 : Hid (Free4 w6 gy 0) := by show Free4 _ _ _; rw [hw6]; exact (Free4.put _ HYF5.out).drewN _
  have HR6 : Hid (At4 w6 (q + 1) 0 r) := by show At4 _ _ _ _; rw [hw6]; exact (put4_far HR5.out (by omega)).drewN _
  have HD6 := Lib.hid (HD.out.but B6 (by simp; omega))
  have HROW6 := Lib.hid (HROW.out.but B6 (by simp; omega))
  have HB6 := Lib.hid (B6.bel HB.out (fun b hb => by simp at hb; omega))
  have gbl6 : gb ≤ w6.heap.size := Nat.le_trans (by omega) B6.size
  obtain ⟨_, _, e0, hgg⟩ : ∃ g' cap', Value.slice (some ⟨g, 0, none⟩) n cap = .slice (some ⟨g', 0, none⟩) n cap' ∧ gb ≤ g' := by
    rcases HOWN.out.2 with ⟨e, _⟩ | ⟨g', cap', cur, e, hb, _⟩
    · cases e
    · exact ⟨g', cap', e, hb⟩
  cases e0
  have HOWN6 := Lib.hid (own_cut0 (own_but HOWN.out B6 (by simp; omega)))
  have hr64 : r.toNat < 18446744073709551616 := by rw [hrN]; exact Nat.lt_of_lt_of_le (Nat.mod_lt _ (by decide)) (by decide)
  have hra : r.a.toNat = Y % 10 ^ 19 := by rw [← hrN]; exact (small_toNat (by omega)).symm
  obtain ⟨ds, hds⟩ : ∃ ds, ds = decDigits (Y % 10 ^ 19) := ⟨_, rfl⟩
  have APP : Hid (∀ k, Calls Tryd.prog 55 #[.slice (some ⟨g, 0, none⟩) 0 cap, V r.a, .int .i64 10] (w6.drewN k) fun e w' => ∃ g' cap', e = .returned (.slice (some ⟨g', 0, none⟩) ds.length cap') ∧ gb ≤ g' ∧ w'.ownsRow gb 5 1 (.slice (some ⟨g', 0, none⟩) ds.length cap') ds.length (byteCells ds) ∧ Below gb w6 w') := fun k => by
    have h := appendUint_any gb 0 r.a.toNat r.a.isLt (.slice (some ⟨g, 0, none⟩) 0 cap) [] (w6.drewN k) HOWN6.out gbl6 (by omega) (HP0.out.bel ((bel_drewN HB6.out k)))
    refine h.mono ?_
    rintro e w' ⟨v', rfl, g1, g2⟩
    rw [hra, ← hds, Nat.zero_add, List.nil_append] at g1
    obtain ⟨g', cap', rfl, g3⟩ := own_slice g1 (by rw [hds, decDigits_length]; exact nDigits_pos _)
    exact ⟨g', cap', rfl, g3, g1, ⟨g2.os, g2.tape, g2.output, g2.size, g2.block⟩⟩
  have HDS := Lib.hid hds
  have HRN := Lib.hid hrN
  clear hds hrN hra HW6
  clear hw6 HY5 HYF5 HQ5 HR5 HB5' HOWN HROW HD HY HYF
  go_region_held3 (fun w' => True) (trivial) (first | (go_at_call 56; refine (uint64_any (q + 1) 0 r _ (HR6.out.drewN _)).mono ?_; rintro e w7 ⟨rfl, k7, rfl⟩) | (go_at_call 55; refine (APP.out _).mono ?_; rintro e w7 ⟨g', cap', rfl, hg', hown7, hb7⟩))
  have HY7 := Lib.hid (HY6.out.belB hb7 h5)
  have HYF7 := Lib.hid (HYF6.out.belB hb7 h5)
  have HD7 := Lib.hid (HD6.out.belB hb7 h6)
  have HROW7 := Lib.hid (HROW6.out.bel' hb7 h4)
  have HB7 := Lib.hid (HB6.out.trans (hb7.mono (by omega)))
  have gbl7 : gb ≤ w7.heap.size := Nat.le_trans gbl6 hb7.size
  have HOWN7 := Lib.hid hown7
  have hL1 : 0 < ds.length := by rw [HDS.out, decDigits_length]; exact nDigits_pos _
  have hL19 : ds.length ≤ 19 := by rw [HDS.out, decDigits_length]; exact nDigits_max 19 _ (by omega) (Nat.mod_lt _ (by decide))
  obtain ⟨L, hL⟩ : ∃ L, L = ds.length := ⟨_, rfl⟩
  obtain ⟨K, hK⟩ : ∃ K, K = 98 - 19 * j - L := ⟨_, rfl⟩
  have HLE := Lib.hid hL
  rw [← hL] at HOWN7 hL1 hL19 ⊢
  have hKL : K + L + 19 * j = 98 := by omega
  have hk : (98 : Int) - 19 * (j : Int) - (L : Int) = (K : Int) := by omega
  have hlen : (List.replicate (98 - 19 * j) (48 : UInt8) ++ padD (19 * j) (x.toNat % 10 ^ (19 * j))).length = 98 := by rw [List.length_append, List.length_replicate, padD_length]; omega
  have hcp := HROW7.out.copy HOWN7.out K (98 - K) (98 - K) HLE.out (by omega) (by rw [hlen]; omega)
  have HROW8 := HROW7.out.setCells ds K (by rw [hlen, ← HLE.out]; omega)
  have B8 : But [go] w7 (w7.setCells go K (byteCells ds)) := But.setCells (byteCells ds) K (But.refl _ _) (by simp)
  rw [HLE.out] at hK
  have HR8 := Lib.hid (show RowIs (w7.setCells go K (byteCells ds)) go (List.replicate (98 - 19 * j - ds.length) 48 ++ ds ++ padD (19 * j) (x.toNat % 10 ^ (19 * j))) by rw [hK, dec_row j _ ds (by omega)] at HROW8; rw [hK]; exact HROW8)
  have HY8 := Lib.hid (HY7.out.but B8 (by simp; omega))
  have HYF8 := Lib.hid (HYF7.out.but HY7.out.lt B8 (by simp; omega))
  have HD8 := Lib.hid (HD7.out.but B8 (by simp; omega))
  have HO8 := Lib.hid (own_but HOWN7.out B8 (by simp; omega))
  have HB8 := Lib.hid (B8.bel HB7.out (fun b hb => by simp at hb; omega))
  have gbl8 : gb ≤ (w7.setCells go K (byteCells ds)).heap.size := Nat.le_trans gbl7 B8.size
  clear hL hK hlen HROW8 B8 hown7 hb7 HY7 HYF7 HD7 HROW7 HOWN7 HY6 HYF6 HR6 HD6 HROW6 HB6 HOWN6 APP HB7
  generalize hw8 : w7.setCells go K (byteCells ds) = w8 at *
  clear hw8
  go_upto_region 15 with fail
  clear hcp
  have hYdiv : Y / 10 ^ 19 = x.toNat / 10 ^ (19 * (j + 1)) := by rw [HYE.out]; exact dec_div _ _
  have hYN2 : (ofN (Y / 10 ^ 19)).toNat = Y / 10 ^ 19 := by
    rw [ofN_toNat, Nat.mod_eq_of_lt]
    exact Nat.lt_of_le_of_lt (Nat.le_trans (Nat.div_le_self _ _) (by rw [HYE.out]; exact Nat.div_le_self _ _)) (toNat_lt x)
  cases hz : (ofN (Y / 10 ^ 19)).isZ
  · have hne : 0 < Y / 10 ^ 19 := by
      rcases Nat.eq_zero_or_pos (Y / 10 ^ 19) with h0 | h0
      · rw [(isZ_iff _).2 (by rw [hYN2, h0])] at hz; cases hz
      · exact h0
    have hj3 : j ≤ 3 := by
      rcases Nat.lt_or_ge j 4 with h | h
      · omega
      · have : j = 4 := by omega
        subst this
        rw [hYdiv, dec_stop] at hne
        omega
    have HNE := Lib.hid hne
    have HYD := Lib.hid hYdiv
    clear hYN2 hne hYdiv
    go_wp2_with (go_at_call 51; refine (isZero_any gy 0 _ _ HY8.out).mono ?_; rintro e w9 ⟨rfl, n9, rfl⟩)
    refine HN.out _ _ _ _ _ _ _ _ _ _ _ _ _ _ _ _ _ _ _ _ _ _ _ _ _ _ _ _ _ _ _ (by omega) ?_
    have hr := HR8.out
    rw [HDS.out, HYE.out, dec_more _ j hj3] at hr
    have hy := HY8.out
    rw [HYD.out] at hy
    exact ⟨by omega, by rw [← HYD.out]; exact HNE.out, ⟨_, HO8.out⟩, hr, hy.drewN _, HYF8.out.drewN _, HD8.out.drewN _, bel_drewN HB8.out _, gbl8⟩
  · have h0 : Y / 10 ^ 19 = 0 := by rw [← hYN2]; exact (isZ_iff _).1 hz
    have HH0 := Lib.hid h0
    clear hYN2 hYdiv h0
    go_wp2_with (go_at_call 51; refine (isZero_any gy 0 _ _ HY8.out).mono ?_; rintro e w9 ⟨rfl, n9, rfl⟩)
    have hr := HR8.out
    have h1 := HH0.out
    rw [HYE.out] at h1
    have hlast := dec_last _ j h1 HPOS.out
    have hl := congrArg List.length hlast
    rw [← HYE.out, ← HDS.out, List.length_append, padD_length, ← HLE.out] at hl
    rw [show 98 - 19 * j - ds.length = K by have := HLE.out; omega, HDS.out, HYE.out, List.append_assoc, hlast] at hr
    exact HX.out K L _ _ _ _ _ _ _ _ _ _ _ _ _ _ _ _ _ _ _ _ _ _ _ _ _ _ _ _ _ _ (by omega) ⟨by omega, hr, bel_drewN HB8.out _⟩
/-- The loop's invariant. -/
def DecI (go gy dv gb : Nat) (w0 : World) (x : N4) (c0 c1 c2 c10 c11 c12 c13 c14 c15 c16 c17 c18 c19 c20 c21 c22 c23 c24 c25 c50 c51 c52 c53 c54 c55 c56 : Value) (a : Act) (W : World) : Prop :=
  ∃ (u8 u9 u26 u27 u28 u29 u30 u31 u32 u33 u34 u35 u36 u37 u38 u39 u40 u41 u42 u43 u44 u45 u46 u47 u48 u49 : Value), ∃ (j g n cap : Nat) (P : Int), P = 98 - 19 * (j : Int) ∧ DecW go gy dv gb w0 x j g n cap W ∧ a = ⟨List.toArray (c0 :: c1 :: c2 :: .slice (some ⟨go, 0, none⟩) 98 98 :: .pointer (some ⟨dv, 0, none⟩) :: .pointer (some ⟨gy, 0, none⟩) :: .int .i64 P :: (.slice (some ⟨g, 0, none⟩) n cap) :: u8 :: u9 :: c10 :: c11 :: c12 :: c13 :: c14 :: c15 :: c16 :: c17 :: c18 :: c19 :: c20 :: c21 :: c22 :: c23 :: c24 :: c25 :: u26 :: u27 :: u28 :: u29 :: u30 :: u31 :: u32 :: u33 :: u34 :: u35 :: u36 :: u37 :: u38 :: u39 :: u40 :: u41 :: u42 :: u43 :: u44 :: u45 :: u46 :: u47 :: u48 :: u49 :: c50 :: c51 :: c52 :: c53 :: c54 :: c55 :: c56 :: []), []⟩
def DecMu (a : Act) (_ : World) : Nat := (RowKit.intOf (a.tmps[6]?.getD undef)).toNat
set_option maxHeartbeats 8000000 in
set_option maxRecDepth 20000 in
theorem dec_loop (go gy dv gb : Nat) (w0 : World) (x : N4) (j g n cap : Nat) (W : World) (Q : Exit → Act → World → Prop) (c0 c1 c2 c10 c11 c12 c13 c14 c15 c16 c17 c18 c19 c20 c21 c22 c23 c24 c25 c50 c51 c52 c53 c54 c55 c56 v8 v9 v26 v27 v28 v29 v30 v31 v32 v33 v34 v35 v36 v37 v38 v39 v40 v41 v42 v43 v44 v45 v46 v47 v48 v49 : Value)
    (H : DecW go gy dv gb w0 x j g n cap W) (h1 : go ≠ gy) (h2 : dv ≠ gy) (h3 : dv ≠ go) (h4 : go < gb) (h5 : gy < gb) (h6 : dv < gb) (h7 : w0.heap.size ≤ go) (h8 : w0.heap.size ≤ gy) (P0 : P10 w0)
    (HX : Hid (∀ (K L g cap : Nat) (P : Int) (W' : World) (u8 u9 u26 u27 u28 u29 u30 u31 u32 u33 u34 u35 u36 u37 u38 u39 u40 u41 u42 u43 u44 u45 u46 u47 u48 u49 : Value), P = ((K + L : Nat) : Int) → DecX go w0 x K L W' → Q (.exit 0) ⟨List.toArray (c0 :: c1 :: c2 :: .slice (some ⟨go, 0, none⟩) 98 98 :: .pointer (some ⟨dv, 0, none⟩) :: .pointer (some ⟨gy, 0, none⟩) :: .int .i64 P :: (.slice (some ⟨g, 0, none⟩) L cap) :: u8 :: u9 :: c10 :: c11 :: c12 :: c13 :: c14 :: c15 :: c16 :: c17 :: c18 :: c19 :: c20 :: c21 :: c22 :: c23 :: c24 :: c25 :: u26 :: u27 :: u28 :: u29 :: u30 :: u31 :: u32 :: u33 :: u34 :: u35 :: u36 :: u37 :: u38 :: u39 :: u40 :: u41 :: u42 :: u43 :: u44 :: u45 :: u46 :: u47 :: u48 :: u49 :: c50 :: c51 :: c52 :: c53 :: c54 :: c55 :: c56 :: []), []⟩ W')) :
    Code.wp Tryd.prog (.loop decBody) Q ⟨List.toArray (c0 :: c1 :: c2 :: .slice (some ⟨go, 0, none⟩) 98 98 :: .pointer (some ⟨dv, 0, none⟩) :: .pointer (some ⟨gy, 0, none⟩) :: .int .i64 (98 - 19 * (j : Int)) :: (.slice (some ⟨g, 0, none⟩) n cap) :: v8 :: v9 :: c10 :: c11 :: c12 :: c13 :: c14 :: c15 :: c16 :: c17 :: c18 :: c19 :: c20 :: c21 :: c22 :: c23 :: c24 :: c25 :: v26 :: v27 :: v28 :: v29 :: v30 :: v31 :: v32 :: v33 :: v34 :: v35 :: v36 :: v37 :: v38 :: v39 :: v40 :: v41 :: v42 :: v43 :: v44 :: v45 :: v46 :: v47 :: v48 :: v49 :: c50 :: c51 :: c52 :: c53 :: c54 :: c55 :: c56 :: []), []⟩ W := by
  refine wp_loop (DecI go gy dv gb w0 x c0 c1 c2 c10 c11 c12 c13 c14 c15 c16 c17 c18 c19 c20 c21 c22 c23 c24 c25 c50 c51 c52 c53 c54 c55 c56) DecMu ?_ ?_
  · exact ⟨v8, v9, v26, v27, v28, v29, v30, v31, v32, v33, v34, v35, v36, v37, v38, v39, v40, v41, v42, v43, v44, v45, v46, v47, v48, v49, j, g, n, cap, _, rfl, H, rfl⟩
  · intro a W1 hI
    obtain ⟨u8, hI⟩ := hI
    obtain ⟨u9, hI⟩ := hI
    obtain ⟨u26, hI⟩ := hI
    obtain ⟨u27, hI⟩ := hI
    obtain ⟨u28, hI⟩ := hI
    obtain ⟨u29, hI⟩ := hI
    obtain ⟨u30, hI⟩ := hI
    obtain ⟨u31, hI⟩ := hI
    obtain ⟨u32, hI⟩ := hI
    obtain ⟨u33, hI⟩ := hI
    obtain ⟨u34, hI⟩ := hI
    obtain ⟨u35, hI⟩ := hI
    obtain ⟨u36, hI⟩ := hI
    obtain ⟨u37, hI⟩ := hI
    obtain ⟨u38, hI⟩ := hI
    obtain ⟨u39, hI⟩ := hI
    obtain ⟨u40, hI⟩ := hI
    obtain ⟨u41, hI⟩ := hI
    obtain ⟨u42, hI⟩ := hI
    obtain ⟨u43, hI⟩ := hI
    obtain ⟨u44, hI⟩ := hI
    obtain ⟨u45, hI⟩ := hI
    obtain ⟨u46, hI⟩ := hI
    obtain ⟨u47, hI⟩ := hI
    obtain ⟨u48, hI⟩ := hI
    obtain ⟨u49, hI⟩ := hI
    obtain ⟨j, g, n, cap, P, rfl, H, rfl⟩ := hI
    refine dec_round go gy dv gb w0 x j g n cap W1 _ c0 c1 c2 c10 c11 c12 c13 c14 c15 c16 c17 c18 c19 c20 c21 c22 c23 c24 c25 c50 c51 c52 c53 c54 c55 c56 _ _ _ _ _ _ _ _ _ _ _ _ _ _ _ _ _ _ _ _ _ _ _ _ _ _ H h1 h2 h3 h4 h5 h6 h7 h8 P0 ?_ ?_
    · show ∀ _, _
      intro g n cap P W' u8 u9 u26 u27 u28 u29 u30 u31 u32 u33 u34 u35 u36 u37 u38 u39 u40 u41 u42 u43 u44 u45 u46 u47 u48 u49 hP HW
      refine ⟨⟨u8, u9, u26, u27, u28, u29, u30, u31, u32, u33, u34, u35, u36, u37, u38, u39, u40, u41, u42, u43, u44, u45, u46, u47, u48, u49, j + 1, g, n, cap, P, hP, HW, rfl⟩, ?_⟩
      show (RowKit.intOf (.int .i64 P)).toNat < (RowKit.intOf (.int .i64 (98 - 19 * (j : Int)))).toNat
      have := H.jle
      simp only [RowKit.intOf]
      omega
    · exact HX
end Go.Proofs.YtbgmeppidedfbaaDoor
/-
  Int.PrettyDec: the loops.
-/
set_option linter.unusedVariables false
set_option linter.unusedSimpArgs false
namespace Go.Proofs.YtbgmeppidedfbaaDoor
open Go.RowKit Go.Lib
/-- The loops' bodies in a code, not those within them. -/
def loopsOf : Code → List Code
  | .loop c => [c]
  | .seq a b => loopsOf a ++ loopsOf b
  | .block _ c => loopsOf c
  | .scope c => loopsOf c
  | .cond _ a b => loopsOf a ++ loopsOf b
  | _ => []
noncomputable def pretBody : Code := (Tryd.f35.body.bind loopBody).getD .skip
noncomputable def pretIn : Code := (loopsOf pretBody).headD .skip
noncomputable def pretPad : Code := ((loopsOf pretBody).drop 1).headD .skip
/-- The row of digits and separators. -/
def pretRow (sep : UInt8) (D : List UInt8) : List UInt8 := List.replicate (133 - pretLen D.length) 48 ++ pret sep D
theorem pretLen_le (n : Nat) (h : n ≤ 95) : pretLen n ≤ 126 := by unfold pretLen; omega
theorem pretRow_len (sep : UInt8) (D : List UInt8) (h : D.length ≤ 95) : (pretRow sep D).length = 133 := by
  unfold pretRow
  have := pretLen_le _ h
  rw [List.length_append, List.length_replicate, pret_length]
  omega
theorem set_end (n : Nat) (v : UInt8) (L : List UInt8) : (List.replicate (n + 1) 48 ++ L).set n v = List.replicate n 48 ++ v :: L := by
  rw [List.replicate_succ', List.append_assoc, List.set_append_right _ _ (by simp)]
  simp
theorem replicate_end (n : Nat) (L : List UInt8) : List.replicate (n + 1) (48 : UInt8) ++ L = List.replicate n 48 ++ 48 :: L := by
  rw [List.replicate_succ', List.append_assoc]; rfl
theorem row_sep (sep d : UInt8) (D : List UInt8) (p : Nat) (hp : p + pretLen D.length = 132) (h1 : 0 < p) (hc : comma D.length = 3) : ((pretRow sep D).set p sep).set (p - 1) d = pretRow sep (d :: D) ∧ (d = 48 → (pretRow sep D).set p sep = pretRow sep (d :: D)) := by
  obtain ⟨e1, e2, e3⟩ := pret_cons_sep sep d D hc
  unfold pretRow
  rw [List.length_cons, e3, e1, show 133 - pretLen D.length = p + 1 by omega, set_end, show 133 - (pretLen D.length + 2) = p - 1 by omega]
  obtain ⟨q, rfl⟩ : ∃ q, p = q + 1 := ⟨p - 1, by omega⟩
  rw [show q + 1 - 1 = q by omega, set_end]
  refine ⟨rfl, fun h => ?_⟩
  rw [replicate_end, h]
theorem row_no (sep d : UInt8) (D : List UInt8) (p : Nat) (hp : p + pretLen D.length = 132) (hc : comma D.length ≠ 3) : (pretRow sep D).set p d = pretRow sep (d :: D) ∧ (d = 48 → pretRow sep D = pretRow sep (d :: D)) := by
  obtain ⟨e1, e2, e3⟩ := pret_cons_no sep d D hc
  unfold pretRow
  rw [List.length_cons, e3, e1, show 133 - pretLen D.length = p + 1 by omega, set_end, show 133 - (pretLen D.length + 1) = p by omega]
  refine ⟨rfl, fun h => ?_⟩
  rw [replicate_end, h]
theorem comma_le (n : Nat) : comma n ≤ 3 := by unfold comma; split <;> omega
/-- What holds in the loop that writes the digits: k of them are left. -/
structure PretS (W0 : World) (go : Nat) (sep : UInt8) (ds D0 : List UInt8) (g k p c : Nat) (W : World) : Prop where
  kle : k ≤ ds.length
  lim : ds.length + D0.length ≤ 95
  hp : p + pretLen (ds.length - k + D0.length) = 132
  hc : c = comma (ds.length - k + D0.length)
  row : RowIs W go (pretRow sep (ds.drop k ++ D0))
  but : But [go] W0 W
  buf : ∀ i b, ds[i]? = some b → W.cell? ⟨g, i, none⟩ = some (.int .u8 (b.toNat : Int))
theorem drop_len (ds D0 : List UInt8) (k : Nat) (h : k ≤ ds.length) : (ds.drop k ++ D0).length = ds.length - k + D0.length := by simp
set_option maxHeartbeats 8000000 in
set_option maxRecDepth 20000 in
theorem pret_in_round (W0 : World) (go : Nat) (sep : UInt8) (ds D0 : List UInt8) (g cap k p c : Nat) (W : World) (Q : Exit → Act → World → Prop) (c0 c2 c3 c4 c6 c7 c11 c12 c14 c15 c16 c17 c18 c19 c20 c21 c22 c23 c24 c25 c26 c27 c28 c29 c30 c31 c32 c33 c34 c35 c36 c37 c38 c39 c40 c41 c65 c66 c67 c68 c69 c70 c71 c72 c73 c74 c75 c76 c77 c78 c79 c80 c81 c82 c83 c84 c85 c86 c87 c88 c89 c90 v42 v43 v44 v45 v46 v47 v48 v49 v50 v51 v52 v53 v54 v55 v56 v57 v58 v59 v60 v61 v62 v63 v64 : Value)
    (H : PretS W0 go sep ds D0 g k p c W) (hg : g ≠ go)
    (HN : Hid (∀ (p c : Nat) (P C J : Int) (W' : World) (u42 u43 u44 u45 u46 u47 u48 u49 u50 u51 u52 u53 u54 u55 u56 u57 u58 u59 u60 u61 u62 u63 u64 : Value), P = (p : Int) → C = (c : Int) → 0 < k → J = ((k - 1 : Nat) : Int) - 1 → PretS W0 go sep ds D0 g (k - 1) p c W' → Q .normal ⟨List.toArray (c0 :: .int .u8 (sep.toNat : Int) :: c2 :: c3 :: c4 :: .slice (some ⟨go, 0, none⟩) 133 133 :: c6 :: c7 :: .int .i64 P :: .slice (some ⟨g, 0, none⟩) ds.length cap :: .int .i64 C :: c11 :: c12 :: .int .i64 J :: c14 :: c15 :: c16 :: c17 :: c18 :: c19 :: c20 :: c21 :: c22 :: c23 :: c24 :: c25 :: c26 :: c27 :: c28 :: c29 :: c30 :: c31 :: c32 :: c33 :: c34 :: c35 :: c36 :: c37 :: c38 :: c39 :: c40 :: c41 :: u42 :: u43 :: u44 :: u45 :: u46 :: u47 :: u48 :: u49 :: u50 :: u51 :: u52 :: u53 :: u54 :: u55 :: u56 :: u57 :: u58 :: u59 :: u60 :: u61 :: u62 :: u63 :: u64 :: c65 :: c66 :: c67 :: c68 :: c69 :: c70 :: c71 :: c72 :: c73 :: c74 :: c75 :: c76 :: c77 :: c78 :: c79 :: c80 :: c81 :: c82 :: c83 :: c84 :: c85 :: c86 :: c87 :: c88 :: c89 :: c90 :: []), []⟩ W'))
    (HX : Hid (∀ (W' : World) (J : Int) (u42 u43 u44 u45 u46 u47 u48 u49 u50 u51 u52 u53 u54 u55 u56 u57 u58 u59 u60 u61 u62 u63 u64 : Value), k = 0 → PretS W0 go sep ds D0 g 0 p c W' → Q (.exit 2) ⟨List.toArray (c0 :: .int .u8 (sep.toNat : Int) :: c2 :: c3 :: c4 :: .slice (some ⟨go, 0, none⟩) 133 133 :: c6 :: c7 :: .int .i64 (p : Int) :: .slice (some ⟨g, 0, none⟩) ds.length cap :: .int .i64 (c : Int) :: c11 :: c12 :: .int .i64 J :: c14 :: c15 :: c16 :: c17 :: c18 :: c19 :: c20 :: c21 :: c22 :: c23 :: c24 :: c25 :: c26 :: c27 :: c28 :: c29 :: c30 :: c31 :: c32 :: c33 :: c34 :: c35 :: c36 :: c37 :: c38 :: c39 :: c40 :: c41 :: u42 :: u43 :: u44 :: u45 :: u46 :: u47 :: u48 :: u49 :: u50 :: u51 :: u52 :: u53 :: u54 :: u55 :: u56 :: u57 :: u58 :: u59 :: u60 :: u61 :: u62 :: u63 :: u64 :: c65 :: c66 :: c67 :: c68 :: c69 :: c70 :: c71 :: c72 :: c73 :: c74 :: c75 :: c76 :: c77 :: c78 :: c79 :: c80 :: c81 :: c82 :: c83 :: c84 :: c85 :: c86 :: c87 :: c88 :: c89 :: c90 :: []), []⟩ W')) :
    Code.wp Tryd.prog pretIn Q ⟨List.toArray (c0 :: .int .u8 (sep.toNat : Int) :: c2 :: c3 :: c4 :: .slice (some ⟨go, 0, none⟩) 133 133 :: c6 :: c7 :: .int .i64 (p : Int) :: .slice (some ⟨g, 0, none⟩) ds.length cap :: .int .i64 (c : Int) :: c11 :: c12 :: .int .i64 ((k : Int) - 1) :: c14 :: c15 :: c16 :: c17 :: c18 :: c19 :: c20 :: c21 :: c22 :: c23 :: c24 :: c25 :: c26 :: c27 :: c28 :: c29 :: c30 :: c31 :: c32 :: c33 :: c34 :: c35 :: c36 :: c37 :: c38 :: c39 :: c40 :: c41 :: v42 :: v43 :: v44 :: v45 :: v46 :: v47 :: v48 :: v49 :: v50 :: v51 :: v52 :: v53 :: v54 :: v55 :: v56 :: v57 :: v58 :: v59 :: v60 :: v61 :: v62 :: v63 :: v64 :: c65 :: c66 :: c67 :: c68 :: c69 :: c70 :: c71 :: c72 :: c73 :: c74 :: c75 :: c76 :: c77 :: c78 :: c79 :: c80 :: c81 :: c82 :: c83 :: c84 :: c85 :: c86 :: c87 :: c88 :: c89 :: c90 :: []), []⟩ W := by
  rcases Nat.eq_zero_or_pos k with h0 | h0
  · subst h0
    have HH := Lib.hid H
    clear H
    conv => arg 2; whnf
    go_wp2
    exact HX.out _ _ _ _ _ _ _ _ _ _ _ _ _ _ _ _ _ _ _ _ _ _ _ _ _ (by trivial) HH.out
  · obtain ⟨i, rfl⟩ : ∃ i, k = i + 1 := ⟨k - 1, by omega⟩
    obtain ⟨kle, lim, hp, hc, row, but, buf⟩ := H
    obtain ⟨D, hD⟩ : ∃ D, D = ds.drop (i + 1) ++ D0 := ⟨_, rfl⟩
    have hDl : D.length = ds.length - (i + 1) + D0.length := by rw [hD]; exact drop_len _ _ _ kle
    obtain ⟨d, hd⟩ : ∃ d, ds[i]? = some d := ⟨_, List.getElem?_eq_getElem (by omega)⟩
    have hD' : ds.drop i ++ D0 = d :: D := by
      rw [hD, List.drop_eq_getElem_cons (by omega), List.cons_append, (List.getElem?_eq_some_iff.1 hd).2]
    have hDl' : ds.length - i + D0.length = D.length + 1 := by omega
    rw [← hD] at row
    rw [← hDl] at hp hc
    have hple := pretLen_le (D.length + 1) (by omega)
    have hstep : pretLen D.length ≤ pretLen (D.length + 1) := by unfold pretLen; omega
    have hrl := pretRow_len sep D (by omega)
    have hbl := buf i d hd
    have HROW := Lib.hid row
    have HBUF := Lib.hid buf
    have HBUT := Lib.hid but
    have hil : i < ds.length := by omega
    have hii : (i : Int) < (ds.length : Int) := by omega
    have hji : ((i + 1 : Nat) : Int) - 1 = (i : Int) := by omega
    rw [hji]
    have HDP := Lib.hid hD'
    have HDL := Lib.hid hDl'
    clear buf but row hji h0 hD' hDl' hD
    have HC := Lib.hid hc
    clear hc
    by_cases h3 : c = 3
    · subst h3
      have HRS := Lib.hid (row_sep sep d D p hp (by omega) HC.out.symm)
      obtain ⟨_, e2, e3⟩ := pret_cons_sep sep d D HC.out.symm
      have E2 := Lib.hid e2
      have E3 := Lib.hid e3
      clear e2
      obtain ⟨q, rfl⟩ : ∃ q, p = q + 1 := ⟨p - 1, by omega⟩
      rw [show ((q + 1 : Nat) : Int) = (q : Int) + 1 by omega, show ((3 : Nat) : Int) = 3 by rfl]
      have hce := HROW.out.cell (q + 1) (by omega)
      have hfz := HROW.out.free (q + 1) (by omega)
      have hq : q < 132 := by omega
      have hq0 : 0 < q := by omega
      have hqi : (q : Int) + 1 < 133 := by omega
      conv => arg 2; whnf
      go_upto_region 18 with fail
      have HR1 := Lib.hid (HROW.out.set (q + 1) sep)
      have HB1 := Lib.hid (HBUT.out.set (b := go) (by simp) (q + 1) (.int .u8 (sep.toNat : Int)))
      have B1 : But [go] W (W.setCell ⟨go, q + 1, none⟩ (.int .u8 (sep.toNat : Int))) := (But.refl _ _).set (by simp) _ _
      have HU1 : Hid (∀ i b, ds[i]? = some b → (W.setCell ⟨go, q + 1, none⟩ (.int .u8 (sep.toNat : Int))).cell? ⟨g, i, none⟩ = some (.int .u8 (b.toNat : Int))) := fun i b hb => B1.cell (by simpa using hg) (HBUF.out i b hb)
      have hbl1 := HU1.out i d hd
      generalize W.setCell ⟨go, q + 1, none⟩ (.int .u8 (sep.toNat : Int)) = W1 at *
      clear hce hfz B1 hbl HBUF HBUT HROW
      have hce := HR1.out.cell q (by simp; omega)
      have hfz := HR1.out.free q (by simp; omega)
      go_upto_region 21 with fail
      have HR2 := Lib.hid (HR1.out.set q d)
      have HB2 := Lib.hid (HB1.out.set (b := go) (by simp) q (.int .u8 (d.toNat : Int)))
      have B2 : But [go] W1 (W1.setCell ⟨go, q, none⟩ (.int .u8 (d.toNat : Int))) := (But.refl _ _).set (by simp) _ _
      have HU2 : Hid (∀ i b, ds[i]? = some b → (W1.setCell ⟨go, q, none⟩ (.int .u8 (d.toNat : Int))).cell? ⟨g, i, none⟩ = some (.int .u8 (b.toNat : Int))) := fun i b hb => B2.cell (by simpa using hg) (HU1.out i b hb)
      generalize W1.setCell ⟨go, q, none⟩ (.int .u8 (d.toNat : Int)) = W2 at *
      clear hce hfz B2 hbl1 HU1 HB1 HR1
      go_wp2
      have hrow := HR2.out
      have hh := HRS.out.1
      rw [show q + 1 - 1 = q by omega] at hh
      rw [hh] at hrow
      have hD2 := HDP.out
      exact HN.out (q - 1) 1 _ _ _ _ _ _ _ _ _ _ _ _ _ _ _ _ _ _ _ _ _ _ _ _ _ _ _ (by omega) (by omega) (by omega) (by omega) ⟨by omega, lim, by have := E3.out; have := HDL.out; simp only [Nat.add_sub_cancel]; rw [this]; omega, by have := E2.out; simp only [Nat.add_sub_cancel]; rw [HDL.out]; exact this.symm, by simp only [Nat.add_sub_cancel]; rw [hD2]; exact hrow, HB2.out, HU2.out⟩
    · have HRS := Lib.hid (row_no sep d D p hp (by rw [← HC.out]; exact h3))
      obtain ⟨_, e2, e3⟩ := pret_cons_no sep d D (by rw [← HC.out]; exact h3)
      have E2 := Lib.hid e2
      have E3 := Lib.hid e3
      have hp0 : 0 < p := by omega
      have hp132 : p ≤ 132 := by omega
      have hc3 : c ≤ 3 := by rw [HC.out]; exact comma_le _
      have hce := HROW.out.cell p (by omega)
      have hfz := HROW.out.free p (by omega)
      have hqi : (p : Int) < 133 := by omega
      have hci : ((c : Int) == 3) = false := by simp; omega
      conv => arg 2; whnf
      go_upto_region 21 with fail
      have HR2 := Lib.hid (HROW.out.set p d)
      have HB2 := Lib.hid (HBUT.out.set (b := go) (by simp) p (.int .u8 (d.toNat : Int)))
      have B2 : But [go] W (W.setCell ⟨go, p, none⟩ (.int .u8 (d.toNat : Int))) := (But.refl _ _).set (by simp) _ _
      have HU2 : Hid (∀ i b, ds[i]? = some b → (W.setCell ⟨go, p, none⟩ (.int .u8 (d.toNat : Int))).cell? ⟨g, i, none⟩ = some (.int .u8 (b.toNat : Int))) := fun i b hb => B2.cell (by simpa using hg) (HBUF.out i b hb)
      generalize W.setCell ⟨go, p, none⟩ (.int .u8 (d.toNat : Int)) = W2 at *
      clear hce hfz B2 hbl HBUF HBUT HROW
      go_wp2
      have hrow := HR2.out
      rw [HRS.out.1] at hrow
      have hD2 := HDP.out
      exact HN.out (p - 1) (c + 1) _ _ _ _ _ _ _ _ _ _ _ _ _ _ _ _ _ _ _ _ _ _ _ _ _ _ _ (by omega) (by omega) (by omega) (by omega) ⟨by omega, lim, by have := E3.out; have := HDL.out; simp only [Nat.add_sub_cancel]; rw [this]; omega, by have := E2.out; simp only [Nat.add_sub_cancel]; rw [HDL.out, this, HC.out], by simp only [Nat.add_sub_cancel]; rw [hD2]; exact hrow, HB2.out, HU2.out⟩
def InI (W0 : World) (go : Nat) (sep : UInt8) (ds D0 : List UInt8) (g cap : Nat) (c0 c2 c3 c4 c6 c7 c11 c12 c14 c15 c16 c17 c18 c19 c20 c21 c22 c23 c24 c25 c26 c27 c28 c29 c30 c31 c32 c33 c34 c35 c36 c37 c38 c39 c40 c41 c65 c66 c67 c68 c69 c70 c71 c72 c73 c74 c75 c76 c77 c78 c79 c80 c81 c82 c83 c84 c85 c86 c87 c88 c89 c90 : Value) (a : Act) (W : World) : Prop :=
  ∃ (u42 u43 u44 u45 u46 u47 u48 u49 u50 u51 u52 u53 u54 u55 u56 u57 u58 u59 u60 u61 u62 u63 u64 : Value), ∃ (k p c : Nat) (P C J : Int), P = (p : Int) ∧ C = (c : Int) ∧ J = (k : Int) - 1 ∧ PretS W0 go sep ds D0 g k p c W ∧ a = ⟨List.toArray (c0 :: .int .u8 (sep.toNat : Int) :: c2 :: c3 :: c4 :: .slice (some ⟨go, 0, none⟩) 133 133 :: c6 :: c7 :: .int .i64 P :: .slice (some ⟨g, 0, none⟩) ds.length cap :: .int .i64 C :: c11 :: c12 :: .int .i64 J :: c14 :: c15 :: c16 :: c17 :: c18 :: c19 :: c20 :: c21 :: c22 :: c23 :: c24 :: c25 :: c26 :: c27 :: c28 :: c29 :: c30 :: c31 :: c32 :: c33 :: c34 :: c35 :: c36 :: c37 :: c38 :: c39 :: c40 :: c41 :: u42 :: u43 :: u44 :: u45 :: u46 :: u47 :: u48 :: u49 :: u50 :: u51 :: u52 :: u53 :: u54 :: u55 :: u56 :: u57 :: u58 :: u59 :: u60 :: u61 :: u62 :: u63 :: u64 :: c65 :: c66 :: c67 :: c68 :: c69 :: c70 :: c71 :: c72 :: c73 :: c74 :: c75 :: c76 :: c77 :: c78 :: c79 :: c80 :: c81 :: c82 :: c83 :: c84 :: c85 :: c86 :: c87 :: c88 :: c89 :: c90 :: []), []⟩
def muIn (a : Act) (_ : World) : Nat := (RowKit.intOf (a.tmps[13]?.getD undef) + 1).toNat
set_option maxHeartbeats 8000000 in
set_option maxRecDepth 20000 in
theorem pret_in (W0 : World) (go : Nat) (sep : UInt8) (ds D0 : List UInt8) (g cap k p c : Nat) (P C J : Int) (W : World) (Q : Exit → Act → World → Prop) (c0 c2 c3 c4 c6 c7 c11 c12 c14 c15 c16 c17 c18 c19 c20 c21 c22 c23 c24 c25 c26 c27 c28 c29 c30 c31 c32 c33 c34 c35 c36 c37 c38 c39 c40 c41 c65 c66 c67 c68 c69 c70 c71 c72 c73 c74 c75 c76 c77 c78 c79 c80 c81 c82 c83 c84 c85 c86 c87 c88 c89 c90 v42 v43 v44 v45 v46 v47 v48 v49 v50 v51 v52 v53 v54 v55 v56 v57 v58 v59 v60 v61 v62 v63 v64 : Value)
    (H : PretS W0 go sep ds D0 g k p c W) (hP : P = (p : Int)) (hC : C = (c : Int)) (hJ : J = (k : Int) - 1) (hg : g ≠ go)
    (HX : Hid (∀ (p c : Nat) (P C : Int) (W' : World) (J : Int) (u42 u43 u44 u45 u46 u47 u48 u49 u50 u51 u52 u53 u54 u55 u56 u57 u58 u59 u60 u61 u62 u63 u64 : Value), P = (p : Int) → C = (c : Int) → PretS W0 go sep ds D0 g 0 p c W' → Q (.exit 2) ⟨List.toArray (c0 :: .int .u8 (sep.toNat : Int) :: c2 :: c3 :: c4 :: .slice (some ⟨go, 0, none⟩) 133 133 :: c6 :: c7 :: .int .i64 P :: .slice (some ⟨g, 0, none⟩) ds.length cap :: .int .i64 C :: c11 :: c12 :: .int .i64 J :: c14 :: c15 :: c16 :: c17 :: c18 :: c19 :: c20 :: c21 :: c22 :: c23 :: c24 :: c25 :: c26 :: c27 :: c28 :: c29 :: c30 :: c31 :: c32 :: c33 :: c34 :: c35 :: c36 :: c37 :: c38 :: c39 :: c40 :: c41 :: u42 :: u43 :: u44 :: u45 :: u46 :: u47 :: u48 :: u49 :: u50 :: u51 :: u52 :: u53 :: u54 :: u55 :: u56 :: u57 :: u58 :: u59 :: u60 :: u61 :: u62 :: u63 :: u64 :: c65 :: c66 :: c67 :: c68 :: c69 :: c70 :: c71 :: c72 :: c73 :: c74 :: c75 :: c76 :: c77 :: c78 :: c79 :: c80 :: c81 :: c82 :: c83 :: c84 :: c85 :: c86 :: c87 :: c88 :: c89 :: c90 :: []), []⟩ W')) :
    Code.wp Tryd.prog (.loop pretIn) Q ⟨List.toArray (c0 :: .int .u8 (sep.toNat : Int) :: c2 :: c3 :: c4 :: .slice (some ⟨go, 0, none⟩) 133 133 :: c6 :: c7 :: .int .i64 P :: .slice (some ⟨g, 0, none⟩) ds.length cap :: .int .i64 C :: c11 :: c12 :: .int .i64 J :: c14 :: c15 :: c16 :: c17 :: c18 :: c19 :: c20 :: c21 :: c22 :: c23 :: c24 :: c25 :: c26 :: c27 :: c28 :: c29 :: c30 :: c31 :: c32 :: c33 :: c34 :: c35 :: c36 :: c37 :: c38 :: c39 :: c40 :: c41 :: v42 :: v43 :: v44 :: v45 :: v46 :: v47 :: v48 :: v49 :: v50 :: v51 :: v52 :: v53 :: v54 :: v55 :: v56 :: v57 :: v58 :: v59 :: v60 :: v61 :: v62 :: v63 :: v64 :: c65 :: c66 :: c67 :: c68 :: c69 :: c70 :: c71 :: c72 :: c73 :: c74 :: c75 :: c76 :: c77 :: c78 :: c79 :: c80 :: c81 :: c82 :: c83 :: c84 :: c85 :: c86 :: c87 :: c88 :: c89 :: c90 :: []), []⟩ W := by
  refine wp_loop (InI W0 go sep ds D0 g cap c0 c2 c3 c4 c6 c7 c11 c12 c14 c15 c16 c17 c18 c19 c20 c21 c22 c23 c24 c25 c26 c27 c28 c29 c30 c31 c32 c33 c34 c35 c36 c37 c38 c39 c40 c41 c65 c66 c67 c68 c69 c70 c71 c72 c73 c74 c75 c76 c77 c78 c79 c80 c81 c82 c83 c84 c85 c86 c87 c88 c89 c90) muIn ?_ ?_
  · exact ⟨v42, v43, v44, v45, v46, v47, v48, v49, v50, v51, v52, v53, v54, v55, v56, v57, v58, v59, v60, v61, v62, v63, v64, k, p, c, P, C, J, hP, hC, hJ, H, rfl⟩
  · intro a W1 hI
    obtain ⟨u42, hI⟩ := hI
    obtain ⟨u43, hI⟩ := hI
    obtain ⟨u44, hI⟩ := hI
    obtain ⟨u45, hI⟩ := hI
    obtain ⟨u46, hI⟩ := hI
    obtain ⟨u47, hI⟩ := hI
    obtain ⟨u48, hI⟩ := hI
    obtain ⟨u49, hI⟩ := hI
    obtain ⟨u50, hI⟩ := hI
    obtain ⟨u51, hI⟩ := hI
    obtain ⟨u52, hI⟩ := hI
    obtain ⟨u53, hI⟩ := hI
    obtain ⟨u54, hI⟩ := hI
    obtain ⟨u55, hI⟩ := hI
    obtain ⟨u56, hI⟩ := hI
    obtain ⟨u57, hI⟩ := hI
    obtain ⟨u58, hI⟩ := hI
    obtain ⟨u59, hI⟩ := hI
    obtain ⟨u60, hI⟩ := hI
    obtain ⟨u61, hI⟩ := hI
    obtain ⟨u62, hI⟩ := hI
    obtain ⟨u63, hI⟩ := hI
    obtain ⟨u64, hI⟩ := hI
    obtain ⟨k, p, c, P, C, J, rfl, rfl, rfl, H, rfl⟩ := hI
    refine pret_in_round W0 go sep ds D0 g cap k p c W1 _ c0 c2 c3 c4 c6 c7 c11 c12 c14 c15 c16 c17 c18 c19 c20 c21 c22 c23 c24 c25 c26 c27 c28 c29 c30 c31 c32 c33 c34 c35 c36 c37 c38 c39 c40 c41 c65 c66 c67 c68 c69 c70 c71 c72 c73 c74 c75 c76 c77 c78 c79 c80 c81 c82 c83 c84 c85 c86 c87 c88 c89 c90 _ _ _ _ _ _ _ _ _ _ _ _ _ _ _ _ _ _ _ _ _ _ _ H hg ?_ ?_
    · show ∀ _, _
      intro p2 c2 P2 C2 J2 W2 u42 u43 u44 u45 u46 u47 u48 u49 u50 u51 u52 u53 u54 u55 u56 u57 u58 u59 u60 u61 u62 u63 u64 hP2 hC2 hk hJ2 HW
      refine ⟨⟨u42, u43, u44, u45, u46, u47, u48, u49, u50, u51, u52, u53, u54, u55, u56, u57, u58, u59, u60, u61, u62, u63, u64, k - 1, p2, c2, P2, C2, J2, hP2, hC2, hJ2, HW, rfl⟩, ?_⟩
      show (RowKit.intOf (.int .i64 J2) + 1).toNat < (RowKit.intOf (.int .i64 ((k : Int) - 1)) + 1).toNat
      simp only [RowKit.intOf]
      omega
    · show ∀ _, _
      intro W2 J2 u42 u43 u44 u45 u46 u47 u48 u49 u50 u51 u52 u53 u54 u55 u56 u57 u58 u59 u60 u61 u62 u63 u64 _ HW
      exact HX.out p c _ _ W2 J2 u42 u43 u44 u45 u46 u47 u48 u49 u50 u51 u52 u53 u54 u55 u56 u57 u58 u59 u60 u61 u62 u63 u64 rfl rfl HW
/-- What holds in the loop that goes over noughts: j of n are done. -/
structure PadS (W0 : World) (go : Nat) (sep : UInt8) (DS : List UInt8) (n j p c : Nat) (W : World) : Prop where
  jle : j ≤ n
  lim : n + DS.length ≤ 95
  hp : p + pretLen (j + DS.length) = 132
  hc : c = comma (j + DS.length)
  row : RowIs W go (pretRow sep (List.replicate j 48 ++ DS))
  but : But [go] W0 W
set_option maxHeartbeats 8000000 in
set_option maxRecDepth 20000 in
theorem pret_pad_round (W0 : World) (go : Nat) (sep : UInt8) (ds DS : List UInt8) (g cap n j p c : Nat) (W : World) (Q : Exit → Act → World → Prop) (c0 c2 c3 c4 c6 c7 c11 c12 c13 c15 c16 c17 c18 c19 c20 c21 c22 c23 c24 c25 c26 c27 c28 c29 c30 c31 c32 c33 c34 c35 c36 c37 c38 c39 c40 c41 c42 c43 c44 c45 c46 c47 c48 c49 c50 c51 c52 c53 c54 c55 c56 c57 c58 c59 c60 c61 c62 c63 c64 c65 c66 c86 c87 c88 c89 c90 v67 v68 v69 v70 v71 v72 v73 v74 v75 v76 v77 v78 v79 v80 v81 v82 v83 v84 v85 : Value)
    (H : PadS W0 go sep DS n j p c W) (hn : n + ds.length = 19)
    (HN : Hid (∀ (p c : Nat) (P C J : Int) (W' : World) (u67 u68 u69 u70 u71 u72 u73 u74 u75 u76 u77 u78 u79 u80 u81 u82 u83 u84 u85 : Value), P = (p : Int) → C = (c : Int) → j < n → J = ((j + 1 : Nat) : Int) → PadS W0 go sep DS n (j + 1) p c W' → Q .normal ⟨List.toArray (c0 :: .int .u8 (sep.toNat : Int) :: c2 :: c3 :: c4 :: .slice (some ⟨go, 0, none⟩) 133 133 :: c6 :: c7 :: .int .i64 P :: .slice (some ⟨g, 0, none⟩) ds.length cap :: .int .i64 C :: c11 :: c12 :: c13 :: .int .i64 J :: c15 :: c16 :: c17 :: c18 :: c19 :: c20 :: c21 :: c22 :: c23 :: c24 :: c25 :: c26 :: c27 :: c28 :: c29 :: c30 :: c31 :: c32 :: c33 :: c34 :: c35 :: c36 :: c37 :: c38 :: c39 :: c40 :: c41 :: c42 :: c43 :: c44 :: c45 :: c46 :: c47 :: c48 :: c49 :: c50 :: c51 :: c52 :: c53 :: c54 :: c55 :: c56 :: c57 :: c58 :: c59 :: c60 :: c61 :: c62 :: c63 :: c64 :: c65 :: c66 :: u67 :: u68 :: u69 :: u70 :: u71 :: u72 :: u73 :: u74 :: u75 :: u76 :: u77 :: u78 :: u79 :: u80 :: u81 :: u82 :: u83 :: u84 :: u85 :: c86 :: c87 :: c88 :: c89 :: c90 :: []), []⟩ W'))
    (HX : Hid (∀ (W' : World) (P C J : Int) (u67 u68 u69 u70 u71 u72 u73 u74 u75 u76 u77 u78 u79 u80 u81 u82 u83 u84 u85 : Value), P = (p : Int) → C = (c : Int) → PadS W0 go sep DS n n p c W' → Q (.exit 4) ⟨List.toArray (c0 :: .int .u8 (sep.toNat : Int) :: c2 :: c3 :: c4 :: .slice (some ⟨go, 0, none⟩) 133 133 :: c6 :: c7 :: .int .i64 P :: .slice (some ⟨g, 0, none⟩) ds.length cap :: .int .i64 C :: c11 :: c12 :: c13 :: .int .i64 J :: c15 :: c16 :: c17 :: c18 :: c19 :: c20 :: c21 :: c22 :: c23 :: c24 :: c25 :: c26 :: c27 :: c28 :: c29 :: c30 :: c31 :: c32 :: c33 :: c34 :: c35 :: c36 :: c37 :: c38 :: c39 :: c40 :: c41 :: c42 :: c43 :: c44 :: c45 :: c46 :: c47 :: c48 :: c49 :: c50 :: c51 :: c52 :: c53 :: c54 :: c55 :: c56 :: c57 :: c58 :: c59 :: c60 :: c61 :: c62 :: c63 :: c64 :: c65 :: c66 :: u67 :: u68 :: u69 :: u70 :: u71 :: u72 :: u73 :: u74 :: u75 :: u76 :: u77 :: u78 :: u79 :: u80 :: u81 :: u82 :: u83 :: u84 :: u85 :: c86 :: c87 :: c88 :: c89 :: c90 :: []), []⟩ W')) :
    Code.wp Tryd.prog pretPad Q ⟨List.toArray (c0 :: .int .u8 (sep.toNat : Int) :: c2 :: c3 :: c4 :: .slice (some ⟨go, 0, none⟩) 133 133 :: c6 :: c7 :: .int .i64 (p : Int) :: .slice (some ⟨g, 0, none⟩) ds.length cap :: .int .i64 (c : Int) :: c11 :: c12 :: c13 :: .int .i64 (j : Int) :: c15 :: c16 :: c17 :: c18 :: c19 :: c20 :: c21 :: c22 :: c23 :: c24 :: c25 :: c26 :: c27 :: c28 :: c29 :: c30 :: c31 :: c32 :: c33 :: c34 :: c35 :: c36 :: c37 :: c38 :: c39 :: c40 :: c41 :: c42 :: c43 :: c44 :: c45 :: c46 :: c47 :: c48 :: c49 :: c50 :: c51 :: c52 :: c53 :: c54 :: c55 :: c56 :: c57 :: c58 :: c59 :: c60 :: c61 :: c62 :: c63 :: c64 :: c65 :: c66 :: v67 :: v68 :: v69 :: v70 :: v71 :: v72 :: v73 :: v74 :: v75 :: v76 :: v77 :: v78 :: v79 :: v80 :: v81 :: v82 :: v83 :: v84 :: v85 :: c86 :: c87 :: c88 :: c89 :: c90 :: []), []⟩ W := by
  rcases Nat.eq_or_lt_of_le H.jle with h0 | h0
  · subst h0
    have HH := Lib.hid H
    clear H
    have hjn : (19 : Int) - (ds.length : Int) = (j : Int) := by omega
    have hj19 : j ≤ 19 := by omega
    clear hn
    conv => arg 2; whnf
    go_wp2
    exact HX.out _ _ _ _ _ _ _ _ _ _ _ _ _ _ _ _ _ _ _ _ _ _ _ rfl rfl HH.out
  · obtain ⟨jle, lim, hp, hc, row, but⟩ := H
    obtain ⟨D, hD⟩ : ∃ D, D = List.replicate j 48 ++ DS := ⟨_, rfl⟩
    have hDl : D.length = j + DS.length := by rw [hD]; simp
    have hD' : List.replicate (j + 1) 48 ++ DS = 48 :: D := by rw [hD, List.replicate_succ, List.cons_append]
    have hDl' : j + 1 + DS.length = D.length + 1 := by omega
    rw [← hD] at row
    rw [← hDl] at hp hc
    have hple := pretLen_le (D.length + 1) (by omega)
    have hstep : pretLen D.length ≤ pretLen (D.length + 1) := by unfold pretLen; omega
    have hrl := pretRow_len sep D (by omega)
    have HROW := Lib.hid row
    have HBUT := Lib.hid but
    have HDP := Lib.hid hD'
    have HDL := Lib.hid hDl'
    have hjn : (19 : Int) - (ds.length : Int) = (n : Int) := by omega
    have hj19 : n ≤ 19 := by omega
    have hjni : (j : Int) < (n : Int) := by omega
    clear but row hD' hDl' hD hn
    have HC := Lib.hid hc
    clear hc
    by_cases h3 : c = 3
    · subst h3
      have HRS := Lib.hid (row_sep sep 48 D p hp (by omega) HC.out.symm)
      obtain ⟨_, e2, e3⟩ := pret_cons_sep sep 48 D HC.out.symm
      have E2 := Lib.hid e2
      have E3 := Lib.hid e3
      clear e2
      obtain ⟨q, rfl⟩ : ∃ q, p = q + 1 := ⟨p - 1, by omega⟩
      rw [show ((q + 1 : Nat) : Int) = (q : Int) + 1 by omega, show ((3 : Nat) : Int) = 3 by rfl]
      have hce := HROW.out.cell (q + 1) (by omega)
      have hfz := HROW.out.free (q + 1) (by omega)
      have hq : q < 132 := by omega
      have hq0 : 0 < q := by omega
      have hqi : (q : Int) + 1 < 133 := by omega
      conv => arg 2; whnf
      go_upto_region 29 with fail
      have HR1 := Lib.hid (HROW.out.set (q + 1) sep)
      have HB1 := Lib.hid (HBUT.out.set (b := go) (by simp) (q + 1) (.int .u8 (sep.toNat : Int)))
      generalize W.setCell ⟨go, q + 1, none⟩ (.int .u8 (sep.toNat : Int)) = W1 at *
      clear hce hfz HBUT HROW
      go_wp2
      have hrow := HR1.out
      rw [HRS.out.2 (by trivial)] at hrow
      have hD2 := HDP.out
      exact HN.out (q - 1) 1 _ _ _ _ _ _ _ _ _ _ _ _ _ _ _ _ _ _ _ _ _ _ _ (by omega) (by omega) h0 (by omega) ⟨by omega, lim, by have := E3.out; have := HDL.out; rw [this]; omega, by have := E2.out; rw [HDL.out]; exact this.symm, by rw [hD2]; exact hrow, HB1.out⟩
    · have HRS := Lib.hid (row_no sep 48 D p hp (by rw [← HC.out]; exact h3))
      obtain ⟨_, e2, e3⟩ := pret_cons_no sep 48 D (by rw [← HC.out]; exact h3)
      have E2 := Lib.hid e2
      have E3 := Lib.hid e3
      have hp0 : 0 < p := by omega
      have hp132 : p ≤ 132 := by omega
      have hc3 : c ≤ 3 := by rw [HC.out]; exact comma_le _
      have hci : ((c : Int) == 3) = false := by simp; omega
      conv => arg 2; whnf
      go_wp2
      have hrow := HROW.out
      rw [HRS.out.2 (by trivial)] at hrow
      have hD2 := HDP.out
      exact HN.out (p - 1) (c + 1) _ _ _ _ _ _ _ _ _ _ _ _ _ _ _ _ _ _ _ _ _ _ _ (by omega) (by omega) h0 (by omega) ⟨by omega, lim, by have := E3.out; have := HDL.out; rw [this]; omega, by have := E2.out; rw [HDL.out, this, HC.out], by rw [hD2]; exact hrow, HBUT.out⟩
def PadI (W0 : World) (go : Nat) (sep : UInt8) (ds DS : List UInt8) (g cap n : Nat) (c0 c2 c3 c4 c6 c7 c11 c12 c13 c15 c16 c17 c18 c19 c20 c21 c22 c23 c24 c25 c26 c27 c28 c29 c30 c31 c32 c33 c34 c35 c36 c37 c38 c39 c40 c41 c42 c43 c44 c45 c46 c47 c48 c49 c50 c51 c52 c53 c54 c55 c56 c57 c58 c59 c60 c61 c62 c63 c64 c65 c66 c86 c87 c88 c89 c90 : Value) (a : Act) (W : World) : Prop :=
  ∃ (u67 u68 u69 u70 u71 u72 u73 u74 u75 u76 u77 u78 u79 u80 u81 u82 u83 u84 u85 : Value), ∃ (j p c : Nat) (P C J : Int), P = (p : Int) ∧ C = (c : Int) ∧ J = (j : Int) ∧ PadS W0 go sep DS n j p c W ∧ a = ⟨List.toArray (c0 :: .int .u8 (sep.toNat : Int) :: c2 :: c3 :: c4 :: .slice (some ⟨go, 0, none⟩) 133 133 :: c6 :: c7 :: .int .i64 P :: .slice (some ⟨g, 0, none⟩) ds.length cap :: .int .i64 C :: c11 :: c12 :: c13 :: .int .i64 J :: c15 :: c16 :: c17 :: c18 :: c19 :: c20 :: c21 :: c22 :: c23 :: c24 :: c25 :: c26 :: c27 :: c28 :: c29 :: c30 :: c31 :: c32 :: c33 :: c34 :: c35 :: c36 :: c37 :: c38 :: c39 :: c40 :: c41 :: c42 :: c43 :: c44 :: c45 :: c46 :: c47 :: c48 :: c49 :: c50 :: c51 :: c52 :: c53 :: c54 :: c55 :: c56 :: c57 :: c58 :: c59 :: c60 :: c61 :: c62 :: c63 :: c64 :: c65 :: c66 :: u67 :: u68 :: u69 :: u70 :: u71 :: u72 :: u73 :: u74 :: u75 :: u76 :: u77 :: u78 :: u79 :: u80 :: u81 :: u82 :: u83 :: u84 :: u85 :: c86 :: c87 :: c88 :: c89 :: c90 :: []), []⟩
def muPad (a : Act) (_ : World) : Nat := (19 - RowKit.intOf (a.tmps[14]?.getD undef)).toNat
set_option maxHeartbeats 8000000 in
set_option maxRecDepth 20000 in
theorem pret_pad (W0 : World) (go : Nat) (sep : UInt8) (ds DS : List UInt8) (g cap n j p c : Nat) (P C J : Int) (W : World) (Q : Exit → Act → World → Prop) (c0 c2 c3 c4 c6 c7 c11 c12 c13 c15 c16 c17 c18 c19 c20 c21 c22 c23 c24 c25 c26 c27 c28 c29 c30 c31 c32 c33 c34 c35 c36 c37 c38 c39 c40 c41 c42 c43 c44 c45 c46 c47 c48 c49 c50 c51 c52 c53 c54 c55 c56 c57 c58 c59 c60 c61 c62 c63 c64 c65 c66 c86 c87 c88 c89 c90 v67 v68 v69 v70 v71 v72 v73 v74 v75 v76 v77 v78 v79 v80 v81 v82 v83 v84 v85 : Value)
    (H : PadS W0 go sep DS n j p c W) (hP : P = (p : Int)) (hC : C = (c : Int)) (hJ : J = (j : Int)) (hn : n + ds.length = 19)
    (HX : Hid (∀ (p c : Nat) (P C : Int) (W' : World) (J : Int) (u67 u68 u69 u70 u71 u72 u73 u74 u75 u76 u77 u78 u79 u80 u81 u82 u83 u84 u85 : Value), P = (p : Int) → C = (c : Int) → PadS W0 go sep DS n n p c W' → Q (.exit 4) ⟨List.toArray (c0 :: .int .u8 (sep.toNat : Int) :: c2 :: c3 :: c4 :: .slice (some ⟨go, 0, none⟩) 133 133 :: c6 :: c7 :: .int .i64 P :: .slice (some ⟨g, 0, none⟩) ds.length cap :: .int .i64 C :: c11 :: c12 :: c13 :: .int .i64 J :: c15 :: c16 :: c17 :: c18 :: c19 :: c20 :: c21 :: c22 :: c23 :: c24 :: c25 :: c26 :: c27 :: c28 :: c29 :: c30 :: c31 :: c32 :: c33 :: c34 :: c35 :: c36 :: c37 :: c38 :: c39 :: c40 :: c41 :: c42 :: c43 :: c44 :: c45 :: c46 :: c47 :: c48 :: c49 :: c50 :: c51 :: c52 :: c53 :: c54 :: c55 :: c56 :: c57 :: c58 :: c59 :: c60 :: c61 :: c62 :: c63 :: c64 :: c65 :: c66 :: u67 :: u68 :: u69 :: u70 :: u71 :: u72 :: u73 :: u74 :: u75 :: u76 :: u77 :: u78 :: u79 :: u80 :: u81 :: u82 :: u83 :: u84 :: u85 :: c86 :: c87 :: c88 :: c89 :: c90 :: []), []⟩ W')) :
    Code.wp Tryd.prog (.loop pretPad) Q ⟨List.toArray (c0 :: .int .u8 (sep.toNat : Int) :: c2 :: c3 :: c4 :: .slice (some ⟨go, 0, none⟩) 133 133 :: c6 :: c7 :: .int .i64 P :: .slice (some ⟨g, 0, none⟩) ds.length cap :: .int .i64 C :: c11 :: c12 :: c13 :: .int .i64 J :: c15 :: c16 :: c17 :: c18 :: c19 :: c20 :: c21 :: c22 :: c23 :: c24 :: c25 :: c26 :: c27 :: c28 :: c29 :: c30 :: c31 :: c32 :: c33 :: c34 :: c35 :: c36 :: c37 :: c38 :: c39 :: c40 :: c41 :: c42 :: c43 :: c44 :: c45 :: c46 :: c47 :: c48 :: c49 :: c50 :: c51 :: c52 :: c53 :: c54 :: c55 :: c56 :: c57 :: c58 :: c59 :: c60 :: c61 :: c62 :: c63 :: c64 :: c65 :: c66 :: v67 :: v68 :: v69 :: v70 :: v71 :: v72 :: v73 :: v74 :: v75 :: v76 :: v77 :: v78 :: v79 :: v80 :: v81 :: v82 :: v83 :: v84 :: v85 :: c86 :: c87 :: c88 :: c89 :: c90 :: []), []⟩ W := by
  refine wp_loop (PadI W0 go sep ds DS g cap n c0 c2 c3 c4 c6 c7 c11 c12 c13 c15 c16 c17 c18 c19 c20 c21 c22 c23 c24 c25 c26 c27 c28 c29 c30 c31 c32 c33 c34 c35 c36 c37 c38 c39 c40 c41 c42 c43 c44 c45 c46 c47 c48 c49 c50 c51 c52 c53 c54 c55 c56 c57 c58 c59 c60 c61 c62 c63 c64 c65 c66 c86 c87 c88 c89 c90) muPad ?_ ?_
  · exact ⟨v67, v68, v69, v70, v71, v72, v73, v74, v75, v76, v77, v78, v79, v80, v81, v82, v83, v84, v85, j, p, c, P, C, J, hP, hC, hJ, H, rfl⟩
  · intro a W1 hI
    obtain ⟨u67, hI⟩ := hI
    obtain ⟨u68, hI⟩ := hI
    obtain ⟨u69, hI⟩ := hI
    obtain ⟨u70, hI⟩ := hI
    obtain ⟨u71, hI⟩ := hI
    obtain ⟨u72, hI⟩ := hI
    obtain ⟨u73, hI⟩ := hI
    obtain ⟨u74, hI⟩ := hI
    obtain ⟨u75, hI⟩ := hI
    obtain ⟨u76, hI⟩ := hI
    obtain ⟨u77, hI⟩ := hI
    obtain ⟨u78, hI⟩ := hI
    obtain ⟨u79, hI⟩ := hI
    obtain ⟨u80, hI⟩ := hI
    obtain ⟨u81, hI⟩ := hI
    obtain ⟨u82, hI⟩ := hI
    obtain ⟨u83, hI⟩ := hI
    obtain ⟨u84, hI⟩ := hI
    obtain ⟨u85, hI⟩ := hI
    obtain ⟨j, p, c, P, C, J, rfl, rfl, rfl, H, rfl⟩ := hI
    refine pret_pad_round W0 go sep ds DS g cap n j p c W1 _ c0 c2 c3 c4 c6 c7 c11 c12 c13 c15 c16 c17 c18 c19 c20 c21 c22 c23 c24 c25 c26 c27 c28 c29 c30 c31 c32 c33 c34 c35 c36 c37 c38 c39 c40 c41 c42 c43 c44 c45 c46 c47 c48 c49 c50 c51 c52 c53 c54 c55 c56 c57 c58 c59 c60 c61 c62 c63 c64 c65 c66 c86 c87 c88 c89 c90 _ _ _ _ _ _ _ _ _ _ _ _ _ _ _ _ _ _ _ H hn ?_ ?_
    · show ∀ _, _
      intro p2 c2 P2 C2 J2 W2 u67 u68 u69 u70 u71 u72 u73 u74 u75 u76 u77 u78 u79 u80 u81 u82 u83 u84 u85 hP2 hC2 hk hJ2 HW
      refine ⟨⟨u67, u68, u69, u70, u71, u72, u73, u74, u75, u76, u77, u78, u79, u80, u81, u82, u83, u84, u85, j + 1, p2, c2, P2, C2, J2, hP2, hC2, hJ2, HW, rfl⟩, ?_⟩
      show (19 - RowKit.intOf (.int .i64 J2)).toNat < (19 - RowKit.intOf (.int .i64 (j : Int))).toNat
      simp only [RowKit.intOf]
      omega
    · show ∀ _, _
      intro W2 P2 C2 J2 u67 u68 u69 u70 u71 u72 u73 u74 u75 u76 u77 u78 u79 u80 u81 u82 u83 u84 u85 hP2 hC2 HW
      exact HX.out p c _ _ W2 J2 u67 u68 u69 u70 u71 u72 u73 u74 u75 u76 u77 u78 u79 u80 u81 u82 u83 u84 u85 hP2 hC2 HW
/-- What holds at the head of round j. -/
structure PretW (go gy dv gb : Nat) (w0 : World) (sep : UInt8) (x : N4) (j g n cap p c : Nat) (W : World) : Prop where
  jle : j ≤ 4
  pos : 0 < x.toNat / 10 ^ (19 * j)
  own : ∃ xs, W.ownsRow gb 5 1 (.slice (some ⟨g, 0, none⟩) n cap) n xs
  row : RowIs W go (pretRow sep (padD (19 * j) (x.toNat % 10 ^ (19 * j))))
  y4 : At4 W gy 0 (ofN (x.toNat / 10 ^ (19 * j)))
  yf : Free4 W gy 0
  d4 : At4 W dv 0 D19
  bel : Below w0.heap.size w0 W
  gbl : gb ≤ W.heap.size
  hp : p + pretLen (19 * j) = 132
  hc : c = comma (19 * j)
/-- What holds behind the loop. -/
structure PretX (go : Nat) (w0 : World) (sep : UInt8) (x : N4) (p : Nat) (W : World) : Prop where
  hp : p + pretLen (decDigits x.toNat).length = 132
  lim : (decDigits x.toNat).length ≤ 95
  row : RowIs W go (pretRow sep (decDigits x.toNat))
  bel : Below w0.heap.size w0 W
theorem pret_more (X j : Nat) : List.replicate (19 - (decDigits (X / 10 ^ (19 * j) % 10 ^ 19)).length) 48 ++ (decDigits (X / 10 ^ (19 * j) % 10 ^ 19) ++ padD (19 * j) (X % 10 ^ (19 * j))) = padD (19 * (j + 1)) (X % 10 ^ (19 * (j + 1))) := by
  obtain ⟨h1, h2⟩ := padD_eq 19 (X / 10 ^ (19 * j) % 10 ^ 19) (by omega) (Nat.mod_lt _ (by decide))
  rw [show 19 * (j + 1) = 19 + 19 * j by omega, pad_round, h1, decDigits_length, List.append_assoc]
set_option maxHeartbeats 8000000 in
set_option maxRecDepth 20000 in
theorem pret_round (go gy dv gb : Nat) (w0 : World) (sep : UInt8) (x : N4) (j g n cap p c : Nat) (P C : Int) (W : World) (Q : Exit → Act → World → Prop) (c0 c2 c3 c4 c15 c16 c17 c18 c19 c20 c21 c22 c23 c24 c25 c26 c86 c87 c88 c89 c90 v11 v12 v13 v14 v27 v28 v29 v30 v31 v32 v33 v34 v35 v36 v37 v38 v39 v40 v41 v42 v43 v44 v45 v46 v47 v48 v49 v50 v51 v52 v53 v54 v55 v56 v57 v58 v59 v60 v61 v62 v63 v64 v65 v66 v67 v68 v69 v70 v71 v72 v73 v74 v75 v76 v77 v78 v79 v80 v81 v82 v83 v84 v85 : Value)
    (H : PretW go gy dv gb w0 sep x j g n cap p c W) (h1 : go ≠ gy) (h2 : dv ≠ gy) (h3 : dv ≠ go) (h4 : go < gb) (h5 : gy < gb) (h6 : dv < gb) (h7 : w0.heap.size ≤ go) (h8 : w0.heap.size ≤ gy) (P0 : P10 w0) (hP : P = (p : Int)) (hC : C = (c : Int))
    (HN : Hid (∀ (g n cap p c : Nat) (P C : Int) (W' : World) (u11 u12 u13 u14 u27 u28 u29 u30 u31 u32 u33 u34 u35 u36 u37 u38 u39 u40 u41 u42 u43 u44 u45 u46 u47 u48 u49 u50 u51 u52 u53 u54 u55 u56 u57 u58 u59 u60 u61 u62 u63 u64 u65 u66 u67 u68 u69 u70 u71 u72 u73 u74 u75 u76 u77 u78 u79 u80 u81 u82 u83 u84 u85 : Value), P = (p : Int) → C = (c : Int) → PretW go gy dv gb w0 sep x (j + 1) g n cap p c W' → Q .normal ⟨List.toArray (c0 :: .int .u8 (sep.toNat : Int) :: c2 :: c3 :: c4 :: .slice (some ⟨go, 0, none⟩) 133 133 :: .pointer (some ⟨dv, 0, none⟩) :: .pointer (some ⟨gy, 0, none⟩) :: .int .i64 P :: .slice (some ⟨g, 0, none⟩) n cap :: .int .i64 C :: u11 :: u12 :: u13 :: u14 :: c15 :: c16 :: c17 :: c18 :: c19 :: c20 :: c21 :: c22 :: c23 :: c24 :: c25 :: c26 :: u27 :: u28 :: u29 :: u30 :: u31 :: u32 :: u33 :: u34 :: u35 :: u36 :: u37 :: u38 :: u39 :: u40 :: u41 :: u42 :: u43 :: u44 :: u45 :: u46 :: u47 :: u48 :: u49 :: u50 :: u51 :: u52 :: u53 :: u54 :: u55 :: u56 :: u57 :: u58 :: u59 :: u60 :: u61 :: u62 :: u63 :: u64 :: u65 :: u66 :: u67 :: u68 :: u69 :: u70 :: u71 :: u72 :: u73 :: u74 :: u75 :: u76 :: u77 :: u78 :: u79 :: u80 :: u81 :: u82 :: u83 :: u84 :: u85 :: c86 :: c87 :: c88 :: c89 :: c90 :: []), []⟩ W'))
    (HX : Hid (∀ (g n cap p : Nat) (P C : Int) (W' : World) (u11 u12 u13 u14 u27 u28 u29 u30 u31 u32 u33 u34 u35 u36 u37 u38 u39 u40 u41 u42 u43 u44 u45 u46 u47 u48 u49 u50 u51 u52 u53 u54 u55 u56 u57 u58 u59 u60 u61 u62 u63 u64 u65 u66 u67 u68 u69 u70 u71 u72 u73 u74 u75 u76 u77 u78 u79 u80 u81 u82 u83 u84 u85 : Value), P = (p : Int) → PretX go w0 sep x p W' → Q (.exit 0) ⟨List.toArray (c0 :: .int .u8 (sep.toNat : Int) :: c2 :: c3 :: c4 :: .slice (some ⟨go, 0, none⟩) 133 133 :: .pointer (some ⟨dv, 0, none⟩) :: .pointer (some ⟨gy, 0, none⟩) :: .int .i64 P :: .slice (some ⟨g, 0, none⟩) n cap :: .int .i64 C :: u11 :: u12 :: u13 :: u14 :: c15 :: c16 :: c17 :: c18 :: c19 :: c20 :: c21 :: c22 :: c23 :: c24 :: c25 :: c26 :: u27 :: u28 :: u29 :: u30 :: u31 :: u32 :: u33 :: u34 :: u35 :: u36 :: u37 :: u38 :: u39 :: u40 :: u41 :: u42 :: u43 :: u44 :: u45 :: u46 :: u47 :: u48 :: u49 :: u50 :: u51 :: u52 :: u53 :: u54 :: u55 :: u56 :: u57 :: u58 :: u59 :: u60 :: u61 :: u62 :: u63 :: u64 :: u65 :: u66 :: u67 :: u68 :: u69 :: u70 :: u71 :: u72 :: u73 :: u74 :: u75 :: u76 :: u77 :: u78 :: u79 :: u80 :: u81 :: u82 :: u83 :: u84 :: u85 :: c86 :: c87 :: c88 :: c89 :: c90 :: []), []⟩ W')) :
    Code.wp Tryd.prog pretBody Q ⟨List.toArray (c0 :: .int .u8 (sep.toNat : Int) :: c2 :: c3 :: c4 :: .slice (some ⟨go, 0, none⟩) 133 133 :: .pointer (some ⟨dv, 0, none⟩) :: .pointer (some ⟨gy, 0, none⟩) :: .int .i64 P :: .slice (some ⟨g, 0, none⟩) n cap :: .int .i64 C :: v11 :: v12 :: v13 :: v14 :: c15 :: c16 :: c17 :: c18 :: c19 :: c20 :: c21 :: c22 :: c23 :: c24 :: c25 :: c26 :: v27 :: v28 :: v29 :: v30 :: v31 :: v32 :: v33 :: v34 :: v35 :: v36 :: v37 :: v38 :: v39 :: v40 :: v41 :: v42 :: v43 :: v44 :: v45 :: v46 :: v47 :: v48 :: v49 :: v50 :: v51 :: v52 :: v53 :: v54 :: v55 :: v56 :: v57 :: v58 :: v59 :: v60 :: v61 :: v62 :: v63 :: v64 :: v65 :: v66 :: v67 :: v68 :: v69 :: v70 :: v71 :: v72 :: v73 :: v74 :: v75 :: v76 :: v77 :: v78 :: v79 :: v80 :: v81 :: v82 :: v83 :: v84 :: v85 :: c86 :: c87 :: c88 :: c89 :: c90 :: []), []⟩ W := by
  obtain ⟨jle, pos, ⟨xs, own⟩, row, y4, yf, d4, bel, gbl, hp, hc⟩ := H
  have HPC := Lib.hid (And.intro hP hC)
  have HPP := Lib.hid hp
  have HCC := Lib.hid hc
  clear hP hC hp hc
  have HOWN := Lib.hid own
  have HROW := Lib.hid row
  have HY := Lib.hid y4
  have HYF := Lib.hid yf
  have HD := Lib.hid d4
  have HP0 := Lib.hid P0
  have HB := Lib.hid bel
  have HPOS := Lib.hid pos
  clear own row y4 yf d4 bel pos P0
  conv => arg 2; whnf
  go_upto_region 10 with fail
  generalize hW1 : (W.alloc (Obj.cells #[.int .u64 0, .int .u64 0, .int .u64 0, .int .u64 0] 59)).alloc (Obj.cells #[.int .u64 0, .int .u64 0, .int .u64 0, .int .u64 0] 59) = W1
  have b1 : Below W.heap.size W W1 := by rw [← hW1]; exact bel_alloc (bel_alloc (bel_refl W) _) _
  have s1 : W1.heap.size = W.heap.size + 2 := by rw [← hW1]; simp
  have HQR : Hid (RowW W1 W.heap.size 0 (List.replicate 4 0#64)) := by
    show RowW _ _ _ _
    rw [← hW1]; exact (RowW.new4 W _).alloc _
  have HR4 : Hid (At4 W1 (W.heap.size + 1) 0 ⟨0#64, 0#64, 0#64, 0#64⟩) := by
    show At4 _ _ _ _
    rw [← hW1]; constructor <;> simp [go_sem] <;> rfl
  have HRF : Hid (Free4 W1 (W.heap.size + 1) 0) := by
    show Free4 _ _ _
    rw [← hW1]; constructor <;> simp [go_sem]
  generalize hq : W.heap.size = q at *
  clear hW1
  have HY1 := Lib.hid (HY.out.bel (by rw [hq]; exact b1))
  have HYF1 := Lib.hid (HYF.out.bel HY.out.lt (by rw [hq]; exact b1))
  have HD1 := Lib.hid (HD.out.bel (by rw [hq]; exact b1))
  obtain ⟨Y, hY⟩ : ∃ Y, Y = x.toNat / 10 ^ (19 * j) := ⟨_, rfl⟩
  have hYN : (ofN Y).toNat = Y := by
    rw [ofN_toNat, Nat.mod_eq_of_lt]
    rw [hY]; exact Nat.lt_of_le_of_lt (Nat.div_le_self _ _) (toNat_lt x)
  rw [← hY] at HY1
  have HYE := Lib.hid hY
  have HYN := Lib.hid hYN
  clear hY hYN
  have hgy : gy < q := by omega
  have hdv : dv < q := by omega
  have UD : Hid (∀ k, Calls Tryd.prog 54 #[.slice (some ⟨q, 0, none⟩) 4 4, .slice (some ⟨gy, 0, none⟩) 4 4, .pointer (some ⟨dv, 0, none⟩), .pointer (some ⟨q + 1, 0, none⟩)] (W1.drewN k) fun e w' => e = .returned (.tuple #[]) ∧ At4 w' q 0 (ofN (Y / 10 ^ 19)) ∧ (∃ r : N4, At4 w' (q + 1) 0 r ∧ r.toNat = Y % 10 ^ 19) ∧ But [q, q + 1] W1 w') := fun k => by
    have h := udivrem_wide q 0 4 4 gy 0 4 4 dv 0 (some (q + 1, 0)) (ofN Y).l4 D19 (W1.drewN k) (HQR.out.drewN k) (RowW.of4 (HY1.out.drewN k) (HYF1.out.drewN k)) (HD1.out.drewN k) rfl (by decide) (by decide) (by decide) (by decide) (by decide) (by omega) (by omega) (fun b o e => by cases e; exact ⟨HR4.out.drewN k, HRF.out.drewN k, by omega, by omega, by omega, .inr (by rw [D19_toNat]; decide)⟩) (by rw [D19_toNat]; decide) (by rw [N4.wseg4, HYN.out]; rw [HYE.out]; exact HPOS.out)
    refine h.mono ?_
    rintro e w' ⟨Q', he, g1, g2, g3, g4, g5⟩
    rw [N4.wseg4, HYN.out, D19_toNat] at g2
    obtain ⟨r, r1, r2, r3⟩ := g4 (q + 1) 0 rfl
    rw [N4.wseg4, HYN.out, D19_toNat] at r3
    refine ⟨he, ?_, ⟨r, r1, r3⟩, ((But.refl _ W1).drewN k).trans g5⟩
    rw [← n4_ofN g2]
    exact g3.at4 (by omega)
  have hsl := fun b o w => sliceAll4 b o w
  go_region_held3 (fun w' => True) (trivial) ((go_at_call 54; refine (UD.out _).mono ?_; rintro e w5 ⟨rfl, hq5, ⟨r, hr5, hrN⟩, hB5⟩))
  have B5 : But [gy] W w5 := (But.of_bel (S := [gy]) (by rw [hq]; exact b1)).step hB5 (fun t ht => by simp at ht; omega)
  have HY5 := Lib.hid (HY1.out.but hB5 (by simp; omega))
  have HYF5 := Lib.hid (HYF1.out.but HY1.out.lt hB5 (by simp; omega))
  have HQ5 := Lib.hid hq5
  have HR5 := Lib.hid hr5
  have HB5' := Lib.hid B5
  have hgyq : gy ≠ q := by omega
  clear hsl UD HY1 HYF1 HD1 HQR HR4 HRF hB5 hq5 hr5 B5 b1
  go_upto_region 12 with (go_at_call 53; refine (set_any gy 0 q 0 _ _ _ HY5.out HYF5.out HQ5.out (Sep.blocks (by omega))).mono ?_; rintro e w6 ⟨rfl, n6, hw6⟩; have HW6 := Lib.hid hw6; clear hw6)
  have hw6 := HW6.out
  have B6 : But [gy] W w6 := by rw [hw6]; exact (HB5'.out.put4 (by simp) _ _).drewN _
  have HY6 : Hid (At4 w6 gy 0 (ofN (Y / 10 ^ 19))) := by show At4 _ _ _ _; rw [hw6]; exact (put4_at _ _ _ _ _ HY5.out).drewN _
  have HYF6 : Hid (Free4 w6 gy 0) := by show Free4 _ _ _; rw [hw6]; exact (Free4.put _ HYF5.out).drewN _
  have HR6 : Hid (At4 w6 (q + 1) 0 r) := by show At4 _ _ _ _; rw [hw6]; exact (put4_far HR5.out (by omega)).drewN _
  have HD6 := Lib.hid (HD.out.but B6 (by simp; omega))
  have HROW6 := Lib.hid (HROW.out.but B6 (by simp; omega))
  have HB6 := Lib.hid (B6.bel HB.out (fun b hb => by simp at hb; omega))
  have gbl6 : gb ≤ w6.heap.size := Nat.le_trans (by omega) B6.size
  obtain ⟨_, _, e0, hgg⟩ : ∃ g' cap', Value.slice (some ⟨g, 0, none⟩) n cap = .slice (some ⟨g', 0, none⟩) n cap' ∧ gb ≤ g' := by
    rcases HOWN.out.2 with ⟨e, _⟩ | ⟨g', cap', cur, e, hb, _⟩
    · cases e
    · exact ⟨g', cap', e, hb⟩
  cases e0
  have HOWN6 := Lib.hid (own_cut0 (own_but HOWN.out B6 (by simp; omega)))
  have hr64 : r.toNat < 18446744073709551616 := by rw [hrN]; exact Nat.lt_of_lt_of_le (Nat.mod_lt _ (by decide)) (by decide)
  have hra : r.a.toNat = Y % 10 ^ 19 := by rw [← hrN]; exact (small_toNat (by omega)).symm
  obtain ⟨ds, hds⟩ : ∃ ds, ds = decDigits (Y % 10 ^ 19) := ⟨_, rfl⟩
  have APP : Hid (∀ k, Calls Tryd.prog 55 #[.slice (some ⟨g, 0, none⟩) 0 cap, V r.a, .int .i64 10] (w6.drewN k) fun e w' => ∃ g' cap', e = .returned (.slice (some ⟨g', 0, none⟩) ds.length cap') ∧ gb ≤ g' ∧ w'.ownsRow gb 5 1 (.slice (some ⟨g', 0, none⟩) ds.length cap') ds.length (byteCells ds) ∧ Below gb w6 w') := fun k => by
    have h := appendUint_any gb 0 r.a.toNat r.a.isLt (.slice (some ⟨g, 0, none⟩) 0 cap) [] (w6.drewN k) HOWN6.out gbl6 (by omega) (HP0.out.bel ((bel_drewN HB6.out k)))
    refine h.mono ?_
    rintro e w' ⟨v', rfl, g1, g2⟩
    rw [hra, ← hds, Nat.zero_add, List.nil_append] at g1
    obtain ⟨g', cap', rfl, g3⟩ := own_slice g1 (by rw [hds, decDigits_length]; exact nDigits_pos _)
    exact ⟨g', cap', rfl, g3, g1, ⟨g2.os, g2.tape, g2.output, g2.size, g2.block⟩⟩
  have HDS := Lib.hid hds
  have HRN := Lib.hid hrN
  clear hds hrN hra HW6
  clear hw6 HY5 HYF5 HQ5 HR5 HB5' HOWN HROW HD HY HYF
  go_region_held3 (fun w' => True) (trivial) (first | (go_at_call 56; refine (uint64_any (q + 1) 0 r _ (HR6.out.drewN _)).mono ?_; rintro e w7 ⟨rfl, k7, rfl⟩) | (go_at_call 55; refine (APP.out _).mono ?_; rintro e w7 ⟨g', cap', rfl, hg', hown7, hb7⟩))
  have HY7 := Lib.hid (HY6.out.belB hb7 h5)
  have HYF7 := Lib.hid (HYF6.out.belB hb7 h5)
  have HD7 := Lib.hid (HD6.out.belB hb7 h6)
  have HROW7 := Lib.hid (HROW6.out.bel' hb7 h4)
  have HB7 := Lib.hid (HB6.out.trans (hb7.mono (by omega)))
  have gbl7 : gb ≤ w7.heap.size := Nat.le_trans gbl6 hb7.size
  have hL1 : 0 < ds.length := by rw [HDS.out, decDigits_length]; exact nDigits_pos _
  have hL19 : ds.length ≤ 19 := by rw [HDS.out, decDigits_length]; exact nDigits_max 19 _ (by omega) (Nat.mod_lt _ (by decide))
  have HS : Hid (PretS w7 go sep ds (padD (19 * j) (x.toNat % 10 ^ (19 * j))) g' ds.length p c w7) :=
    ⟨Nat.le_refl _, by rw [padD_length]; omega, by rw [padD_length, Nat.sub_self, Nat.zero_add]; exact HPP.out, by rw [padD_length, Nat.sub_self, Nat.zero_add]; exact HCC.out, by rw [List.drop_length, List.nil_append]; exact HROW7.out, But.refl _ _, fun i b hb => by
      have h := (World.ownsRowF_of hown7).cells rfl i (.int .u8 (b.toNat : Int)) (by simp [byteCells, hb])
      by_cases hi0 : i = 0
      · subst hi0; simpa [Addr.add] using h
      · simpa [Addr.add, hi0] using h⟩
  have HOWN7 := Lib.hid hown7
  clear hb7 hown7 HY6 HYF6 HR6 HD6 HROW6 HB6 HOWN6 APP HROW7
  have hgo : g' ≠ go := by omega
  go_wp2_with fail
  refine pret_in w7 go sep ds (padD (19 * j) (x.toNat % 10 ^ (19 * j))) g' cap' ds.length p c P C _ w7 _ _ _ _ _ _ _ _ _ _ _ _ _ _ _ _ _ _ _ _ _ _ _ _ _ _ _ _ _ _ _ _ _ _ _ _ _ _ _ _ _ _ _ _ _ _ _ _ _ _ _ _ _ _ _ _ _ _ _ _ _ _ _ _ _ _ _ _ _ _ _ _ _ _ _ _ _ _ _ _ _ _ _ _ _ _ HS.out HPC.out.1 HPC.out.2 rfl hgo ?_
  show ∀ _, _
  intro p2 c2 P2 C2 W8 J2 s42 s43 s44 s45 s46 s47 s48 s49 s50 s51 s52 s53 s54 s55 s56 s57 s58 s59 s60 s61 s62 s63 s64 hP2 hC2 H8
  have B8 := H8.but
  have HY8 := Lib.hid (HY7.out.but B8 (by simp; omega))
  have HYF8 := Lib.hid (HYF7.out.but HY7.out.lt B8 (by simp; omega))
  have HD8 := Lib.hid (HD7.out.but B8 (by simp; omega))
  have HO8 := Lib.hid (own_but HOWN7.out B8 (by simp; omega))
  have HB8 := Lib.hid (B8.bel HB7.out (fun b hb => by simp at hb; omega))
  have gbl8 : gb ≤ W8.heap.size := Nat.le_trans gbl7 B8.size
  have HH8 := Lib.hid H8
  have HPC2 := Lib.hid (And.intro hP2 hC2)
  clear H8 B8 hP2 hC2 HS HOWN7 HY7 HYF7 HD7 HB7 HPC
  have hYdiv : Y / 10 ^ 19 = x.toNat / 10 ^ (19 * (j + 1)) := by rw [HYE.out]; exact dec_div _ _
  have hYN2 : (ofN (Y / 10 ^ 19)).toNat = Y / 10 ^ 19 := by
    rw [ofN_toNat, Nat.mod_eq_of_lt]
    exact Nat.lt_of_le_of_lt (Nat.le_trans (Nat.div_le_self _ _) (by rw [HYE.out]; exact Nat.div_le_self _ _)) (toNat_lt x)
  cases hz : (ofN (Y / 10 ^ 19)).isZ
  · have hne : 0 < Y / 10 ^ 19 := by
      rcases Nat.eq_zero_or_pos (Y / 10 ^ 19) with h0 | h0
      · rw [(isZ_iff _).2 (by rw [hYN2, h0])] at hz; cases hz
      · exact h0
    have hj3 : j ≤ 3 := by
      rcases Nat.lt_or_ge j 4 with h | h
      · omega
      · have : j = 4 := by omega
        subst this
        rw [hYdiv, dec_stop] at hne
        omega
    have HNE := Lib.hid hne
    have HYD := Lib.hid hYdiv
    clear hYN2 hne hYdiv
    go_wp2_with (go_at_call 51; refine (isZero_any gy 0 _ _ HY8.out).mono ?_; rintro e w9 ⟨rfl, n9, rfl⟩)
    have hD0 : (padD (19 * j) (x.toNat % 10 ^ (19 * j))).length = 19 * j := padD_length _ _
    have HP9 : Hid (PadS (W8.drewN n9) go sep (ds ++ padD (19 * j) (x.toNat % 10 ^ (19 * j))) (19 - ds.length) 0 p2 c2 (W8.drewN n9)) := by
      have e : 0 + (ds ++ padD (19 * j) (x.toNat % 10 ^ (19 * j))).length = ds.length - 0 + (padD (19 * j) (x.toNat % 10 ^ (19 * j))).length := by rw [List.length_append]; omega
      refine ⟨Nat.zero_le _, by rw [List.length_append, hD0]; omega, by rw [e]; exact HH8.out.hp, by rw [e]; exact HH8.out.hc, ?_, But.refl _ _⟩
      have hr := HH8.out.row
      rw [List.drop_zero] at hr
      exact hr
    refine pret_pad (W8.drewN n9) go sep ds (ds ++ padD (19 * j) (x.toNat % 10 ^ (19 * j))) g' cap' (19 - ds.length) 0 p2 c2 P2 C2 _ (W8.drewN n9) _ _ _ _ _ _ _ _ _ _ _ _ _ _ _ _ _ _ _ _ _ _ _ _ _ _ _ _ _ _ _ _ _ _ _ _ _ _ _ _ _ _ _ _ _ _ _ _ _ _ _ _ _ _ _ _ _ _ _ _ _ _ _ _ _ _ _ _ _ _ _ _ _ _ _ _ _ _ _ _ _ _ _ _ _ _ HP9.out HPC2.out.1 HPC2.out.2 rfl (by omega) ?_
    show ∀ _, _
    intro p3 c3 P3 C3 W9 J3 s67 s68 s69 s70 s71 s72 s73 s74 s75 s76 s77 s78 s79 s80 s81 s82 s83 s84 s85 hP3 hC3 H9
    have B9 := H9.but
    have HY9 := Lib.hid ((HY8.out.drewN n9).but B9 (by simp; omega))
    have HYF9 := Lib.hid ((HYF8.out.drewN n9).but (HY8.out.drewN n9).lt B9 (by simp; omega))
    have HD9 := Lib.hid ((HD8.out.drewN n9).but B9 (by simp; omega))
    have HO9 : Hid (W9.ownsRow gb 5 1 (.slice (some ⟨g', 0, none⟩) ds.length cap') ds.length (byteCells ds)) := own_but (w := W8.drewN n9) HO8.out B9 (by simp; omega)
    have HB9 := Lib.hid (B9.bel (bel_drewN HB8.out n9) (fun b hb => by simp at hb; omega))
    have gbl9 : gb ≤ W9.heap.size := Nat.le_trans gbl8 B9.size
    have hlen : 19 - ds.length + (ds ++ padD (19 * j) (x.toNat % 10 ^ (19 * j))).length = 19 * (j + 1) := by rw [List.length_append, hD0]; omega
    have hp3 := H9.hp
    have hc3 := H9.hc
    have hr3 := H9.row
    rw [hlen] at hp3 hc3
    rw [HDS.out, HYE.out, pret_more] at hr3
    have hy3 := HY9.out
    rw [HYD.out] at hy3
    have HPC3 := Lib.hid (And.intro hP3 hC3)
    have HW9 : Hid (PretW go gy dv gb w0 sep x (j + 1) g' ds.length cap' p3 c3 W9) := ⟨by omega, by rw [← HYD.out]; exact HNE.out, ⟨_, HO9.out⟩, hr3, hy3, HYF9.out, HD9.out, HB9.out, gbl9, hp3, hc3⟩
    clear H9 B9 hP3 hC3 HP9 hp3 hc3 hr3 hy3 hlen HY9 HYF9 HD9 HO9 HB9 HH8
    go_wp2
    exact HN.out _ _ _ _ _ _ _ _ _ _ _ _ _ _ _ _ _ _ _ _ _ _ _ _ _ _ _ _ _ _ _ _ _ _ _ _ _ _ _ _ _ _ _ _ _ _ _ _ _ _ _ _ _ _ _ _ _ _ _ _ _ _ _ _ _ _ _ _ _ _ _ HPC3.out.1 HPC3.out.2 HW9.out
  · have h0 : Y / 10 ^ 19 = 0 := by rw [← hYN2]; exact (isZ_iff _).1 hz
    have HH0 := Lib.hid h0
    clear hYN2 hYdiv h0
    go_wp2_with (go_at_call 51; refine (isZero_any gy 0 _ _ HY8.out).mono ?_; rintro e w9 ⟨rfl, n9, rfl⟩)
    have h1 := HH0.out
    rw [HYE.out] at h1
    have hlast := dec_last _ j h1 HPOS.out
    have hr := HH8.out.row
    rw [List.drop_zero, HDS.out, HYE.out, hlast] at hr
    have hl := congrArg List.length hlast
    rw [← HYE.out, ← HDS.out, List.length_append, padD_length] at hl
    have hpp := HH8.out.hp
    rw [padD_length, Nat.sub_zero, hl] at hpp
    exact HX.out _ _ _ p2 _ _ _ _ _ _ _ _ _ _ _ _ _ _ _ _ _ _ _ _ _ _ _ _ _ _ _ _ _ _ _ _ _ _ _ _ _ _ _ _ _ _ _ _ _ _ _ _ _ _ _ _ _ _ _ _ _ _ _ _ _ _ _ _ _ _ HPC2.out.1 ⟨hpp, by omega, hr, bel_drewN HB8.out _⟩
def PrI (go gy dv gb : Nat) (w0 : World) (sep : UInt8) (x : N4) (c0 c2 c3 c4 c15 c16 c17 c18 c19 c20 c21 c22 c23 c24 c25 c26 c86 c87 c88 c89 c90 : Value) (a : Act) (W : World) : Prop :=
  ∃ (u11 u12 u13 u14 u27 u28 u29 u30 u31 u32 u33 u34 u35 u36 u37 u38 u39 u40 u41 u42 u43 u44 u45 u46 u47 u48 u49 u50 u51 u52 u53 u54 u55 u56 u57 u58 u59 u60 u61 u62 u63 u64 u65 u66 u67 u68 u69 u70 u71 u72 u73 u74 u75 u76 u77 u78 u79 u80 u81 u82 u83 u84 u85 : Value), ∃ (j g n cap p c : Nat) (P C : Int), P = (p : Int) ∧ C = (c : Int) ∧ PretW go gy dv gb w0 sep x j g n cap p c W ∧ a = ⟨List.toArray (c0 :: .int .u8 (sep.toNat : Int) :: c2 :: c3 :: c4 :: .slice (some ⟨go, 0, none⟩) 133 133 :: .pointer (some ⟨dv, 0, none⟩) :: .pointer (some ⟨gy, 0, none⟩) :: .int .i64 P :: .slice (some ⟨g, 0, none⟩) n cap :: .int .i64 C :: u11 :: u12 :: u13 :: u14 :: c15 :: c16 :: c17 :: c18 :: c19 :: c20 :: c21 :: c22 :: c23 :: c24 :: c25 :: c26 :: u27 :: u28 :: u29 :: u30 :: u31 :: u32 :: u33 :: u34 :: u35 :: u36 :: u37 :: u38 :: u39 :: u40 :: u41 :: u42 :: u43 :: u44 :: u45 :: u46 :: u47 :: u48 :: u49 :: u50 :: u51 :: u52 :: u53 :: u54 :: u55 :: u56 :: u57 :: u58 :: u59 :: u60 :: u61 :: u62 :: u63 :: u64 :: u65 :: u66 :: u67 :: u68 :: u69 :: u70 :: u71 :: u72 :: u73 :: u74 :: u75 :: u76 :: u77 :: u78 :: u79 :: u80 :: u81 :: u82 :: u83 :: u84 :: u85 :: c86 :: c87 :: c88 :: c89 :: c90 :: []), []⟩
def muPr (a : Act) (_ : World) : Nat := (RowKit.intOf (a.tmps[8]?.getD undef)).toNat
set_option maxHeartbeats 8000000 in
set_option maxRecDepth 20000 in
theorem pret_loop (go gy dv gb : Nat) (w0 : World) (sep : UInt8) (x : N4) (j g n cap p c : Nat) (P C : Int) (W : World) (Q : Exit → Act → World → Prop) (c0 c2 c3 c4 c15 c16 c17 c18 c19 c20 c21 c22 c23 c24 c25 c26 c86 c87 c88 c89 c90 v11 v12 v13 v14 v27 v28 v29 v30 v31 v32 v33 v34 v35 v36 v37 v38 v39 v40 v41 v42 v43 v44 v45 v46 v47 v48 v49 v50 v51 v52 v53 v54 v55 v56 v57 v58 v59 v60 v61 v62 v63 v64 v65 v66 v67 v68 v69 v70 v71 v72 v73 v74 v75 v76 v77 v78 v79 v80 v81 v82 v83 v84 v85 : Value)
    (H : PretW go gy dv gb w0 sep x j g n cap p c W) (h1 : go ≠ gy) (h2 : dv ≠ gy) (h3 : dv ≠ go) (h4 : go < gb) (h5 : gy < gb) (h6 : dv < gb) (h7 : w0.heap.size ≤ go) (h8 : w0.heap.size ≤ gy) (P0 : P10 w0) (hP : P = (p : Int)) (hC : C = (c : Int))
    (HX : Hid (∀ (g n cap p : Nat) (P C : Int) (W' : World) (u11 u12 u13 u14 u27 u28 u29 u30 u31 u32 u33 u34 u35 u36 u37 u38 u39 u40 u41 u42 u43 u44 u45 u46 u47 u48 u49 u50 u51 u52 u53 u54 u55 u56 u57 u58 u59 u60 u61 u62 u63 u64 u65 u66 u67 u68 u69 u70 u71 u72 u73 u74 u75 u76 u77 u78 u79 u80 u81 u82 u83 u84 u85 : Value), P = (p : Int) → PretX go w0 sep x p W' → Q (.exit 0) ⟨List.toArray (c0 :: .int .u8 (sep.toNat : Int) :: c2 :: c3 :: c4 :: .slice (some ⟨go, 0, none⟩) 133 133 :: .pointer (some ⟨dv, 0, none⟩) :: .pointer (some ⟨gy, 0, none⟩) :: .int .i64 P :: .slice (some ⟨g, 0, none⟩) n cap :: .int .i64 C :: u11 :: u12 :: u13 :: u14 :: c15 :: c16 :: c17 :: c18 :: c19 :: c20 :: c21 :: c22 :: c23 :: c24 :: c25 :: c26 :: u27 :: u28 :: u29 :: u30 :: u31 :: u32 :: u33 :: u34 :: u35 :: u36 :: u37 :: u38 :: u39 :: u40 :: u41 :: u42 :: u43 :: u44 :: u45 :: u46 :: u47 :: u48 :: u49 :: u50 :: u51 :: u52 :: u53 :: u54 :: u55 :: u56 :: u57 :: u58 :: u59 :: u60 :: u61 :: u62 :: u63 :: u64 :: u65 :: u66 :: u67 :: u68 :: u69 :: u70 :: u71 :: u72 :: u73 :: u74 :: u75 :: u76 :: u77 :: u78 :: u79 :: u80 :: u81 :: u82 :: u83 :: u84 :: u85 :: c86 :: c87 :: c88 :: c89 :: c90 :: []), []⟩ W')) :
    Code.wp Tryd.prog (.loop pretBody) Q ⟨List.toArray (c0 :: .int .u8 (sep.toNat : Int) :: c2 :: c3 :: c4 :: .slice (some ⟨go, 0, none⟩) 133 133 :: .pointer (some ⟨dv, 0, none⟩) :: .pointer (some ⟨gy, 0, none⟩) :: .int .i64 P :: .slice (some ⟨g, 0, none⟩) n cap :: .int .i64 C :: v11 :: v12 :: v13 :: v14 :: c15 :: c16 :: c17 :: c18 :: c19 :: c20 :: c21 :: c22 :: c23 :: c24 :: c25 :: c26 :: v27 :: v28 :: v29 :: v30 :: v31 :: v32 :: v33 :: v34 :: v35 :: v36 :: v37 :: v38 :: v39 :: v40 :: v41 :: v42 :: v43 :: v44 :: v45 :: v46 :: v47 :: v48 :: v49 :: v50 :: v51 :: v52 :: v53 :: v54 :: v55 :: v56 :: v57 :: v58 :: v59 :: v60 :: v61 :: v62 :: v63 :: v64 :: v65 :: v66 :: v67 :: v68 :: v69 :: v70 :: v71 :: v72 :: v73 :: v74 :: v75 :: v76 :: v77 :: v78 :: v79 :: v80 :: v81 :: v82 :: v83 :: v84 :: v85 :: c86 :: c87 :: c88 :: c89 :: c90 :: []), []⟩ W := by
  refine wp_loop (PrI go gy dv gb w0 sep x c0 c2 c3 c4 c15 c16 c17 c18 c19 c20 c21 c22 c23 c24 c25 c26 c86 c87 c88 c89 c90) muPr ?_ ?_
  · exact ⟨v11, v12, v13, v14, v27, v28, v29, v30, v31, v32, v33, v34, v35, v36, v37, v38, v39, v40, v41, v42, v43, v44, v45, v46, v47, v48, v49, v50, v51, v52, v53, v54, v55, v56, v57, v58, v59, v60, v61, v62, v63, v64, v65, v66, v67, v68, v69, v70, v71, v72, v73, v74, v75, v76, v77, v78, v79, v80, v81, v82, v83, v84, v85, j, g, n, cap, p, c, P, C, hP, hC, H, rfl⟩
  · intro a W1 hI
    obtain ⟨u11, hI⟩ := hI
    obtain ⟨u12, hI⟩ := hI
    obtain ⟨u13, hI⟩ := hI
    obtain ⟨u14, hI⟩ := hI
    obtain ⟨u27, hI⟩ := hI
    obtain ⟨u28, hI⟩ := hI
    obtain ⟨u29, hI⟩ := hI
    obtain ⟨u30, hI⟩ := hI
    obtain ⟨u31, hI⟩ := hI
    obtain ⟨u32, hI⟩ := hI
    obtain ⟨u33, hI⟩ := hI
    obtain ⟨u34, hI⟩ := hI
    obtain ⟨u35, hI⟩ := hI
    obtain ⟨u36, hI⟩ := hI
    obtain ⟨u37, hI⟩ := hI
    obtain ⟨u38, hI⟩ := hI
    obtain ⟨u39, hI⟩ := hI
    obtain ⟨u40, hI⟩ := hI
    obtain ⟨u41, hI⟩ := hI
    obtain ⟨u42, hI⟩ := hI
    obtain ⟨u43, hI⟩ := hI
    obtain ⟨u44, hI⟩ := hI
    obtain ⟨u45, hI⟩ := hI
    obtain ⟨u46, hI⟩ := hI
    obtain ⟨u47, hI⟩ := hI
    obtain ⟨u48, hI⟩ := hI
    obtain ⟨u49, hI⟩ := hI
    obtain ⟨u50, hI⟩ := hI
    obtain ⟨u51, hI⟩ := hI
    obtain ⟨u52, hI⟩ := hI
    obtain ⟨u53, hI⟩ := hI
    obtain ⟨u54, hI⟩ := hI
    obtain ⟨u55, hI⟩ := hI
    obtain ⟨u56, hI⟩ := hI
    obtain ⟨u57, hI⟩ := hI
    obtain ⟨u58, hI⟩ := hI
    obtain ⟨u59, hI⟩ := hI
    obtain ⟨u60, hI⟩ := hI
    obtain ⟨u61, hI⟩ := hI
    obtain ⟨u62, hI⟩ := hI
    obtain ⟨u63, hI⟩ := hI
    obtain ⟨u64, hI⟩ := hI
    obtain ⟨u65, hI⟩ := hI
    obtain ⟨u66, hI⟩ := hI
    obtain ⟨u67, hI⟩ := hI
    obtain ⟨u68, hI⟩ := hI
    obtain ⟨u69, hI⟩ := hI
    obtain ⟨u70, hI⟩ := hI
    obtain ⟨u71, hI⟩ := hI
    obtain ⟨u72, hI⟩ := hI
    obtain ⟨u73, hI⟩ := hI
    obtain ⟨u74, hI⟩ := hI
    obtain ⟨u75, hI⟩ := hI
    obtain ⟨u76, hI⟩ := hI
    obtain ⟨u77, hI⟩ := hI
    obtain ⟨u78, hI⟩ := hI
    obtain ⟨u79, hI⟩ := hI
    obtain ⟨u80, hI⟩ := hI
    obtain ⟨u81, hI⟩ := hI
    obtain ⟨u82, hI⟩ := hI
    obtain ⟨u83, hI⟩ := hI
    obtain ⟨u84, hI⟩ := hI
    obtain ⟨u85, hI⟩ := hI
    obtain ⟨j, g, n, cap, p, c, P, C, hP, hC, H, rfl⟩ := hI
    refine pret_round go gy dv gb w0 sep x j g n cap p c P C W1 _ c0 c2 c3 c4 c15 c16 c17 c18 c19 c20 c21 c22 c23 c24 c25 c26 c86 c87 c88 c89 c90 _ _ _ _ _ _ _ _ _ _ _ _ _ _ _ _ _ _ _ _ _ _ _ _ _ _ _ _ _ _ _ _ _ _ _ _ _ _ _ _ _ _ _ _ _ _ _ _ _ _ _ _ _ _ _ _ _ _ _ _ _ _ _ H h1 h2 h3 h4 h5 h6 h7 h8 P0 hP hC ?_ ?_
    · show ∀ _, _
      intro g2 n2 cap2 p2 c2 P2 C2 W2 u11 u12 u13 u14 u27 u28 u29 u30 u31 u32 u33 u34 u35 u36 u37 u38 u39 u40 u41 u42 u43 u44 u45 u46 u47 u48 u49 u50 u51 u52 u53 u54 u55 u56 u57 u58 u59 u60 u61 u62 u63 u64 u65 u66 u67 u68 u69 u70 u71 u72 u73 u74 u75 u76 u77 u78 u79 u80 u81 u82 u83 u84 u85 hP2 hC2 HW
      refine ⟨⟨u11, u12, u13, u14, u27, u28, u29, u30, u31, u32, u33, u34, u35, u36, u37, u38, u39, u40, u41, u42, u43, u44, u45, u46, u47, u48, u49, u50, u51, u52, u53, u54, u55, u56, u57, u58, u59, u60, u61, u62, u63, u64, u65, u66, u67, u68, u69, u70, u71, u72, u73, u74, u75, u76, u77, u78, u79, u80, u81, u82, u83, u84, u85, j + 1, g2, n2, cap2, p2, c2, P2, C2, hP2, hC2, HW, rfl⟩, ?_⟩
      show (RowKit.intOf (.int .i64 P2)).toNat < (RowKit.intOf (.int .i64 P)).toNat
      have k1 := H.hp
      have k2 := HW.hp
      have k3 : pretLen (19 * j) < pretLen (19 * (j + 1)) := by unfold pretLen; omega
      simp only [RowKit.intOf]
      omega
    · exact HX
end Go.Proofs.YtbgmeppidedfbaaDoor
/-
  Int.PrettyDec: the decimal digits with a byte between each three; impl.PrettyDec.
-/
set_option linter.unusedVariables false
set_option linter.unusedSimpArgs false
namespace Go.Proofs.YtbgmeppidedfbaaDoor
open Go.RowKit Go.Lib

set_option maxHeartbeats 16000000 in
set_option maxRecDepth 20000 in
theorem prettyInt_any (c p : Nat) (x : N4) (sep : UInt8) (w : World) (hx : At4 w c p x) (hp : P10 w) : Calls Tryd.prog 35 #[.pointer (some ⟨c, p, none⟩), .int .u8 (sep.toNat : Int)] w (RetBel (.string ⟨(pret sep (decDigits x.toNat)).toArray⟩) w) := by
  obtain ⟨ie, hie⟩ : ∃ ie, Tryd.prog.info? 5 = some ie := Option.isSome_iff_exists.1 (by kernel_rfl)
  have hsz : ie.size = 1 := by
    have h : (Tryd.prog.info? 5).map (·.size) = some 1 := by kernel_rfl
    rw [hie] at h; simpa using h
  have hz0 : ie.zero = some (.int .u8 0) := by
    have h : (Tryd.prog.info? 5).bind (·.zero) = some (.int .u8 0) := by kernel_rfl
    rw [hie] at h; simpa using h
  have HX := Lib.hid hx
  have HP := Lib.hid hp
  clear hp hx
  go_enter Tryd.func35, Tryd.ntmps35
  go_wp2_with fail
  refine (isZero_any c p x _ HX.out).mono ?_
  rintro e w1 ⟨rfl, n1, rfl⟩
  cases hz : x.isZ
  · go_upto_region 3 with fail
    refine wp_region_lit ?_
    obtain ⟨C, hC⟩ : ∃ C, C = (List.replicate 133 (Value.int .u8 48)).toArray := ⟨_, rfl⟩
    have hCs : C.size = 133 := by rw [hC]; simp
    have hC' : ((List.replicate 133 (48 : Int)).map (Value.int .u8)).toArray = C := by rw [hC, List.map_replicate]
    refine wpList_buildFlat rfl 49 5 133 _ rfl .u8 (List.replicate 133 48) (by kernel_rfl) (by kernel_rfl) (by kernel_rfl) (by kernel_rfl) (by decide) (by decide) (by kernel_rfl) ?_
    rw [hC']
    clear hC'
    have hcv := Lib.run_convert_bytes_const (P := Tryd.prog) (w.drewN n1) 49 5 C 133 133 (by kernel_rfl) (by kernel_rfl)
    rw [hCs] at hcv
    have bel0 : Below w.heap.size w ((w.drewN n1).alloc (.cells C 5 (133, 133 + 1))) := bel_alloc (bel_drewN (bel_refl w) n1) _
    have row0 : RowIs ((w.drewN n1).alloc (.cells C 5 (133, 133 + 1))) w.heap.size (List.replicate 133 48) := by
      unfold RowIs
      rw [show Lib.byteCells (List.replicate 133 48) = List.replicate 133 (Value.int .u8 48) by kernel_rfl, ← hC, List.length_replicate]
      exact Array.getElem?_push_size
    have siz0 : ((w.drewN n1).alloc (.cells C 5 (133, 133 + 1))).heap.size = w.heap.size + 1 := Array.size_push _
    have B0 := Lib.hid bel0
    have R0 := Lib.hid row0
    clear row0 bel0 hC
    have hcv' : (convert 49 49 (.slice (some ⟨w.heap.size, 0, none⟩) 133 133)).run Tryd.prog ((w.drewN n1).alloc (.cells C 5)) = .ok (.slice (some ⟨w.heap.size, 0, none⟩) 133 133) ((w.drewN n1).alloc (.cells C 5 (133, 133 + 1))) := hcv
    clear hcv
    generalize (w.drewN n1).alloc (.cells C 5 (133, 133 + 1)) = W at *
    generalize hV : (w.drewN n1).alloc (.cells C 5) = V0 at *
    clear hV hCs
    have HX0 := Lib.hid (HX.out.bel B0.out)
    have HP0 := Lib.hid (HP.out.bel B0.out)
    go_wp2_with fail
    refine (newInt_any 10000000000000000000#64 W).mono ?_
    rintro e w1 ⟨dv, rfl, hD⟩
    go_wp2_with fail
    have sz0 : (w1.alloc (Obj.cells #[.int .u64 0, .int .u64 0, .int .u64 0, .int .u64 0] 59)).heap.size = w1.heap.size + 1 := Array.size_push _
    have hcl : c < w.heap.size := HX.out.lt
    have szW := B0.out.size
    have sz1 := hD.bel.size
    have hy4 : At4 (w1.alloc (Obj.cells #[.int .u64 0, .int .u64 0, .int .u64 0, .int .u64 0] 59)) w1.heap.size 0 ⟨0#64, 0#64, 0#64, 0#64⟩ := by constructor <;> simp [go_sem] <;> rfl
    have hyf : Free4 (w1.alloc (Obj.cells #[.int .u64 0, .int .u64 0, .int .u64 0, .int .u64 0] 59)) w1.heap.size 0 := by constructor <;> simp [go_sem]
    refine (set_any w1.heap.size 0 c p _ x _ hy4 hyf ((HX0.out.bel hD.bel).alloc _) (fun e => by omega)).mono ?_
    rintro e w2 ⟨rfl, n3, hw2⟩
    have P1 := HP0.out.bel hD.bel
    have hdv : dv ≠ w1.heap.size := by have := hD.at4.lt; omega
    have bel2 : Below w1.heap.size w1 w2 := by rw [hw2]; exact bel_drewN (put4_bel (bel_alloc (bel_refl w1) _) (Nat.le_refl _)) n3
    have HY2 : Hid (At4 w2 w1.heap.size 0 x) := by show At4 _ _ _ _; rw [hw2]; exact (put4_at _ _ _ _ ⟨0#64, 0#64, 0#64, 0#64⟩ hy4).drewN n3
    have HYF2 : Hid (Free4 w2 w1.heap.size 0) := by show Free4 _ _ _; rw [hw2]; exact (Free4.put _ hyf).drewN n3
    have HD2 := Lib.hid (hD.at4.bel bel2)
    have HP2 := Lib.hid (P1.bel bel2)
    have HB2 := Lib.hid (bel_trans B0.out (bel_trans hD.bel bel2))
    have HR2 := Lib.hid ((R0.out.bel hD.bel).bel bel2)
    have siz2 := bel2.size
    clear hw2 hy4 hyf P1 bel2 sz0 B0 R0 HX0 HP0 hcv'
    have hib : ie.bytes = 1 := by
      have h : (Tryd.prog.info? 5).map (·.bytes) = some 1 := by kernel_rfl
      rw [hie] at h; simpa using h
    obtain ⟨w3, hmk0, hown, hgr⟩ := run_makeSlice_owned (P := Tryd.prog) w2 w2.heap.size 49 5 ie (.int .u8 0) 1 (by kernel_rfl) hie hz0 hsz .i64 .i64 19 (by omega) (by rw [hib]; omega) (by decide) (Nat.le_refl _)
    have hmk : (Instr.makeSlice 49 (.int .i64 0) (.int .i64 19)).run Tryd.prog w2 = .ok (.slice (some ⟨w2.heap.size, 0, none⟩) 0 19) w3 := hmk0
    clear hmk0
    have b3 : Below w2.heap.size w2 w3 := (bel_refl w2).grown hgr (Nat.le_refl _) (fun g hg => by cases hg)
    have hx0 : 0 < x.toNat := by
      rcases Nat.eq_zero_or_pos x.toNat with h | h
      · rw [(isZ_iff x).2 h] at hz; cases hz
      · exact h
    have hdge := hD.ge
    have hdlt := hD.at4.lt
    have hylt := HY2.out.lt
    have HW : Hid (PretW w.heap.size w1.heap.size dv w2.heap.size w sep x 0 w2.heap.size 0 19 132 0 w3) := by
      refine ⟨by omega, by simpa using hx0, ⟨[], hown⟩, ?_, ?_, HYF2.out.bel HY2.out.lt b3, HD2.out.bel b3, bel_trans HB2.out b3, b3.size, rfl, rfl⟩
      · have h := HR2.out.bel b3
        unfold pretRow
        rw [show 19 * 0 = 0 by rfl, padD, pret, List.append_nil]
        exact h
      · have h := HY2.out.bel b3
        rw [show 19 * 0 = 0 by rfl, Nat.pow_zero, Nat.div_one, ofN_self]
        exact h
    clear hgr hown b3 hx0
    go_wp2_with fail
    refine pret_loop w.heap.size w1.heap.size dv w2.heap.size w sep x 0 w2.heap.size 0 19 132 0 _ _ w3 _ _ _ _ _ _ _ _ _ _ _ _ _ _ _ _ _ _ _ _ _ _ _ _ _ _ _ _ _ _ _ _ _ _ _ _ _ _ _ _ _ _ _ _ _ _ _ _ _ _ _ _ _ _ _ _ _ _ _ _ _ _ _ _ _ _ _ _ _ _ _ _ _ _ _ _ _ _ _ _ _ _ _ _ _ HW.out (by omega) hdv (by omega) (by omega) (by omega) (by omega) (Nat.le_refl _) (by omega) HP.out rfl rfl ?_
    show ∀ _, _
    intro g n cap p P C W' u0 u1 u2 u3 u4 u5 u6 u7 u8 u9 u10 u11 u12 u13 u14 u15 u16 u17 u18 u19 u20 u21 u22 u23 u24 u25 u26 u27 u28 u29 u30 u31 u32 u33 u34 u35 u36 u37 u38 u39 u40 u41 u42 u43 u44 u45 u46 u47 u48 u49 u50 u51 u52 u53 u54 u55 u56 u57 u58 u59 u60 u61 u62 hP HX
    have hpp := HX.hp
    have hlim := HX.lim
    have hple := pretLen_le _ hlim
    have hrow := HX.row
    have hpos : 0 < (decDigits x.toNat).length := by rw [decDigits_length]; exact nDigits_pos _
    obtain ⟨K, hK⟩ : ∃ K, K = p + 1 := ⟨_, rfl⟩
    have hpk : P + 1 = (K : Int) := by omega
    have hlen : (pret sep (decDigits x.toNat)).length = 133 - K := by rw [pret_length]; omega
    have hpl : 0 < pretLen (decDigits x.toNat).length := by unfold pretLen; omega
    unfold pretRow at hrow
    rw [show 133 - pretLen (decDigits x.toNat).length = K by omega] at hrow
    have hsb : SlB W' (.slice (some ⟨w.heap.size, K, none⟩) (133 - K) (133 - K)) (pret sep (decDigits x.toNat)) := by
      rw [← hlen]
      refine ⟨some ⟨w.heap.size, K, none⟩, _, rfl, Nat.le_refl _, fun i b hb => ⟨_, _, rfl, ?_⟩⟩
      have hi : i < (pret sep (decDigits x.toNat)).length := (List.getElem?_eq_some_iff.1 hb).1
      have h := hrow.cell (K + i) (by rw [List.length_append, List.length_replicate]; omega)
      rw [h]
      have e : (List.replicate K (48 : UInt8) ++ pret sep (decDigits x.toNat))[K + i]? = some b := by rw [List.getElem?_append_right (by simp), List.length_replicate, show K + i - K = i by omega]; exact hb
      rw [(List.getElem?_eq_some_iff.1 e).2]
    have hcv := conv_slb hsb
    have hK98 : K < 133 := by omega
    have HBX := Lib.hid HX.bel
    clear HX hsb hP HW hK hlen hpl hple hlim hpos hrow hpp
    go_wp2
    go_ret
    exact retBel rfl HBX.out
  · go_wp2
    go_ret
    have h0 : x.toNat = 0 := (isZ_iff x).1 hz
    rw [h0, decDigits_small (by omega)]
    rw [pret_cons, if_neg (by simp)]
    exact retBel rfl (bel_drewN (bel_refl w) n1)
set_option maxHeartbeats 400000 in
theorem implPretty_any (x : N4) (sep : UInt8) (w : World) (hp : P10 w) : Calls Tryd.prog 13 #[x.v, .int .u8 (sep.toNat : Int)] w (RetBel (.string ⟨(pret sep (decDigits x.toNat)).toArray⟩) w) := by
  have HP := Lib.hid hp
  clear hp
  go_enter Tryd.func13, Tryd.ntmps13
  go_wp2_with fail
  refine (intOf_any x _).mono ?_
  rintro e w0 ⟨B, rfl, m⟩
  have hb0 := bel_trans (bel_alloc (bel_refl w) _) m.bel
  go_wp2_with fail
  refine (prettyInt_any B 0 x sep _ m.at4 (HP.out.bel hb0)).mono ?_
  rintro e w1 ⟨rfl, hb1⟩
  have HB := Lib.hid (bel_trans hb0 hb1)
  clear hb0 hb1
  go_wp2
  go_ret
  exact retBel rfl HB.out
end Go.Proofs.YtbgmeppidedfbaaDoor
/-
  The reference's Pretty.
-/
set_option linter.unusedVariables false
set_option linter.unusedSimpArgs false
namespace Go.Proofs.YtbgmeppidedfbaaDoor
open Go.RowKit Go.Lib
theorem pret_snoc (out : List UInt8) (b : UInt8) : Lib.byteCells (out ++ [b]) = Lib.byteCells out ++ [.int .u8 (b.toNat : Int)] := by simp [Lib.byteCells]
set_option maxHeartbeats 4000000 in
set_option maxRecDepth 20000 in
theorem specPretty_any (x : N4) (sep : UInt8) (w : World) : Calls Tryd.prog 14 #[x.v, .int .u8 (sep.toNat : Int)] w (RetBel (.string ⟨(pret sep (decDigits x.toNat)).toArray⟩) w) := by
  obtain ⟨i0, hi, hz0, hz1, hz2⟩ := info_parts Tryd.infoByte
  obtain ⟨l, hl⟩ : ∃ l, l = decDigits x.toNat := ⟨_, rfl⟩
  have hl78 : l.length ≤ 78 := by rw [hl, decDigits_length]; exact (padD_eq 78 x.toNat (by omega) (Nat.lt_of_lt_of_le (toNat_lt x) (by decide))).2
  have DE : Hid (∀ w, Calls Tryd.prog 16 #[x.v] w (RetBel (.string ⟨l.toArray⟩) w)) := fun w => by rw [hl]; exact decimal_any x w
  rw [← hl]
  clear hl
  go_enter Tryd.func14, Tryd.ntmps14
  go_wp2_with (go_at_call 16; refine (DE.out _).mono ?_; rintro e w1 ⟨rfl, hb1⟩)
  have HB1 := Lib.hid (bel_trans (bel_alloc (bel_refl w) _) hb1)
  clear hb1
  obtain ⟨B, hB⟩ : ∃ B, B = w1.heap.size := ⟨_, rfl⟩
  have hown0 : (w1.alloc (.cells #[] 5)).ownsRow B 5 1 (.slice (some ⟨w1.heap.size, 0, none⟩) 0 0) 0 (Lib.byteCells []) := by
    rw [hB]
    exact World.ownsRow_made (base := w1.heap.size) (e := 5) (size := 1) w1 #[] 0 (by simp) (Nat.zero_le _) rfl
  have HW := Lib.hid hown0
  have HBe := Lib.hid hB
  clear hown0 hB
  go_loopw [6, 7] (fun v t wr => ∃ (i : Nat) (u : Value) (out : List UInt8), u = v ∧ i ≤ l.length ∧ t = .int .i64 (i : Int) ∧ Hid (wr.ownsRow B 5 1 u out.length (Lib.byteCells out)) ∧ Hid (out ++ pretTail sep i (l.drop i) = pret sep l) ∧ Hid (Below B w1 wr)) (fun _ t _ => (100 - RowKit.intOf t).toNat)
  case atStart => exact ⟨0, _, [], rfl, by omega, rfl, HW.out, by show _ = _; rw [List.drop_zero, pretTail_zero]; rfl, by show Below _ _ _; rw [HBe.out]; exact bel_alloc (bel_refl w1) _⟩
  case round =>
    obtain ⟨i, u, out, rfl, hil, rfl, HO, HT, hbel⟩ := hrel
    obtain ⟨wo, rfl⟩ : ∃ wo : World, wo = wr := ⟨_, rfl⟩
    have hBw : B ≤ wo.heap.size := by rw [HBe.out]; exact hbel.out.size
    have holen : Hid (out.length ≤ 200) := by
      have h := congrArg List.length HT.out
      rw [List.length_append, pret_length] at h
      unfold pretLen at h
      show _ ≤ _
      omega
    have hol := holen.out
    rcases Nat.eq_or_lt_of_le hil with h0 | h0
    · subst h0
      have hcv := conv_slb (SlB.of_own HO.out)
      have ht := HT.out
      rw [List.drop_length, pretTail_nil, List.append_nil] at ht
      rw [ht] at hcv
      have HBB := hbel
      clear ht HO hbel
      go_wp2
      go_ret
      exact retBel rfl (bel_trans HB1.out (HBB.out.mono (by rw [HBe.out]; exact Nat.le_refl _)))
    · obtain ⟨d, hd⟩ : ∃ d, l[i]? = some d := ⟨_, List.getElem?_eq_getElem h0⟩
      have hgd : ∀ h, (⟨l.toArray⟩ : ByteArray)[i]'h = d := by
        intro h
        show (l.toArray[i]'h) = d
        rw [List.getElem_toArray]
        exact (List.getElem?_eq_some_iff.1 hd).2
      have hdr : l.drop i = d :: l.drop (i + 1) := by
        rw [List.drop_eq_getElem_cons h0, (List.getElem?_eq_some_iff.1 hd).2]
      have hlen : (l.drop (i + 1)).length + 1 = l.length - i := by rw [List.length_drop]; omega
      have hii : (i : Int) < (l.length : Int) := by omega
      have hrem : ((l.length : Int) - (i : Int)).tmod 3 = (((l.length - i) % 3 : Nat) : Int) := by
        rw [Int.tmod_eq_emod_of_nonneg (by omega)]; omega
      by_cases hc : 0 < i ∧ (l.length - i) % 3 = 0
      · have hst := pretTail_sep sep i d (l.drop (i + 1)) ⟨hc.1, by rw [hlen]; exact hc.2⟩
        have hi0 : (0 : Int) < (i : Int) := by omega
        have hq : ((((l.length - i) % 3 : Nat) : Int) == 0) = true := by rw [hc.2]; rfl
        have HST := Lib.hid hst
        have HDR := Lib.hid hdr
        clear hst hdr hlen hc
        go_wp2_with (at_builtin; refine wpList_append_own _ rfl _ _ 49 rfl B 5 i0 (.int .u8 0) 1 1 Tryd.underlying49 hi hz0 hz1 hz2 rfl (by decide) _ _ _ rfl (HO.out.alloc _) ⟨wo.heap.size, 0, none⟩ 1 1 [.int .u8 (sep.toNat : Int)] rfl rfl ?d1 ?d2 ?d3 ?d4 ?d5 ?_)
        case d1 =>
          intro ii u hu
          match ii with
          | 0 => simp at hu; subst hu; simp [Addr.add, go_sem, hgd]
          | ii + 1 => simp at hu
        case d2 => intro u hu; simp at hu; subst hu; rfl
        case d3 => unfold maxLen; omega
        case d4 => omega
        case d5 => simp; omega
        intro v1 w2 hown2 hgrow2 _
        have hown3 : w2.ownsRow B 5 1 v1 (out ++ [sep]).length (Lib.byteCells (out ++ [sep])) := by
          rw [pret_snoc, List.length_append]
          exact hown2
        have HO2 := Lib.hid hown3
        have HB2 : Hid (Below B w1 w2) := by
          have HOO := HO.out
          exact (hbel.out.alloc hBw _).grown hgrow2 (by simp; omega) (fun g hg => (HOO.lt g hg).1)
        have hs2 : B ≤ w2.heap.size := by have := hgrow2.size; simp at this; omega
        have hol2 : (out ++ [sep]).length ≤ 201 := by rw [List.length_append]; simp; omega
        have hidx := hd
        clear hown2 hgrow2 hown3 HO hbel hq hrem
        go_wp2_with (at_builtin; refine wpList_append_own _ rfl _ _ 49 rfl B 5 i0 (.int .u8 0) 1 1 Tryd.underlying49 hi hz0 hz1 hz2 rfl (by decide) _ _ _ rfl (HO2.out.alloc _) ⟨w2.heap.size, 0, none⟩ 1 1 [.int .u8 (d.toNat : Int)] rfl rfl ?d1 ?d2 ?d3 ?d4 ?d5 ?_)
        case d1 =>
          intro ii u hu
          match ii with
          | 0 => simp at hu; subst hu; simp [Addr.add, go_sem, hgd]
          | ii + 1 => simp at hu
        case d2 => intro u hu; simp at hu; subst hu; rfl
        case d3 => unfold maxLen; omega
        case d4 => omega
        case d5 => simp; omega
        intro v2 w3 hown2 hgrow2 _
        have hown3 : w3.ownsRow B 5 1 v2 (out ++ [sep] ++ [d]).length (Lib.byteCells (out ++ [sep] ++ [d])) := by
          rw [pret_snoc, show (out ++ [sep] ++ [d]).length = out.length + 1 + 1 by simp]
          exact hown2
        have HO3 := Lib.hid hown3
        have HB3 : Hid (Below B w1 w3) := by
          have HOO := HO2.out
          exact (HB2.out.alloc hs2 _).grown hgrow2 (by simp; omega) (fun g hg => (HOO.lt g hg).1)
        have HT3 : Hid (out ++ [sep] ++ [d] ++ pretTail sep (i + 1) (l.drop (i + 1)) = pret sep l) := by
          have h := HT.out
          rw [HDR.out, HST.out] at h
          show _ = _
          rw [← h]; simp
        clear hown2 hgrow2 hown3 HO2 HB2 HT HST HDR
        go_wp2
        go_roundw
        case rel => exact ⟨i + 1, _, _, rfl, by omega, by simp, HO3.out, HT3.out, HB3.out⟩
        case measure => simp [RowKit.intOf] <;> omega
      · have hst := pretTail_no sep i d (l.drop (i + 1)) (by rw [hlen]; exact hc)
        have HST := Lib.hid hst
        have HDR := Lib.hid hdr
        have hsplit : i = 0 ∨ (0 < i ∧ ((((l.length - i) % 3 : Nat) : Int) == 0) = false) := by
          rcases Nat.eq_zero_or_pos i with h | h
          · exact .inl h
          · refine .inr ⟨h, ?_⟩
            have : (l.length - i) % 3 ≠ 0 := fun k => hc ⟨h, k⟩
            simp; omega
        clear hst hdr hlen hc
        have HO2 := HO
        have hs2 := hBw
        rcases hsplit with hi0 | ⟨hi0, hq⟩
        · subst hi0
          rw [show ((0 : Nat) : Int) = 0 by rfl]
          go_wp2_with (at_builtin; refine wpList_append_own _ rfl _ _ 49 rfl B 5 i0 (.int .u8 0) 1 1 Tryd.underlying49 hi hz0 hz1 hz2 rfl (by decide) _ _ _ rfl (HO.out.alloc _) ⟨wo.heap.size, 0, none⟩ 1 1 [.int .u8 (d.toNat : Int)] rfl rfl ?d1 ?d2 ?d3 ?d4 ?d5 ?_)
          case d1 =>
            intro ii u hu
            match ii with
            | 0 => simp at hu; subst hu; simp [Addr.add, go_sem, hgd]
            | ii + 1 => simp at hu
          case d2 => intro u hu; simp at hu; subst hu; rfl
          case d3 => unfold maxLen; omega
          case d4 => omega
          case d5 => simp; omega
          intro v2 w3 hown2 hgrow2 _
          have hown3 : w3.ownsRow B 5 1 v2 (out ++ [d]).length (Lib.byteCells (out ++ [d])) := by
            rw [pret_snoc, List.length_append]
            exact hown2
          have HO3 := Lib.hid hown3
          have HB3 : Hid (Below B w1 w3) := by
            have HOO := HO.out
            exact (hbel.out.alloc hBw _).grown hgrow2 (by simp; omega) (fun g hg => (HOO.lt g hg).1)
          have HT3 : Hid (out ++ [d] ++ pretTail sep (0 + 1) (l.drop (0 + 1)) = pret sep l) := by
            have h := HT.out
            rw [HDR.out, HST.out] at h
            show _ = _
            rw [← h]; simp
          clear hown2 hgrow2 hown3 HO HT HST HDR hbel
          go_wp2
          go_roundw
          case rel => exact ⟨0 + 1, _, _, rfl, by omega, by simp, HO3.out, HT3.out, HB3.out⟩
          case measure => simp [RowKit.intOf] <;> omega
        · have hi1 : (0 : Int) < (i : Int) := by omega
          go_wp2_with (at_builtin; refine wpList_append_own _ rfl _ _ 49 rfl B 5 i0 (.int .u8 0) 1 1 Tryd.underlying49 hi hz0 hz1 hz2 rfl (by decide) _ _ _ rfl (HO.out.alloc _) ⟨wo.heap.size, 0, none⟩ 1 1 [.int .u8 (d.toNat : Int)] rfl rfl ?d1 ?d2 ?d3 ?d4 ?d5 ?_)
          case d1 =>
            intro ii u hu
            match ii with
            | 0 => simp at hu; subst hu; simp [Addr.add, go_sem, hgd]
            | ii + 1 => simp at hu
          case d2 => intro u hu; simp at hu; subst hu; rfl
          case d3 => unfold maxLen; omega
          case d4 => omega
          case d5 => simp; omega
          intro v2 w3 hown2 hgrow2 _
          have hown3 : w3.ownsRow B 5 1 v2 (out ++ [d]).length (Lib.byteCells (out ++ [d])) := by
            rw [pret_snoc, List.length_append]
            exact hown2
          have HO3 := Lib.hid hown3
          have HB3 : Hid (Below B w1 w3) := by
            have HOO := HO.out
            exact (hbel.out.alloc hBw _).grown hgrow2 (by simp; omega) (fun g hg => (HOO.lt g hg).1)
          have HT3 : Hid (out ++ [d] ++ pretTail sep (i + 1) (l.drop (i + 1)) = pret sep l) := by
            have h := HT.out
            rw [HDR.out, HST.out] at h
            show _ = _
            rw [← h]; simp
          clear hown2 hgrow2 hown3 HO HT HST HDR hbel
          go_wp2
          go_roundw
          case rel => exact ⟨i + 1, _, _, rfl, by omega, by simp, HO3.out, HT3.out, HB3.out⟩
          case measure => simp [RowKit.intOf] <;> omega
end Go.Proofs.YtbgmeppidedfbaaDoor
/-
  The library's powers of ten hold what its text lays into them: off the row's own list of variables.
-/
namespace Go.Proofs.YtbgmeppidedfbaaDoor
open Go.RowKit Go.Lib
set_option linter.unusedVariables false
theorem p10_datum {H : Type} : (Rows.laid_internal_strconv_uint64pow10 : DataW H) = tabData .u64 pow10Tab := rfl
theorem p10_of {w : World} (h : VarReads Tryd.prog w "internal/strconv.uint64pow10" Rows.laid_internal_strconv_uint64pow10) : P10 w := by
  obtain ⟨g, t, cs, fuel, p, hg, hty, hvar, hd⟩ := h
  obtain rfl := Option.some.inj ((show Tryd.prog.globalNamed "internal/strconv.uint64pow10" = some 8 by kernel_rfl).symm.trans hg)
  obtain rfl := Option.some.inj ((show (Tryd.prog.globals[8]?).map (·.type) = some 114 by kernel_rfl).symm.trans hty)
  rw [p10_datum] at hd
  have hcs := cells_of_tab (t := 114) (e := 22) (n := 20) (k := .u64) (by kernel_rfl) (by kernel_rfl) (by kernel_rfl) (by kernel_rfl) hd
  unfold P10 TabIs
  rw [hvar, ← hcs]
end Go.Proofs.YtbgmeppidedfbaaDoor
namespace Go.Proofs.YtbgmeppidedfbaaDoor.fnPrettyDecIs
open Go.ChangeShapes Go.WideShapes Go.ChangeAt Go.RowKit Go.Lib
set_option linter.unusedVariables false
set_option linter.unusedSimpArgs false

set_option maxRecDepth 20000 in
set_option maxHeartbeats 4000000 in
theorem walk (x : N4) (sep : UInt8) (w : World) (hp : P10 w) : Calls Tryd.prog 4 #[x.v, .int .u8 (sep.toNat : Int)] w (RetBel (.bool true) w) := by
  have HP : Hid (P10 (w.alloc (Obj.cells #[V x.a, V x.b, V x.c, V x.d] 24))) := hp.bel (bel_alloc (bel_refl w) _)
  obtain ⟨S, hS⟩ : ∃ S : ByteArray, S = ⟨(pret sep (Lib.decDigits x.toNat)).toArray⟩ := ⟨_, rfl⟩
  have IP : Hid (∀ w, P10 w → Calls Tryd.prog 13 #[x.v, .int .u8 (sep.toNat : Int)] w (RetBel (.string S) w)) := fun w h => by rw [hS]; exact implPretty_any x sep w h
  have SP : Hid (∀ w, Calls Tryd.prog 14 #[x.v, .int .u8 (sep.toNat : Int)] w (RetBel (.string S) w)) := fun w => by rw [hS]; exact specPretty_any x sep w
  clear hS
  clear hp
  go_enter Tryd.func4, Tryd.ntmps4
  go_wp2
  refine wp_region_noPanic ?_
  refine wp_region_held_drew (S := (Keeps (w.heap.size + 1) (w.alloc (Obj.cells #[V x.a, V x.b, V x.c, V x.d] 24)))) (by kernel_rfl) (by exact Keeps.start _ _) (fun hHeld => ?_)
  refine hm_take (i := 0) (v := ?_) rfl rfl (by kernel_rfl) (by kernel_rfl) (by kernel_rfl) (fun _ _ _ h => h) rfl ?_ (by assumption) ?_
  rotate_left
  · (intro w hSw; (try dsimp only at hSw); go_simp; try with_reducible rfl)
  try simp only [Act.put, List.setIfInBounds_toArray, List.set_cons_zero, List.set_cons_succ]
  refine hm_take (i := 1) (v := ?_) rfl rfl (by kernel_rfl) (by kernel_rfl) (by kernel_rfl) (fun _ _ _ h => h) rfl ?_ (by assumption) ?_
  rotate_left
  · (intro w hSw; (try dsimp only at hSw); go_simp; try with_reducible rfl)
  try simp only [Act.put, List.setIfInBounds_toArray, List.set_cons_zero, List.set_cons_succ]
  refine hm_take (i := 3) (v := ?_) rfl rfl (by kernel_rfl) (by kernel_rfl) (by kernel_rfl) (fun _ _ _ h => h) rfl ?_ (by assumption) ?_
  rotate_left
  · (intro w hSw; (try dsimp only at hSw); go_simp; try with_reducible rfl)
  try simp only [Act.put, List.setIfInBounds_toArray, List.set_cons_zero, List.set_cons_succ]
  refine hm_take (i := 4) (v := ?_) rfl rfl (by kernel_rfl) (by kernel_rfl) (by kernel_rfl) (fun _ _ _ h => h) rfl ?_ (by assumption) ?_
  rotate_left
  · (intro w hSw; (try dsimp only at hSw); go_simp; try with_reducible rfl)
  try simp only [Act.put, List.setIfInBounds_toArray, List.set_cons_zero, List.set_cons_succ]
  refine hm_call (i := 2) rfl (by kernel_rfl) rfl (fun K hK => ?_)
  go_simp
  (go_at_call 13; refine (IP.out _ (HP.out.bel (by simpa using hHeld.2))).mono ?_; rintro e w1 ⟨rfl, hb⟩)
  (try go_wp2_with fail)
  refine hK.out _ _ (by (try dsimp only); first | assumption | exact Keeps.step (by assumption) (by simp) hb) (fun hHeld => ?_)
  clear hK K
  try simp only [Act.put, List.setIfInBounds_toArray, List.set_cons_zero, List.set_cons_succ]
  refine hm_call (i := 5) rfl (by kernel_rfl) rfl (fun K hK => ?_)
  go_simp
  (go_at_call 14; refine (SP.out _).mono ?_; rintro e w1 ⟨rfl, hb⟩)
  (try go_wp2_with fail)
  refine hK.out _ _ (by (try dsimp only); first | assumption | exact Keeps.step (by assumption) (by simp) hb) (fun hHeld => ?_)
  clear hK K
  try simp only [Act.put, List.setIfInBounds_toArray, List.set_cons_zero, List.set_cons_succ]
  refine hm_take (i := 6) (v := ?_) rfl rfl (by kernel_rfl) (by kernel_rfl) (by kernel_rfl) (fun _ _ _ h => h) rfl ?_ (by assumption) ?_
  rotate_left
  · (intro w hSw; (try dsimp only at hSw); go_simp; try with_reducible rfl)
  try simp only [Act.put, List.setIfInBounds_toArray, List.set_cons_zero, List.set_cons_succ]
  refine hm_take (i := 7) (v := ?_) rfl rfl (by kernel_rfl) (by kernel_rfl) (by kernel_rfl) (fun _ _ _ h => h) rfl ?_ (by assumption) ?_
  rotate_left
  · (intro w hSw; (try dsimp only at hSw); go_simp; try with_reducible rfl)
  try simp only [Act.put, List.setIfInBounds_toArray, List.set_cons_zero, List.set_cons_succ]
  refine wpAnyH_done (by kernel_rfl) ?_ _
  refine NoPanic.normal ?_
  go_wp2
  go_ret
  exact retBel rfl ((‹Keeps _ _ _›).bel (by omega) (bel_alloc (bel_refl w) _))

theorem own : ownKnob Tryd.prog.godebug = none := by kernel_rfl
theorem laidOut : laidOutB Tryd.prog = true := by kernel_rfl
theorem door_met (os : Os) (args : Array Value) : laidMetH Tryd.prog Rows.fnPrettyDecIsRow.laid ((World.doorLaid Tryd.prog 400 os).forCall (fun _ _ => 0) ⟨#[], args, []⟩).memory :=
  laidMetH_of_parts3 (fuel := 8) (laidMet_of_run' 8 (by kernel_rfl) (by kernel_rfl)) (by kernel_rfl) (by kernel_rfl)
set_option maxRecDepth 100000 in
theorem lifted (os : Os) (started : os.Started) (H : Type) (enc : TypeId × Value → H) :
    ReturnsInHanded {} Tryd.checked os 4 .any (fun w args => (Rows.fnPrettyDecIsSpec.pre enc Tryd.prog Tryd.f4 [] false w args ∧ laidMetH Tryd.prog Rows.fnPrettyDecIsRow.laid w) ∧ sizedMet enc Tryd.prog Tryd.f4 (OpenSpec.ofChange Rows.fnPrettyDecIsSpec) false w args)
      (Rows.fnPrettyDecIsSpec.post enc Tryd.prog Tryd.f4 false true false false) := by
  refine returnsInHanded_of_change_and (C := Tryd.checked) (X := fun w _ => laidMetH Tryd.prog Rows.fnPrettyDecIsRow.laid w) (fun _ _ _ hh h => h.of_heap hh) own started (by kernel_rfl) Tryd.func4
    (ChangeSpec.witness_shaped (enc := enc) (C := Tryd.checked) (os := os) (X := fun w _ => laidMetH Tryd.prog Rows.fnPrettyDecIsRow.laid w) false (World.doorLaid Tryd.prog 400 os) #[.agg #[.int .u64 0, .int .u64 0, .int .u64 0, .int .u64 0], .int .u8 0] 8 rfl (World.shaped_of_RefB (by kernel_rfl) (by kernel_rfl)) (by kernel_rfl) (by kernel_rfl) (by kernel_rfl) (door_met os _)) ?_
  intro W base args ds gs before hval0 hW _ _ hL _
  have hval : ∀ (j : Nat) t v, Tryd.f4.params[j]? = some t → args[j]? = some v → Value.okWide Tryd.prog W .any base t v := hval0
  have hW' := hW
  obtain ⟨p, q, hA0, hV, rfl, hfz, hnd⟩ := hW
  have hA : DataW.TrodAll enc Tryd.prog W 0 (fun _ => true) true Tryd.f4.params.toList args.toList ds p := hA0
  rw [Tryd.params4] at hA hval
  obtain ⟨v0, vs0, d0, ds0, p0, q0, hargs, rfl, rfl, h0, r0⟩ := trodAll_cons hA
  obtain ⟨v1, vs1, d1, ds1, p1, q1, rfl, rfl, rfl, h1, r1⟩ := trodAll_cons r0
  obtain ⟨rfl, rfl, rfl⟩ := trodAll_nil r1
  obtain rfl : args = #[v0, v1] := by cases args; simp_all
  have k0 := h0
  have lt0 : ∀ x ∈ p0, x.block < W.heap.size := by obtain ⟨m, hm⟩ := k0; exact DataW.trod_lt m _ _ _ hm
  obtain ⟨x0, rfl⟩ := open_num (hval 0 24 v0 rfl rfl)
  have k1 := h1
  have lt1 : ∀ x ∈ p1, x.block < W.heap.size := by obtain ⟨m, hm⟩ := k1; exact DataW.trod_lt m _ _ _ hm
  obtain ⟨x1, rfl⟩ := open_byte (hval 1 5 v1 rfl rfl)
  obtain ⟨rfl, rfl⟩ := trodVars_none hV
  clear hA0 hval0
  have hL2 : laidMet Tryd.prog Rows.fnPrettyDecIsRow.laid W := by rw [← MakeChecks.laidMetH_plain _ _ _ (by kernel_rfl)]; exact hL
  have hT : P10 W := p10_of (Go.Lib.laidMet.reads hL2 ((List.mem_cons_of_mem _ (List.mem_cons_of_mem _ List.mem_cons_self))))
  refine (walk x0 x1 W hT).mono fun e W' ⟨he, bel⟩ => ?_
  subst he
  exact ⟨_, rfl, _, _, _, [], _, [], hW', trodAll_mk1 (shut_bool Tryd.underlying4 _), (trodAll_cons_mk (Below.trod laidOut (by kernel_rfl) (of_decide_eq_true (by kernel_rfl)) k0 bel lt0) (trodAll_cons_mk (Below.trod laidOut (by kernel_rfl) (of_decide_eq_true (by kernel_rfl)) k1 bel lt1) trodAll_mk0)), rfl, bel.frame _, fun h => by cases h⟩
theorem row_holds : Rows.FnPrettyDecIsSaid :=
  OpenClaim.holds_of_wide 4 Tryd.f4 rfl rfl rfl rfl rfl rfl rfl ⟨rfl, rfl, rfl, rfl, rfl⟩ rfl rfl rfl rfl rfl (by kernel_rfl) Tryd.func4 (by kernel_rfl)
    (of_decide_eq_true (by kernel_rfl)) (by unfold Func.isWrapper; first | (rw [if_pos (by decide +kernel)]; kernel_rfl) | (rw [if_neg (by decide +kernel)]; exact ⟨rfl, rfl⟩))
    (fun os started H enc _ => lifted os started H enc)
theorem holds : Rows.FnPrettyDecIsCardSaid :=
  Claim7.holds_tied_plain_at .later [] _ true _ true
    row_holds (fun _ h => by cases h) (by kernel_rfl) (fun _ h => by cases h) fnPrettyDecIs_row_tie rfl ⟨rfl, rfl⟩ (by kernel_rfl) rfl
    (fun f fn hf hfn => by
      obtain rfl : f = 4 := Option.some.inj ((show Tryd.prog.funcNamed "loop.example/pub-g03023/laws.FnPrettyDecIs" = some 4 by kernel_rfl).symm.trans hf) |>.symm
      obtain rfl : fn = Tryd.f4 := (Option.some.inj (Tryd.func4.symm.trans hfn)).symm
      exact ⟨by kernel_rfl, fun j t ht => by
        rw [Tryd.params4] at ht
        have hm : t ∈ [24, 5] := by simpa using Array.mem_of_getElem? ht
        have hall : ([24, 5].all fun u => !Tryd.prog.wantsStandIn u) = true := by kernel_rfl
        exact (show Tryd.prog.wantsStandIn t = false by simpa using List.all_eq_true.1 hall t hm)⟩)
    (by kernel_rfl)
#print axioms holds
end Go.Proofs.YtbgmeppidedfbaaDoor.fnPrettyDecIs
