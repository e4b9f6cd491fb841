/-
  Whole numbers as lists of digits: slices that read as lists, the reference's at and Compare; the plain comparison of digits.
-/
import Derived.Test.YtfaocjcpnjmfiaaDoorSpec0
namespace Go.Proofs.YtfaocjcpnjmfiaaDoor
open Go.RowKit
set_option linter.unusedVariables false

/-- The value v is a slice of ints that reads as the list l of natural numbers. -/
def Sl (w : World) (v : Value) (l : List Nat) : Prop :=
  ∃ A cap, v = .slice A l.length cap ∧ l.length ≤ cap ∧ ∀ i d : Nat, l[i]? = some d → ∃ b o, A = some ⟨b, o, none⟩ ∧ w.cell? ⟨b, o + i, none⟩ = some (.int .i64 (d : Int))
theorem Sl.bel {w w' : World} {v : Value} {l : List Nat} (h : Sl w v l) (k : Below w.heap.size w w') : Sl w' v l := by
  obtain ⟨A, cap, e, hc, h⟩ := h
  exact ⟨A, cap, e, hc, fun i d hd => by obtain ⟨b, o, e1, h1⟩ := h i d hd; exact ⟨b, o, e1, bel_cell k h1⟩⟩
theorem Sl.drewN {w : World} {v : Value} {l : List Nat} (h : Sl w v l) (n : Nat) : Sl (w.drewN n) v l := h
def ints (l : List Nat) : List Value := l.map fun d : Nat => Value.int .i64 (d : Int)
theorem ints_get (l : List Nat) (i : Nat) (d : Nat) (h : l[i]? = some d) : (ints l)[i]? = some (.int .i64 (d : Int)) := by simp [ints, h]
theorem Sl.of_own {w : World} {base e : Nat} {v : Value} {l : List Nat} (h : w.ownsRow base e 1 v l.length (ints l)) : Sl w v l := by
  have h2 := h
  rcases h.2 with ⟨rfl, hn⟩ | ⟨g, cap, cur, rfl, _, _, hc, _⟩
  · have : l = [] := List.eq_nil_of_length_eq_zero hn
    subst this
    exact ⟨none, 0, rfl, Nat.le_refl _, fun i d hd => by simp at hd⟩
  · refine ⟨_, cap, rfl, hc, fun i d hd => ⟨g, 0, rfl, ?_⟩⟩
    have := h2.cells (g := g) rfl i _ (ints_get l i d hd)
    rw [Addr.add_mid] at this
    exact this
theorem Sl.nil (w : World) : Sl w (.slice none 0 0) [] := ⟨none, 0, rfl, Nat.le_refl _, fun i d hd => by simp at hd⟩

/-- A digit, 0 behind the end. -/
def dig (l : List Nat) (i : Nat) : Nat := l.getD i 0
theorem dig_lt {l : List Nat} (h : ∀ d ∈ l, d < 65536) (i : Nat) : dig l i < 65536 := by
  unfold dig
  rw [List.getD_eq_getElem?_getD]
  cases hi : l[i]? with
  | none => simp
  | some d => simpa using h d (List.mem_of_getElem? hi)
set_option maxHeartbeats 400000 in
theorem at_any (v : Value) (l : List Nat) (i : Int) (w : World) (hs : Sl w v l) (hl : l.length ≤ 1000000) (h0 : 0 ≤ i) (h1 : i ≤ 1000000) :
    Calls Tryd.prog 28 #[v, .int .i64 i] w fun e w' => e = .returned (.int .i64 (dig l i.toNat : Nat)) ∧ w = w' := by
  obtain ⟨A, cap, rfl, hcap, hc⟩ := hs
  obtain ⟨k, rfl⟩ := Int.eq_ofNat_of_zero_le h0
  rw [Int.toNat_natCast]
  by_cases hk : k < l.length
  · obtain ⟨d, hd⟩ : ∃ d, l[k]? = some d := ⟨_, List.getElem?_eq_getElem hk⟩
    obtain ⟨b, o, rfl, hcell⟩ := hc k d hd
    have K : Hid (dig l k = d) := by show dig l k = d; unfold dig; rw [List.getD_eq_getElem?_getD, hd]; rfl
    clear hc hd
    generalize l.length = n at *
    go_enter Tryd.func28, Tryd.ntmps28
    go_wp2
    go_ret
    rw [K.out]
    exact ⟨rfl, rfl⟩
  · have K : Hid (dig l k = 0) := by show dig l k = 0; unfold dig; rw [List.getD_eq_getElem?_getD, List.getElem?_eq_none (by omega)]; rfl
    clear hc
    generalize l.length = n at *
    go_enter Tryd.func28, Tryd.ntmps28
    go_wp2
    go_ret
    rw [K.out]
    exact ⟨rfl, rfl⟩
/-- Comparison of the digits below n, from the highest one down. -/
def cmpBelow (a b : List Nat) : Nat → Int
  | 0 => 0
  | n + 1 => if dig a n < dig b n then -1 else if dig b n < dig a n then 1 else cmpBelow a b n
set_option maxHeartbeats 1000000 in
theorem compare_any (v u : Value) (a b : List Nat) (w : World) (ha : Sl w v a) (hb : Sl w u b) (la : a.length ≤ 1000000) (lb : b.length ≤ 1000000) :
    Calls Tryd.prog 36 #[v, u] w fun e w' => e = .returned (.int .i64 (cmpBelow a b (max a.length b.length))) ∧ w = w' := by
  have Ha := Lib.hid ha
  have Hb := Lib.hid hb
  obtain ⟨A, capa, rfl, _, _⟩ := ha
  obtain ⟨B, capb, rfl, _, _⟩ := hb
  obtain ⟨M, hM⟩ : ∃ M, M = max a.length b.length := ⟨_, rfl⟩
  have hm : M ≤ 1000000 := by omega
  rw [← hM]
  have HM := Lib.hid hM
  clear hM
  by_cases hlt : a.length < b.length
  all_goals
    go_enter Tryd.func36, Tryd.ntmps36
    go_wp2
    go_loop [5] (fun t => ∃ i : Int, -1 ≤ i ∧ i < M ∧ t = .int .i64 i ∧ Hid (cmpBelow a b M = cmpBelow a b (i + 1).toNat)) (fun t => (intOf t + 1).toNat)
    case atStart =>
      have hMv := HM.out
      refine ⟨(M : Int) - 1, by omega, by omega, ?_, ?_⟩
      · first | (congr 1; omega) | (congr 2; omega)
      · show cmpBelow a b M = _
        congr 1
        omega
    case round =>
      obtain ⟨i, h1, h2, rfl, HI⟩ := hrel
      by_cases hi : 0 ≤ i
      · obtain ⟨k, rfl⟩ := Int.eq_ofNat_of_zero_le hi
        have E : Hid (cmpBelow a b M = if dig a k < dig b k then -1 else if dig b k < dig a k then 1 else cmpBelow a b k) := by
          show cmpBelow a b M = _
          rw [HI.out, show ((k : Int) + 1).toNat = k + 1 by omega]
          rfl
        clear HI
        by_cases c1 : dig a k < dig b k
        · go_wp2_with (go_at_call 28; (first | (with_reducible refine (at_any _ a _ _ Ha.out la (by omega) (by omega)).mono ?_) | (with_reducible refine (at_any _ b _ _ Hb.out lb (by omega) (by omega)).mono ?_)); rintro e w' ⟨rfl, rfl⟩)
          go_ret
          rw [E.out, if_pos c1]
          exact ⟨rfl, rfl⟩
        · by_cases c2 : dig b k < dig a k
          · go_wp2_with (go_at_call 28; (first | (with_reducible refine (at_any _ a _ _ Ha.out la (by omega) (by omega)).mono ?_) | (with_reducible refine (at_any _ b _ _ Hb.out lb (by omega) (by omega)).mono ?_)); rintro e w' ⟨rfl, rfl⟩)
            go_ret
            rw [E.out, if_neg c1, if_pos c2]
            exact ⟨rfl, rfl⟩
          · go_wp2_with (go_at_call 28; (first | (with_reducible refine (at_any _ a _ _ Ha.out la (by omega) (by omega)).mono ?_) | (with_reducible refine (at_any _ b _ _ Hb.out lb (by omega) (by omega)).mono ?_)); rintro e w' ⟨rfl, rfl⟩)
            go_round
            case rel =>
              refine ⟨(k : Int) - 1, by omega, by omega, rfl, ?_⟩
              show cmpBelow a b M = _
              rw [E.out, if_neg c1, if_neg c2]
              congr 1
              omega
            case measure => simp [intOf] <;> omega
      · have E : Hid (cmpBelow a b M = 0) := by
          show cmpBelow a b M = 0
          rw [HI.out, show (i + 1).toNat = 0 by omega]
          rfl
        clear HI
        go_wp2
        go_ret
        rw [E.out]
        exact ⟨rfl, rfl⟩
end Go.Proofs.YtfaocjcpnjmfiaaDoor
