/-
  Slices that read as lists of bytes: from rows of the call's own, cut, appended, as strings.
-/
import Derived.Test.YtfaocjcpnjmfiaaGreatDoorByt0
import Derived.Laws.OwnMore
import Derived.Laws.IdiomStrings
namespace Go.Proofs.YtfaocjcpnjmfiaaGreatDoor
open Go.RowKit
set_option linter.unusedVariables false

/-- The value v is a slice of bytes that reads as the list l. -/
def SlB (w : World) (v : Value) (l : List UInt8) : Prop :=
  ∃ A cap, v = .slice A l.length cap ∧ l.length ≤ cap ∧ ∀ (i : Nat) (b : UInt8), l[i]? = some b → ∃ g o, A = some ⟨g, o, none⟩ ∧ w.cell? ⟨g, o + i, none⟩ = some (.int .u8 (b.toNat : Int))
theorem SlB.keep {w w' : World} {v : Value} {l : List UInt8} (h : SlB w v l) (k : ∀ g o u, w.cell? ⟨g, o, none⟩ = some u → w'.cell? ⟨g, o, none⟩ = some u) : SlB w' v l := by
  obtain ⟨A, cap, e, hc, h⟩ := h
  exact ⟨A, cap, e, hc, fun i d hd => by obtain ⟨b, o, e1, h1⟩ := h i d hd; exact ⟨b, o, e1, k _ _ _ h1⟩⟩
theorem SlB.bel {w w' : World} {v : Value} {l : List UInt8} (h : SlB w v l) (k : Below w.heap.size w w') : SlB w' v l := h.keep fun g o u hu => bel_cell k hu
theorem SlB.drewN {w : World} {v : Value} {l : List UInt8} (h : SlB w v l) (n : Nat) : SlB (w.drewN n) v l := h
theorem SlB.drew {w : World} {v : Value} {l : List UInt8} (h : SlB w v l) : SlB w.drew v l := h
theorem SlB.alloc {w : World} {v : Value} {l : List UInt8} (h : SlB w v l) (o : Obj) : SlB (w.alloc o) v l := h.bel (bel_alloc (bel_refl w) o)
theorem bytes_get (l : List UInt8) (i : Nat) (d : UInt8) (h : l[i]? = some d) : (Lib.byteCells l)[i]? = some (.int .u8 (d.toNat : Int)) := by simp [Lib.byteCells, h]
theorem SlB.of_own {w : World} {base e : Nat} {v : Value} {l : List UInt8} (h : w.ownsRow base e 1 v l.length (Lib.byteCells l)) : SlB w v l := by
  have h2 := h
  rcases h.2 with ⟨rfl, hn⟩ | ⟨g, cap, cur, rfl, _, _, hc, _⟩
  · have : l = [] := List.eq_nil_of_length_eq_zero hn
    subst this
    exact ⟨none, 0, rfl, Nat.le_refl _, fun i d hd => by simp at hd⟩
  · refine ⟨_, cap, rfl, hc, fun i d hd => ⟨g, 0, rfl, ?_⟩⟩
    have := h2.cells (g := g) rfl i _ (bytes_get l i d hd)
    rw [Addr.add_mid] at this
    exact this
theorem SlB.nil (w : World) : SlB w (.slice none 0 0) [] := ⟨none, 0, rfl, Nat.le_refl _, fun i d hd => by simp at hd⟩
/-- Of a slice that is cut from k on. -/
theorem SlB.cut {w : World} {A : Option Addr} {n cap : Nat} {l : List UInt8} (h : SlB w (.slice A n cap) l) (k : Nat) (hk : k ≤ n) :
    SlB w (.slice (if cap = k then A else A.map (·.add (k * 1))) (n - k) (cap - k)) (l.drop k) := by
  obtain ⟨A', cap', e, hc, h⟩ := h
  injection e with e1 e2 e3
  subst e1 e2 e3
  refine ⟨_, _, by rw [List.length_drop], by rw [List.length_drop]; omega, fun i d hd => ?_⟩
  rw [List.getElem?_drop] at hd
  obtain ⟨g, o, rfl, hcell⟩ := h _ d hd
  have hlt := (List.getElem?_eq_some_iff.1 hd).1
  rw [if_neg (by omega)]
  refine ⟨g, o + k, by rw [Nat.mul_one]; simp [Addr.add], ?_⟩
  rw [show o + k + i = o + (k + i) by omega]
  exact hcell
/-- Its string. -/
theorem run_convert_slb {P : Program} (w : World) (src dst e : TypeId) {v : Value} {l : List UInt8} (hs : P.underlying src = some (.slice e)) (he : P.underlying e = some (.int .u8)) (hd : P.underlying dst = some .string) (h : SlB w v l) :
    (convert src dst v).run P w = .ok (.string ⟨l.toArray⟩) w := by
  obtain ⟨A, cap, rfl, hc, h⟩ := h
  cases l with
  | nil =>
    rw [run_convert_bytes_string w src dst e A _ cap hs he hd]
    cases A with
    | none => rfl
    | some a => exact run_bytesToString w a 0 cap [] rfl
  | cons b l =>
    obtain ⟨g, o, rfl, _⟩ := h 0 b rfl
    refine run_convert_bytes_back w src dst e ⟨g, o, none⟩ cap (b :: l) hs he hd fun j hj => ?_
    obtain ⟨g', o', e1, h1⟩ := h j _ (List.getElem?_eq_getElem hj)
    injection e1 with e1
    injection e1 with e1 e2
    subst e1 e2
    rw [Addr.add_lit]
    exact h1
theorem str_beq (l m : List UInt8) : ((⟨l.toArray⟩ : ByteArray) == ⟨m.toArray⟩) = (l == m) := by
  show (l.toArray == m.toArray) = _
  simp
/-- append of a slice that reads as a list, onto a row of the call's own. -/
theorem run_append_slb {P : Program} (w : World) (base : Nat) (t ty e : TypeId) (i : TypeInfo) (ht : P.underlying t = some (.slice e)) (hi : P.info? e = some i) (hz : i.zero = some (.int .u8 0))
    (hsize : i.size = 1) (hby : i.bytes = 1) (v : Value) (n : Nat) (xs : List Value) (hown : w.ownsRow base e 1 v n xs) (u : Value) (l : List UInt8) (hu : SlB w u l)
    (hbytes : n + l.length ≤ 140737488355328) (hbase : base ≤ w.heap.size) :
    ∃ v' w', (Builtin.append_ #[t, t] ty #[v, u]).run P w = .ok v' w' ∧ w'.ownsRow base e 1 v' (n + l.length) (xs ++ Lib.byteCells l) ∧ w.grownBy w' v.ownBlock := by
  obtain ⟨A, cap, rfl, hc, h⟩ := hu
  cases l with
  | nil =>
    cases A with
    | none =>
      refine ⟨v, w, ?_, by simpa [Lib.byteCells] using hown, World.grownBy.refl w _⟩
      rcases hown.2 with ⟨rfl, rfl⟩ | ⟨g, cap, cur, rfl, _, _, hnc, _⟩
      · simp [Builtin.append_, run_underlying ht, sizeOf, typeInfo, hi, Builtin.lenOf, Builtin.firstCells]
      · simp [Builtin.append_, run_underlying ht, sizeOf, typeInfo, hi, Builtin.lenOf, Builtin.firstCells, hnc, storeCells]
    | some a =>
      obtain ⟨v', w', h1, h2, h3, _⟩ := run_append_own (P := P) w base t ty e i (.int .u8 0) 1 1 ht hi hz hsize hby rfl (by decide) v n xs hown a 0 cap [] rfl (fun j x hx => by simp at hx) (fun x hx => by simp at hx) (by unfold maxLen; simp at hbytes; omega) (by simpa using hbytes) hbase
      exact ⟨v', w', h1, h2, h3⟩
  | cons b l =>
    obtain ⟨g, o, rfl, _⟩ := h 0 b rfl
    obtain ⟨v', w', h1, h2, h3, _⟩ := run_append_own (P := P) w base t ty e i (.int .u8 0) 1 1 ht hi hz hsize hby rfl (by decide) v n xs hown ⟨g, o, none⟩ (b :: l).length cap (Lib.byteCells (b :: l)) (by rw [Lib.byteCells_length, Nat.mul_one]) (fun j x hx => by
        obtain ⟨d, hd, rfl⟩ : ∃ d : UInt8, (b :: l)[j]? = some d ∧ x = .int .u8 (d.toNat : Int) := by
          simp only [Lib.byteCells, List.getElem?_map, Option.map_eq_some_iff] at hx
          obtain ⟨d, hd, rfl⟩ := hx
          exact ⟨d, hd, rfl⟩
        obtain ⟨g', o', e1, h1⟩ := h j d hd
        injection e1 with e1
        injection e1 with e1 e2
        subst e1 e2
        rw [Addr.add_lit]
        exact h1) (fun x hx => by
        simp only [Lib.byteCells, List.mem_map] at hx
        obtain ⟨d, _, rfl⟩ := hx
        rfl) (by unfold maxLen; omega) (by omega) hbase
    exact ⟨v', w', h1, h2, h3⟩
theorem wpList_append_slb {P : Program} (w : World) {ops : Array Oper} {rest : List Oper} {o : Oper} {a : Act} {Q : Exit → Act → World → Prop} (hgd : o.guard = none) (s x : Operand) (t : TypeId)
    (ho : o.op = .call { callee := .builtin .append, args := #[s, x], argTypes := #[t, t] })
    (base : Nat) (e : TypeId) (i : TypeInfo) (ht : P.underlying t = some (.slice e)) (hi : P.info? e = some i) (hz : i.zero = some (.int .u8 0)) (hsize : i.size = 1) (hby : i.bytes = 1)
    (v : Value) (n : Nat) (xs : List Value) (hs : a.eval s = v) (hown : w.ownsRow base e 1 v n xs) (u : Value) (l : List UInt8) (hx : a.eval x = u) (hu : SlB w u l)
    (hbytes : n + l.length ≤ 140737488355328) (hbase : base ≤ w.heap.size)
    (h : ∀ v' w', w'.ownsRow base e 1 v' (n + l.length) (xs ++ Lib.byteCells l) → w.grownBy w' v.ownBlock → wpList P ops Q rest (a.put o.dst v') w') : wpList P ops Q (o :: rest) a w := by
  refine wpList_plain hgd fun K hK => ?_
  obtain ⟨v', w', hrun, h2, h3⟩ := run_append_slb (P := P) w base t o.type e i ht hi hz hsize hby v n xs hown u l hu hbytes hbase
  unfold Oper.wp execOp
  simp only [ho, resolve, invoke, builtin, Sem.run_bind, Sem.run_pure, Result.andThen_ok, List.map_toArray, List.map_cons, List.map_nil, hs, hx, hrun]
  exact hK _ _ (h v' w' h2 h3)
end Go.Proofs.YtfaocjcpnjmfiaaGreatDoor
