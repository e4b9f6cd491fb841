/-
  Plain laws for 64-bit words in walks, four-word numbers in memory, and how a law's arguments are opened.
-/
import Derived.Test.YtfaocjcpnjmfiaaGreatDoorProg
import Derived.WalkKit
import Derived.WalkSpells
import Derived.WalkLawsBesides
import Derived.BigQuiet
import Derived.Deep.QuietTactic
import Derived.Deep.RegionWith
import Derived.Deep.RegionHeld3
import Derived.Lib.Hide
import Derived.Shelf.Spec.BitsCarry
namespace Go.Proofs.YtfaocjcpnjmfiaaGreatDoor
open Go.RowKit

/-! ### words -/
abbrev W64 := BitVec 64
/-- A word as the model's number. Not reducible: the walk does not look inside. -/
def U (x : W64) : Int := (x.toNat : Int)

theorem U_lt (x : W64) : U x < 18446744073709551616 := by unfold U; have := x.isLt; omega
theorem U_nonneg (x : W64) : 0 ≤ U x := by unfold U; omega
theorem U_inj {x y : W64} (h : U x = U y) : x = y := by
  unfold U at h; exact BitVec.eq_of_toNat_eq (by omega)
theorem U_ofNat (n : Nat) (h : n < 18446744073709551616) : U (BitVec.ofNat 64 n) = (n : Int) := by
  unfold U; rw [BitVec.toNat_ofNat, Nat.mod_eq_of_lt h]
theorem U_of_wf (n : Int) (h : (Lit.int .u64 n).wf = true) : ∃ x : W64, n = U x := by
  have hb : 0 ≤ n ∧ n ≤ 18446744073709551615 := by
    simp [Lit.wf, IntKind.min, IntKind.max, IntKind.signed, IntKind.bits] at h
    omega
  exact ⟨BitVec.ofNat 64 n.toNat, by rw [U_ofNat _ (by omega)]; omega⟩

theorem u64_or (x y : W64) : bits BinOp.or IntKind.u64 (U x) (U y) = U (x ||| y) := by
  unfold U; rw [bits_or_u64_nat _ _ x.isLt y.isLt]; simp
theorem u64_and (x y : W64) : bits BinOp.and IntKind.u64 (U x) (U y) = U (x &&& y) := by
  unfold U; rw [bits_and_u64_nat _ _ x.isLt y.isLt]; simp
theorem u64_xor (x y : W64) : bits BinOp.xor IntKind.u64 (U x) (U y) = U (x ^^^ y) := by
  unfold U; rw [bits_xor_u64_nat _ _ x.isLt y.isLt]; simp
theorem u64_zero (x : W64) : (U x == 0) = (x == 0#64) := by
  unfold U; rw [Bool.eq_iff_iff]; simp [BitVec.toNat_eq]
theorem u64_nzero (x : W64) : (U x != 0) = (x != 0#64) := by
  simp only [bne, u64_zero]
theorem u64_eq (x y : W64) : (U x == U y) = (x == y) := by
  unfold U; rw [Bool.eq_iff_iff]; simp only [beq_iff_eq, BitVec.toNat_eq]; omega
theorem u64_ne (x y : W64) : (U x != U y) = (x != y) := by
  simp only [bne, u64_eq]
theorem u64_lt (x y : W64) : (U x < U y) ↔ x < y := by
  unfold U; rw [BitVec.lt_def]; omega
theorem u64_le (x y : W64) : (U x ≤ U y) ↔ x ≤ y := by
  unfold U; rw [BitVec.le_def]; omega
theorem u64_add (x y : W64) : IntKind.u64.wrap (U x + U y) = U (x + y) := by
  unfold U; rw [IntKind.wrap_u64]; simp
theorem u64_sub (x y : W64) : IntKind.u64.wrap (U x - U y) = U (x - y) := by
  unfold U; rw [IntKind.wrap_u64, BitVec.toNat_sub]; have := x.isLt; have := y.isLt; omega
theorem u64_mul (x y : W64) : IntKind.u64.wrap (U x * U y) = U (x * y) := by
  unfold U; rw [IntKind.wrap_u64, BitVec.toNat_mul]; simp
theorem u64_not (x : W64) : IntKind.u64.wrap (-U x - 1) = U (~~~x) := by
  unfold U; rw [IntKind.wrap_u64, BitVec.toNat_not]; have := x.isLt; omega
theorem u64_signed : IntKind.u64.signed = false := rfl
theorem u64_xormax (x : W64) : bits BinOp.xor IntKind.u64 IntKind.u64.max (U x) = U (~~~x) := by
  have h : IntKind.u64.max = U (BitVec.allOnes 64) := rfl
  rw [h, u64_xor]
  congr 1
theorem u64_one (x : W64) : (U x == 1) = (x == 1#64) := by
  unfold U; rw [Bool.eq_iff_iff]; simp only [beq_iff_eq, ← BitVec.toNat_inj, BitVec.toNat_ofNat]; omega
theorem u64_div63 (x : W64) : U x / (9223372036854775808 : Int) = U (x >>> (63 : Nat)) := by
  unfold U; rw [BitVec.toNat_ushiftRight, Nat.shiftRight_eq_div_pow]; omega
attribute [go_sem] u64_signed u64_xormax u64_one u64_div63
attribute [go_sem] u64_or u64_and u64_xor u64_zero u64_nzero u64_eq u64_ne u64_lt u64_le u64_add u64_sub u64_mul u64_not

/-! ### four-word numbers -/
structure N4 where
  a : W64
  b : W64
  c : W64
  d : W64

theorem N4.ext' {x y : N4} (h0 : x.a = y.a) (h1 : x.b = y.b) (h2 : x.c = y.c) (h3 : x.d = y.d) : x = y := by
  cases x; cases y; simp_all

instance : DecidableEq N4 := fun x y =>
  if h : x.a = y.a ∧ x.b = y.b ∧ x.c = y.c ∧ x.d = y.d then isTrue (N4.ext' h.1 h.2.1 h.2.2.1 h.2.2.2)
  else isFalse (fun e => h (by subst e; exact ⟨rfl, rfl, rfl, rfl⟩))

def N4.toNat (x : N4) : Nat := x.a.toNat + 2 ^ 64 * x.b.toNat + 2 ^ 128 * x.c.toNat + 2 ^ 192 * x.d.toNat
/-- A word as a value; a number as a struct's or an array's value. -/
abbrev V (x : W64) : Value := .int .u64 (U x)
abbrev N4.v (x : N4) : Value := .agg #[V x.a, V x.b, V x.c, V x.d]

/-- Four numbers. -/
structure C4 where
  a : N4
  b : N4
  c : N4
  d : N4
abbrev C4.v (k : C4) : Value := .agg #[V k.a.a, V k.a.b, V k.a.c, V k.a.d, V k.b.a, V k.b.b, V k.b.c, V k.b.d, V k.c.a, V k.c.b, V k.c.c, V k.c.d, V k.d.a, V k.d.b, V k.d.c, V k.d.d]
/-- Four ways. -/
structure W4 where
  z : Int
  x : Int
  y : Int
  m : Int
abbrev W4.v (k : W4) : Value := .agg #[.int .i64 k.z, .int .i64 k.x, .int .i64 k.y, .int .i64 k.m]
def I64 (n : Int) : Prop := -9223372036854775808 ≤ n ∧ n ≤ 9223372036854775807
def W4.ok (k : W4) : Prop := I64 k.z ∧ I64 k.x ∧ I64 k.y ∧ I64 k.m


/-- The four cells at block b from o on hold the number x. -/
structure At4 (w : World) (b o : Nat) (x : N4) : Prop where
  c0 : w.cell? ⟨b, o, none⟩ = some (V x.a)
  c1 : w.cell? ⟨b, o + 1, none⟩ = some (V x.b)
  c2 : w.cell? ⟨b, o + 2, none⟩ = some (V x.c)
  c3 : w.cell? ⟨b, o + 3, none⟩ = some (V x.d)
/-- .. and none of them is frozen. -/
structure Free4 (w : World) (b o : Nat) : Prop where
  f0 : w.frozen? ⟨b, o, none⟩ = false
  f1 : w.frozen? ⟨b, o + 1, none⟩ = false
  f2 : w.frozen? ⟨b, o + 2, none⟩ = false
  f3 : w.frozen? ⟨b, o + 3, none⟩ = false

/-- Two numbers lie at one place, or apart. -/
def Sep (b o c p : Nat) : Prop := b = c → (o = p ∨ o + 4 ≤ p ∨ p + 4 ≤ o)

theorem Sep.rfl' (b o : Nat) : Sep b o b o := fun _ => .inl rfl
theorem Sep.symm {b o c p : Nat} (h : Sep b o c p) : Sep c p b o := fun e => by
  rcases h e.symm with h | h | h
  · exact .inl h.symm
  · exact .inr (.inr h)
  · exact .inr (.inl h)
theorem Sep.blocks {b o c p : Nat} (h : b ≠ c) : Sep b o c p := fun e => absurd e h

theorem Sep.cell {b o c p : Nat} (h : Sep b o c p) (i j : Nat) (hi : i < 4) (hj : j < 4) (hij : i ≠ j) (w : World) (v : Value) :
    (w.setCell ⟨b, o + i, none⟩ v).cell? ⟨c, p + j, none⟩ = w.cell? ⟨c, p + j, none⟩ := by
  refine World.cell?_setCell_other w _ _ v (fun e => ?_)
  injection e with e1 e2
  rcases h e1 with h | h | h <;> omega
/-- What the walk needs of two places: a store into one word leaves the others of both. -/
structure SepF (b o c p : Nat) : Prop where
  e01 : ∀ (w : World) v, (w.setCell ⟨b, o, none⟩ v).cell? ⟨c, p + 1, none⟩ = w.cell? ⟨c, p + 1, none⟩
  e02 : ∀ (w : World) v, (w.setCell ⟨b, o, none⟩ v).cell? ⟨c, p + 2, none⟩ = w.cell? ⟨c, p + 2, none⟩
  e03 : ∀ (w : World) v, (w.setCell ⟨b, o, none⟩ v).cell? ⟨c, p + 3, none⟩ = w.cell? ⟨c, p + 3, none⟩
  e10 : ∀ (w : World) v, (w.setCell ⟨b, o + 1, none⟩ v).cell? ⟨c, p, none⟩ = w.cell? ⟨c, p, none⟩
  e12 : ∀ (w : World) v, (w.setCell ⟨b, o + 1, none⟩ v).cell? ⟨c, p + 2, none⟩ = w.cell? ⟨c, p + 2, none⟩
  e13 : ∀ (w : World) v, (w.setCell ⟨b, o + 1, none⟩ v).cell? ⟨c, p + 3, none⟩ = w.cell? ⟨c, p + 3, none⟩
  e20 : ∀ (w : World) v, (w.setCell ⟨b, o + 2, none⟩ v).cell? ⟨c, p, none⟩ = w.cell? ⟨c, p, none⟩
  e21 : ∀ (w : World) v, (w.setCell ⟨b, o + 2, none⟩ v).cell? ⟨c, p + 1, none⟩ = w.cell? ⟨c, p + 1, none⟩
  e23 : ∀ (w : World) v, (w.setCell ⟨b, o + 2, none⟩ v).cell? ⟨c, p + 3, none⟩ = w.cell? ⟨c, p + 3, none⟩
  e30 : ∀ (w : World) v, (w.setCell ⟨b, o + 3, none⟩ v).cell? ⟨c, p, none⟩ = w.cell? ⟨c, p, none⟩
  e31 : ∀ (w : World) v, (w.setCell ⟨b, o + 3, none⟩ v).cell? ⟨c, p + 1, none⟩ = w.cell? ⟨c, p + 1, none⟩
  e32 : ∀ (w : World) v, (w.setCell ⟨b, o + 3, none⟩ v).cell? ⟨c, p + 2, none⟩ = w.cell? ⟨c, p + 2, none⟩
theorem Sep.facts {b o c p : Nat} (h : Sep b o c p) : SepF b o c p :=
  ⟨h.cell 0 1 (by omega) (by omega) (by omega), h.cell 0 2 (by omega) (by omega) (by omega), h.cell 0 3 (by omega) (by omega) (by omega),
   h.cell 1 0 (by omega) (by omega) (by omega), h.cell 1 2 (by omega) (by omega) (by omega), h.cell 1 3 (by omega) (by omega) (by omega),
   h.cell 2 0 (by omega) (by omega) (by omega), h.cell 2 1 (by omega) (by omega) (by omega), h.cell 2 3 (by omega) (by omega) (by omega),
   h.cell 3 0 (by omega) (by omega) (by omega), h.cell 3 1 (by omega) (by omega) (by omega), h.cell 3 2 (by omega) (by omega) (by omega)⟩

/-- The world with the number z stored at block b from o on. -/
def put4 (w : World) (b o : Nat) (z : N4) : World :=
  (((w.setCell ⟨b, o, none⟩ (V z.a)).setCell ⟨b, o + 1, none⟩ (V z.b)).setCell ⟨b, o + 2, none⟩ (V z.c)).setCell ⟨b, o + 3, none⟩ (V z.d)

theorem setCell_comm (w : World) (p q : Addr) (u v : Value) (h : p ≠ q) : (w.setCell p u).setCell q v = (w.setCell q v).setCell p u := by
  unfold World.setCell
  dsimp only
  congr 1
  apply Array.ext_getElem?
  intro i
  simp only [Array.getElem?_modify]
  by_cases hp : p.block = i
  · by_cases hq : q.block = i
    · simp only [hp, hq, if_true]
      cases w.heap[i]? with
      | none => rfl
      | some o =>
        simp only [Option.map_some]
        cases o <;> try rfl
        rename_i c e f
        simp only [Option.some.injEq, Obj.cells.injEq, and_true]
        by_cases sp : p.spot.isSome = true <;> by_cases sq : q.spot.isSome = true <;> simp only [sp, sq, if_true, if_false, Bool.false_eq_true]
        have hoff : p.off ≠ q.off := by
          intro ho
          apply h
          cases p; cases q
          simp_all
        rw [Array.setIfInBounds_comm _ _ hoff]
    · simp only [hp, hq, if_true, if_false]
  · by_cases hq : q.block = i
    · simp only [hp, hq, if_true, if_false]
    · simp only [hp, hq, if_false]
theorem setCell_again (w : World) (p : Addr) (u v : Value) : (w.setCell p u).setCell p v = w.setCell p v := by
  unfold World.setCell
  dsimp only
  congr 1
  apply Array.ext_getElem?
  intro i
  simp only [Array.getElem?_modify]
  by_cases hp : p.block = i
  · simp only [hp, if_true]
    cases w.heap[i]? with
    | none => rfl
    | some o =>
      simp only [Option.map_some]
      cases o <;> try rfl
      rename_i c e f
      simp only [Option.some.injEq, Obj.cells.injEq, and_true]
      by_cases sp : p.spot.isSome = true <;> simp only [sp, if_true, if_false, Bool.false_eq_true]
      apply Array.ext_getElem?
      intro j
      simp only [Array.getElem?_setIfInBounds, Array.size_setIfInBounds]
      by_cases hj : p.off = j <;> simp [hj]
  · simp only [hp, if_false]
end Go.Proofs.YtfaocjcpnjmfiaaGreatDoor
