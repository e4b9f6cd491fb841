/-
  Generic laws for the thin package's functions over cells.
-/
import Derived.Test.YtfaocjcpnjmfiaaGreatDoorDesk3
import Derived.Test.YtfaocjcpnjmfiaaGreatDoorWrite2
namespace Go.Proofs.YtfaocjcpnjmfiaaGreatDoor
open Go.RowKit
set_option linter.unusedVariables false
theorem Desk.drewN {w : World} {d bc : Nat} {k : W4} {c : C4} (h : Desk w d bc k c) (n : Nat) : Desk (w.drewN n) d bc k c :=
  ⟨h.ne, ⟨h.ptrs.p0, h.ptrs.p1, h.ptrs.p2, h.ptrs.p3, h.ptrs.p4⟩, ⟨h.cells.ca.drewN n, h.cells.cb.drewN n, h.cells.cc.drewN n, h.cells.cd.drewN n, h.cells.fa.drewN n, h.cells.fb.drewN n, h.cells.fc.drewN n, h.cells.fd.drewN n⟩⟩
theorem Desk.put {w : World} {d bc : Nat} {k : W4} {c : C4} (h : Desk w d bc k c) (n : Int) (x : N4) : Desk (put4 w bc (off4 n) x) d bc k (c.put (ix n) x) :=
  ⟨h.ne, h.ptrs.put h.ne _ _, h.cells.put n x⟩
theorem Desk.bel {w w' : World} {d bc : Nat} {k : W4} {c : C4} (h : Desk w d bc k c) (e : Below w.heap.size w w') : Desk w' d bc k c := ⟨h.ne, h.ptrs.bel e, h.cells.bel e⟩
theorem Desk.lt {w : World} {d bc : Nat} {k : W4} {c : C4} (h : Desk w d bc k c) : bc < w.heap.size := h.cells.ca.lt
theorem there_at (w : World) (t : TypeId) (cs : Array Value) (n g : Nat) (hn : n ≤ cs.size) (hg : g = w.heap.size) : (w.alloc (.cells cs t)).there g 0 n := by
  subst hg; exact there_new w t cs n hn
theorem there_set {w : World} {b o n : Nat} (h : w.there b o n) (p q : Nat) (v : Value) : (w.setCell ⟨p, q, none⟩ v).there b o n := World.there_setCells h p q [v]
theorem there_put4 {w : World} {b o n : Nat} (h : w.there b o n) (p q : Nat) (x : N4) : (put4 w p q x).there b o n :=
  there_set (there_set (there_set (there_set h p q _) p (q + 1) _) p (q + 2) _) p (q + 3) _
theorem there_drewN {w : World} {b o n : Nat} (h : w.there b o n) (m : Nat) : (w.drewN m).there b o n := h

/-- What a call over the desk leaves: the receiver's cell holds z, all else below is as it was, memory has grown. -/
structure CallLeft (W : World) (bc : Nat) (o : Nat) (z : N4) (w' : World) : Prop where
  size : W.heap.size ≤ w'.heap.size
  bel : Below W.heap.size (put4 W bc o z) w'
theorem CallLeft.of_put (W : World) (bc o n : Nat) (z : N4) : CallLeft W bc o z ((put4 W bc o z).drewN n) :=
  ⟨by rw [World.heap_drewN, put4_size]; exact Nat.le_refl _, ⟨rfl, rfl, rfl, Nat.le_refl _, fun _ _ => rfl⟩⟩
theorem CallLeft.desk {W w' : World} {d bc : Nat} {k : W4} {c : C4} {n : Int} {z : N4} (h : CallLeft W bc (off4 n) z w') (hd : Desk W d bc k c) : Desk w' d bc k (c.put (ix n) z) :=
  (hd.put n z).bel (by rw [put4_size]; exact h.bel)
theorem CallLeft.there {W w' : World} {bc o : Nat} {z : N4} (h : CallLeft W bc o z w') {b p n : Nat} (ht : W.there b p n) (hn : 0 < n) : w'.there b p n :=
  there_bel (there_put4 ht bc o z) hn (by rw [put4_size]; exact h.bel)
theorem CallLeft.bel' {W w' a : World} {bc o : Nat} {z : N4} (h : CallLeft W bc o z w') (k : Below a.heap.size a W) (hb : a.heap.size ≤ bc) : Below a.heap.size a w' :=
  (put4_bel k hb).trans (h.bel.mono k.size)

/-- From the exact contract to what a call leaves. -/
theorem CallLeft.of_left {W w' : World} {bc o : Nat} {z : N4} (h : Left W bc o z w') : CallLeft W bc o z w' := ⟨by have := h.bel.size; rw [put4_size] at this; exact this, h.bel⟩
theorem left_of_left {P : Program} {f : FuncId} {args : Array Value} {W : World} {bc o : Nat} {z : N4} (h : Calls P f args W (RetLeft bc o z W)) :
    Calls P f args W fun e w' => e = .returned (.pointer (some ⟨bc, o, none⟩)) ∧ CallLeft W bc o z w' :=
  h.mono fun _ _ ⟨he, hl⟩ => ⟨he, CallLeft.of_left hl⟩
theorem left_of_putB {P : Program} {f : FuncId} {args : Array Value} {W : World} {bc o : Nat} {z : N4} {q : Bool} (h : Calls P f args W (RetPutB bc o z q W)) :
    Calls P f args W fun e w' => e = .returned (.tuple #[.pointer (some ⟨bc, o, none⟩), .bool q]) ∧ CallLeft W bc o z w' :=
  h.mono fun _ _ ⟨he, n, hn⟩ => ⟨he, by rw [hn]; exact CallLeft.of_put _ _ _ _ _⟩
theorem left_of_put {P : Program} {f : FuncId} {args : Array Value} {W : World} {bc o : Nat} {z : N4} (h : Calls P f args W (RetPut bc o z W)) :
    Calls P f args W fun e w' => e = .returned (.pointer (some ⟨bc, o, none⟩)) ∧ CallLeft W bc o z w' :=
  h.mono fun _ _ ⟨he, n, hn⟩ => ⟨he, by rw [hn]; exact CallLeft.of_put _ _ _ _ _⟩
end Go.Proofs.YtfaocjcpnjmfiaaGreatDoor
