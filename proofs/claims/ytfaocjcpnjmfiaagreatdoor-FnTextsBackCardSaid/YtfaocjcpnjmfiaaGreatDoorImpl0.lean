/-
  Contracts of the thin package's conversions (intOf, numOf) and of its functions that read one or two numbers.
-/
import Derived.Test.YtfaocjcpnjmfiaaGreatDoorRead
namespace Go.Proofs.YtfaocjcpnjmfiaaGreatDoor
open Go.RowKit

/-! ### a world that has only grown -/
theorem bel_refl (w : World) : Below w.heap.size w w := Below.refl _ _
theorem bel_trans {a b c : World} (h : Below a.heap.size a b) (k : Below b.heap.size b c) : Below a.heap.size a c := h.trans (k.mono h.size)
theorem bel_alloc {a b : World} (h : Below a.heap.size a b) (o : Obj) : Below a.heap.size a (b.alloc o) := h.alloc h.size o
theorem bel_drewN {a b : World} (h : Below a.heap.size a b) (n : Nat) : Below a.heap.size a (b.drewN n) := ⟨h.os, h.tape, h.output, h.size, h.block⟩
theorem bel_drew {a b : World} (h : Below a.heap.size a b) : Below a.heap.size a b.drew := h.drew
theorem bel_set {a b : World} (h : Below a.heap.size a b) (p : Addr) (hp : a.heap.size ≤ p.block) (v : Value) : Below a.heap.size a (b.setCell p v) := h.setCell hp v
theorem bel_cell {a b : World} (h : Below a.heap.size a b) {c o : Nat} {v : Value} (hc : a.cell? ⟨c, o, none⟩ = some v) : b.cell? ⟨c, o, none⟩ = some v :=
  (h.cell (p := ⟨c, o, none⟩) (World.block_lt_of_cell? a _ hc)).trans hc
theorem At4.bel {a b : World} {c o : Nat} {x : N4} (h : At4 a c o x) (k : Below a.heap.size a b) : At4 b c o x :=
  ⟨bel_cell k h.c0, bel_cell k h.c1, bel_cell k h.c2, bel_cell k h.c3⟩
theorem At4.lt {a : World} {c o : Nat} {x : N4} (h : At4 a c o x) : c < a.heap.size := World.block_lt_of_cell? a _ h.c0
theorem Free4.bel {a b : World} {c o : Nat} (h : Free4 a c o) (hc : c < a.heap.size) (k : Below a.heap.size a b) : Free4 b c o :=
  ⟨(k.frozen (p := ⟨c, o, none⟩) hc).trans h.f0, (k.frozen (p := ⟨c, o + 1, none⟩) hc).trans h.f1, (k.frozen (p := ⟨c, o + 2, none⟩) hc).trans h.f2, (k.frozen (p := ⟨c, o + 3, none⟩) hc).trans h.f3⟩
theorem At4.drewN {a : World} {c o : Nat} {x : N4} (h : At4 a c o x) (n : Nat) : At4 (a.drewN n) c o x := ⟨h.c0, h.c1, h.c2, h.c3⟩
theorem At4.alloc {a : World} {c o : Nat} {x : N4} (h : At4 a c o x) (ob : Obj) : At4 (a.alloc ob) c o x := h.bel (bel_alloc (bel_refl a) ob)
theorem Free4.drewN {a : World} {c o : Nat} (h : Free4 a c o) (n : Nat) : Free4 (a.drewN n) c o := ⟨h.f0, h.f1, h.f2, h.f3⟩

/-- A pointer to a new number x. -/
structure New4 (w w' : World) (B : Nat) (x : N4) : Prop where
  ge : w.heap.size ≤ B
  at4 : At4 w' B 0 x
  free : Free4 w' B 0
  bel : Below w.heap.size w w'
def RetNew (x : N4) (w : World) (e : Ending) (w' : World) : Prop := ∃ B, e = .returned (.pointer (some ⟨B, 0, none⟩)) ∧ New4 w w' B x
/-- A value, and a world that has only grown. -/
def RetBel (v : Value) (w : World) (e : Ending) (w' : World) : Prop := e = .returned v ∧ Below w.heap.size w w'
theorem retBel {v v' : Value} {w w' : World} (h : v = v') (k : Below w.heap.size w w') : RetBel v' w (.returned v) w' := ⟨by rw [h], k⟩

set_option maxHeartbeats 400000 in
theorem intOf_any (x : N4) (w : World) : Calls Tryz.prog 14 #[x.v] w (RetNew x w) := by
  go_enter Tryz.func14, Tryz.ntmps14
  go_wp2
  go_ret
  refine ⟨w.heap.size + 1, rfl, by omega, ?_, ?_, bel_alloc (bel_alloc (bel_refl w) _) _⟩
  · constructor <;> simp [go_sem]
  · constructor <;> simp [go_sem]
set_option maxHeartbeats 400000 in
theorem numOf_any (b o : Nat) (x : N4) (w : World) (hx : At4 w b o x) : Calls Tryz.prog 13 #[.pointer (some ⟨b, o, none⟩)] w (RetBel x.v w) := by
  have hlt := hx.lt
  obtain ⟨x0, x1, x2, x3⟩ := hx
  go_enter Tryz.func13, Tryz.ntmps13
  go_wp2
  go_region
  all_goals
    go_wp2
    refine bodyPost_ret (v := x.v) (by simp [results, Tryz.results13, go_sem]) rfl ?_
    refine retBel rfl ?_
    repeat (first | exact bel_refl _ | apply bel_drew | apply bel_alloc | apply bel_drewN | (apply bel_set _ _ (by simp)))





/-- What a region keeps: all that lies below block B is as it was in W0. -/
abbrev Keeps (B : Nat) (W0 w' : World) : Prop := (∀ b o, b < B → w'.cell? ⟨b, o, none⟩ = W0.cell? ⟨b, o, none⟩) ∧ Below B W0 w'
theorem Keeps.of {B : Nat} {W0 w' : World} (h : Below B W0 w') : Keeps B W0 w' := ⟨fun b o hb => h.cell (p := ⟨b, o, none⟩) hb, h⟩
theorem Keeps.of' {B : Nat} {W0 w' : World} (hB : B = W0.heap.size) (h : Below W0.heap.size W0 w') : Keeps B W0 w' := by subst hB; exact Keeps.of h
theorem Keeps.start (B : Nat) (W0 : World) : Keeps B W0 W0.drew := Keeps.of (Below.refl _ _).drew
theorem Keeps.startN (B n : Nat) (W0 : World) : Keeps B W0 (W0.drewN n) := Keeps.of ⟨rfl, rfl, rfl, Nat.le_refl _, fun _ _ => rfl⟩
theorem Keeps.step {B : Nat} {W0 w w' : World} (h : Keeps B W0 w) (hB : B ≤ W0.heap.size) (k : Below w.heap.size w w') : Keeps B W0 w' := Keeps.of (h.2.trans (k.mono (Nat.le_trans hB h.2.size)))
theorem Keeps.quiet {B : Nat} {W0 w : World} (h : Keeps B W0 w) (n : Nat) : Keeps B W0 (w.drewN n) := Keeps.of ⟨h.2.os, h.2.tape, h.2.output, h.2.size, h.2.block⟩
theorem Keeps.bel {B : Nat} {w W0 w' : World} (h : Keeps B W0 w') (hB : w.heap.size ≤ B) (k : Below w.heap.size w W0) : Below w.heap.size w w' := k.trans (h.2.mono hB)




end Go.Proofs.YtfaocjcpnjmfiaaGreatDoor
