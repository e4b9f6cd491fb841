/-
  The thin package's desk: four cells, four pointers into them; open and answer.
-/
import Derived.Test.YtfaocjcpnjmfiaaGreatDoorWrite
namespace Go.Proofs.YtfaocjcpnjmfiaaGreatDoor
open Go.RowKit

/-- Which cell a number tells. -/
def ix (n : Int) : Int := (n.tmod 4 + 4) % 4
theorem ix_cases (n : Int) : ix n = 0 ∨ ix n = 1 ∨ ix n = 2 ∨ ix n = 3 := by unfold ix; omega
theorem tmod4 (n : Int) : -3 ≤ n.tmod 4 ∧ n.tmod 4 ≤ 3 := by
  rcases Int.le_total 0 n with h | h
  · rw [Int.tmod_eq_emod_of_nonneg h]; omega
  · obtain ⟨m, rfl⟩ : ∃ m, n = -m := ⟨-n, by omega⟩
    rw [Int.neg_tmod, Int.tmod_eq_emod_of_nonneg (by omega)]; omega
/-- Where that cell begins. -/
def off4 (n : Int) : Nat := 4 * (ix n).toNat
def C4.get (k : C4) (i : Int) : N4 := if i = 0 then k.a else if i = 1 then k.b else if i = 2 then k.c else k.d
def C4.put (k : C4) (i : Int) (x : N4) : C4 := if i = 0 then { k with a := x } else if i = 1 then { k with b := x } else if i = 2 then { k with c := x } else { k with d := x }

theorem sep_off (b : Nat) (n m : Int) : Sep b (off4 n) b (off4 m) := by
  intro _
  unfold off4
  rcases ix_cases n with h | h | h | h <;> rcases ix_cases m with k | k | k | k <;> rw [h, k] <;> decide

/-- The sixteen words of the cells. -/
structure Cells16 (w : World) (bc : Nat) (c : C4) : Prop where
  ca : At4 w bc 0 c.a
  cb : At4 w bc 4 c.b
  cc : At4 w bc 8 c.c
  cd : At4 w bc 12 c.d
  fa : Free4 w bc 0
  fb : Free4 w bc 4
  fc : Free4 w bc 8
  fd : Free4 w bc 12
theorem Cells16.at {w : World} {bc : Nat} {c : C4} (h : Cells16 w bc c) (n : Int) : At4 w bc (off4 n) (c.get (ix n)) := by
  unfold off4
  rcases ix_cases n with k | k | k | k <;> rw [k]
  · exact h.ca
  · exact h.cb
  · exact h.cc
  · exact h.cd
theorem Cells16.free {w : World} {bc : Nat} {c : C4} (h : Cells16 w bc c) (n : Int) : Free4 w bc (off4 n) := by
  unfold off4
  rcases ix_cases n with k | k | k | k <;> rw [k]
  · exact h.fa
  · exact h.fb
  · exact h.fc
  · exact h.fd
theorem Cells16.put {w : World} {bc : Nat} {c : C4} (h : Cells16 w bc c) (n : Int) (x : N4) : Cells16 (put4 w bc (off4 n) x) bc (c.put (ix n) x) := by
  have e : ∀ (k : Nat) (i : Int), 4 * i.toNat = k → ix n = i → off4 n = k := fun k i hk hi => by unfold off4; rw [hi, hk]
  rcases ix_cases n with k | k | k | k
  · rw [e 0 0 rfl k, k]
    exact ⟨put4_at _ _ _ _ _ h.ca, put4_far h.cb (fun _ => by omega), put4_far h.cc (fun _ => by omega), put4_far h.cd (fun _ => by omega), h.fa.put _, h.fb.put _, h.fc.put _, h.fd.put _⟩
  · rw [e 4 1 rfl k, k]
    exact ⟨put4_far h.ca (fun _ => by omega), put4_at _ _ _ _ _ h.cb, put4_far h.cc (fun _ => by omega), put4_far h.cd (fun _ => by omega), h.fa.put _, h.fb.put _, h.fc.put _, h.fd.put _⟩
  · rw [e 8 2 rfl k, k]
    exact ⟨put4_far h.ca (fun _ => by omega), put4_far h.cb (fun _ => by omega), put4_at _ _ _ _ _ h.cc, put4_far h.cd (fun _ => by omega), h.fa.put _, h.fb.put _, h.fc.put _, h.fd.put _⟩
  · rw [e 12 3 rfl k, k]
    exact ⟨put4_far h.ca (fun _ => by omega), put4_far h.cb (fun _ => by omega), put4_far h.cc (fun _ => by omega), put4_at _ _ _ _ _ h.cd, h.fa.put _, h.fb.put _, h.fc.put _, h.fd.put _⟩
theorem Cells16.bel {w w' : World} {bc : Nat} {c : C4} (h : Cells16 w bc c) (k : Below w.heap.size w w') : Cells16 w' bc c :=
  ⟨h.ca.bel k, h.cb.bel k, h.cc.bel k, h.cd.bel k, h.fa.bel h.ca.lt k, h.fb.bel h.ca.lt k, h.fc.bel h.ca.lt k, h.fd.bel h.ca.lt k⟩
/-- The desk's own five cells. -/
structure Ptrs (w : World) (d bc : Nat) (k : W4) : Prop where
  p0 : w.cell? ⟨d, 0, none⟩ = some (.pointer (some ⟨bc, 0, none⟩))
  p1 : w.cell? ⟨d, 1, none⟩ = some (.pointer (some ⟨bc, off4 k.z, none⟩))
  p2 : w.cell? ⟨d, 2, none⟩ = some (.pointer (some ⟨bc, off4 k.x, none⟩))
  p3 : w.cell? ⟨d, 3, none⟩ = some (.pointer (some ⟨bc, off4 k.y, none⟩))
  p4 : w.cell? ⟨d, 4, none⟩ = some (.pointer (some ⟨bc, off4 k.m, none⟩))
theorem Ptrs.bel {w w' : World} {d bc : Nat} {k : W4} (h : Ptrs w d bc k) (e : Below w.heap.size w w') : Ptrs w' d bc k :=
  ⟨bel_cell e h.p0, bel_cell e h.p1, bel_cell e h.p2, bel_cell e h.p3, bel_cell e h.p4⟩
theorem Ptrs.put {w : World} {d bc : Nat} {k : W4} (h : Ptrs w d bc k) (hne : d ≠ bc) (o : Nat) (x : N4) : Ptrs (put4 w bc o x) d bc k :=
  ⟨(put4_cell _ _ _ _ _ _ (fun e => absurd e hne)).trans h.p0, (put4_cell _ _ _ _ _ _ (fun e => absurd e hne)).trans h.p1, (put4_cell _ _ _ _ _ _ (fun e => absurd e hne)).trans h.p2,
   (put4_cell _ _ _ _ _ _ (fun e => absurd e hne)).trans h.p3, (put4_cell _ _ _ _ _ _ (fun e => absurd e hne)).trans h.p4⟩
structure Desk (w : World) (d bc : Nat) (k : W4) (c : C4) : Prop where
  ne : d ≠ bc
  ptrs : Ptrs w d bc k
  cells : Cells16 w bc c
def RetDesk (k : W4) (c : C4) (w : World) (e : Ending) (w' : World) : Prop :=
  ∃ d bc, e = .returned (.pointer (some ⟨d, 0, none⟩)) ∧ w.heap.size ≤ d ∧ w.heap.size ≤ bc ∧ Desk w' d bc k c ∧ Below w.heap.size w w'

end Go.Proofs.YtfaocjcpnjmfiaaGreatDoor
