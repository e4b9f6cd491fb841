/-
  Contracts of uint256's methods that write the receiver from their operands' words, whatever places these are: Set, Not, And, Or, Xor, Clear, SetOne, SetAllOne, SetUint64; NewInt.
-/
import Derived.Test.YtfaocjcpnjmfiaaGreatDoorImpl0
namespace Go.Proofs.YtfaocjcpnjmfiaaGreatDoor
open Go.RowKit

theorem setCell_drew' (w : World) (p : Addr) (v : Value) : (w.setCell p v).drew = w.drew.setCell p v := rfl
theorem put4_down (w : World) (b o : Nat) (z : N4) :
    (((w.setCell ⟨b, o + 3, none⟩ (V z.d)).setCell ⟨b, o + 2, none⟩ (V z.c)).setCell ⟨b, o + 1, none⟩ (V z.b)).setCell ⟨b, o, none⟩ (V z.a) = put4 w b o z := by
  unfold put4
  rw [setCell_comm w ⟨b, o + 3, none⟩ ⟨b, o + 2, none⟩ _ _ (by simp), setCell_comm _ ⟨b, o + 3, none⟩ ⟨b, o + 1, none⟩ _ _ (by simp), setCell_comm _ ⟨b, o + 3, none⟩ ⟨b, o, none⟩ _ _ (by simp),
    setCell_comm w ⟨b, o + 2, none⟩ ⟨b, o + 1, none⟩ _ _ (by simp), setCell_comm _ ⟨b, o + 2, none⟩ ⟨b, o, none⟩ _ _ (by simp), setCell_comm w ⟨b, o + 1, none⟩ ⟨b, o, none⟩ _ _ (by simp)]
theorem put4_cell (w : World) (b o : Nat) (z : N4) (c p : Nat) (h : c = b → p < o ∨ o + 4 ≤ p) : (put4 w b o z).cell? ⟨c, p, none⟩ = w.cell? ⟨c, p, none⟩ := by
  have k : ∀ i, i < 4 → (⟨b, o + i, none⟩ : Addr) ≠ ⟨c, p, none⟩ := by
    intro i hi e
    injection e with e1 e2
    have := h e1.symm
    omega
  unfold put4
  rw [World.cell?_setCell_other _ _ _ _ (k 3 (by omega)), World.cell?_setCell_other _ _ _ _ (k 2 (by omega)), World.cell?_setCell_other _ _ _ _ (k 1 (by omega))]
  exact World.cell?_setCell_other _ _ _ _ (k 0 (by omega))
theorem put4_at (w : World) (b o : Nat) (z y : N4) (h : At4 w b o y) : At4 (put4 w b o z) b o z := by
  obtain ⟨h0, h1, h2, h3⟩ := h
  unfold put4
  constructor <;> simp [go_sem, h0, h1, h2, h3]
theorem put4_far {w : World} {b o c p : Nat} {z y : N4} (h : At4 w c p y) (hs : c = b → p + 4 ≤ o ∨ o + 4 ≤ p) : At4 (put4 w b o z) c p y := by
  obtain ⟨h0, h1, h2, h3⟩ := h
  constructor
  · rw [put4_cell _ _ _ _ _ _ (fun e => by have := hs e; omega)]; exact h0
  · rw [put4_cell _ _ _ _ _ _ (fun e => by have := hs e; omega)]; exact h1
  · rw [put4_cell _ _ _ _ _ _ (fun e => by have := hs e; omega)]; exact h2
  · rw [put4_cell _ _ _ _ _ _ (fun e => by have := hs e; omega)]; exact h3
theorem put4_size (w : World) (b o : Nat) (z : N4) : (put4 w b o z).heap.size = w.heap.size := by simp [put4, World.setCell]
theorem put4_frozen (w : World) (b o : Nat) (z : N4) (a : Addr) : (put4 w b o z).frozen? a = w.frozen? a := by
  unfold put4
  simp [go_sem]
theorem Free4.put {w : World} {b o c p : Nat} (z : N4) (h : Free4 w c p) : Free4 (put4 w b o z) c p :=
  ⟨(put4_frozen ..).trans h.f0, (put4_frozen ..).trans h.f1, (put4_frozen ..).trans h.f2, (put4_frozen ..).trans h.f3⟩
theorem put4_bel {a w : World} {b o : Nat} {z : N4} (h : Below a.heap.size a w) (hb : a.heap.size ≤ b) : Below a.heap.size a (put4 w b o z) :=
  (((h.setCell (p := ⟨b, o, none⟩) hb _).setCell (p := ⟨b, o + 1, none⟩) hb _).setCell (p := ⟨b, o + 2, none⟩) hb _).setCell (p := ⟨b, o + 3, none⟩) hb _

/-- The receiver is handed back, and holds z; nothing else has turned. -/
def RetPut (b o : Nat) (z : N4) (w : World) (e : Ending) (w' : World) : Prop := e = .returned (.pointer (some ⟨b, o, none⟩)) ∧ ∃ n, w' = (put4 w b o z).drewN n
theorem retPut {b o : Nat} {z : N4} {v : Value} {w w' : World} (n : Nat) (hv : v = .pointer (some ⟨b, o, none⟩)) (h : w' = (put4 w b o z).drewN n) : RetPut b o z w (.returned v) w' := ⟨by rw [hv], n, h⟩
theorem retPut1 {b o : Nat} {z : N4} {v : Value} {w w' : World} (hv : v = .pointer (some ⟨b, o, none⟩)) (h : w' = (put4 w b o z).drew) : RetPut b o z w (.returned v) w' := ⟨by rw [hv], 1, h⟩

def N4.and (x y : N4) : N4 := ⟨x.a &&& y.a, x.b &&& y.b, x.c &&& y.c, x.d &&& y.d⟩

def N4.or (x y : N4) : N4 := ⟨x.a ||| y.a, x.b ||| y.b, x.c ||| y.c, x.d ||| y.d⟩

def N4.xor (x y : N4) : N4 := ⟨x.a ^^^ y.a, x.b ^^^ y.b, x.c ^^^ y.c, x.d ^^^ y.d⟩

def N4.not (x : N4) : N4 := ⟨~~~x.a, ~~~x.b, ~~~x.c, ~~~x.d⟩
set_option maxHeartbeats 400000 in
theorem set_any (b o c p : Nat) (z x : N4) (w : World) (hz : At4 w b o z) (fz : Free4 w b o) (hx : At4 w c p x) (sx : Sep b o c p) :
    Calls Tryz.prog 30 #[.pointer (some ⟨b, o, none⟩), .pointer (some ⟨c, p, none⟩)] w (RetPut b o x w) := by
  obtain ⟨z0, z1, z2, z3⟩ := hz
  obtain ⟨f0, f1, f2, f3⟩ := fz
  obtain ⟨x0, x1, x2, x3⟩ := hx
  obtain ⟨q01, q02, q03, q10, q12, q13, q20, q21, q23, q30, q31, q32⟩ := sx.facts
  go_enter Tryz.func30, Tryz.ntmps30
  go_wp2
  go_region
  go_wp2
  go_ret
  exact retPut1 rfl rfl

set_option maxHeartbeats 400000 in
theorem clear_any (b o : Nat) (z : N4) (w : World) (hz : At4 w b o z) (fz : Free4 w b o) :
    Calls Tryz.prog 44 #[.pointer (some ⟨b, o, none⟩)] w (RetPut b o ⟨0#64, 0#64, 0#64, 0#64⟩ w) := by
  obtain ⟨z0, z1, z2, z3⟩ := hz
  obtain ⟨f0, f1, f2, f3⟩ := fz
  go_enter Tryz.func44, Tryz.ntmps44
  go_wp2
  go_region
  go_wp2
  go_ret
  refine retPut1 rfl ?_
  rw [← put4_down]
  rfl



set_option maxHeartbeats 400000 in
theorem setUint64_any (b o : Nat) (z : N4) (x : W64) (w : World) (hz : At4 w b o z) (fz : Free4 w b o) :
    Calls Tryz.prog 38 #[.pointer (some ⟨b, o, none⟩), V x] w (RetPut b o ⟨x, 0#64, 0#64, 0#64⟩ w) := by
  obtain ⟨z0, z1, z2, z3⟩ := hz
  obtain ⟨f0, f1, f2, f3⟩ := fz
  go_enter Tryz.func38, Tryz.ntmps38
  go_wp2
  go_region
  go_wp2
  go_ret
  refine retPut1 rfl ?_
  rw [← put4_down]
  rfl

set_option maxHeartbeats 400000 in
theorem newInt_any (x : W64) (w : World) : Calls Tryz.prog 29 #[V x] w (RetNew ⟨x, 0#64, 0#64, 0#64⟩ w) := by
  go_enter Tryz.func29, Tryz.ntmps29
  go_wp2_with fail
  refine (setUint64_any _ _ ⟨0#64, 0#64, 0#64, 0#64⟩ x _ ?h1 ?h2).mono ?_
  case h1 => constructor <;> simp [go_sem] <;> rfl
  case h2 => constructor <;> simp [go_sem]
  rintro e w' ⟨rfl, n, rfl⟩
  go_wp2
  go_ret
  refine ⟨w.heap.size, rfl, Nat.le_refl _, At4.drewN (put4_at _ _ _ _ ⟨0#64, 0#64, 0#64, 0#64⟩ ?_) _, ?_, ?_⟩
  · constructor <;> simp [go_sem] <;> rfl
  · refine Free4.drewN (Free4.put _ ?_) _
    constructor <;> simp [go_sem]
  · exact bel_drewN (put4_bel (bel_alloc (bel_refl w) _) (Nat.le_refl _)) _
end Go.Proofs.YtfaocjcpnjmfiaaGreatDoor
