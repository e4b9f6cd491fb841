/-
  The contract of the reference's Put.
-/
import Derived.Test.YtpjljjajnfoccaaSpec0
namespace Go.Proofs.Ytpjljjajnfoccaa
open Go.RowKit
set_option maxHeartbeats 1000000 in
theorem specPut_any (c : C4) (n : Int) (x : N4) (w : World) (hn : I64 n) : Calls Try.prog 8 #[c.v, .int .i64 n, x.v] w (RetBel (c.put (ix n) x).v w) := by
  have K : ∀ i : Int, ix n = i → Hid (c.put (ix n) x = c.put i x) := fun i hi => by show c.put (ix n) x = _; rw [hi]
  rcases ix_cases n with h | h | h | h
  all_goals
    have K1 := K _ h
    clear K
    go_enter Try.func8, Try.ntmps8
    go_wp2
    go_region_held3 (Keeps (w.heap.size + 2) ((w.alloc (Obj.cells #[V c.a.a, V c.a.b, V c.a.c, V c.a.d, V c.b.a, V c.b.b, V c.b.c, V c.b.d, V c.c.a, V c.c.b, V c.c.c, V c.c.d, V c.d.a, V c.d.b, V c.d.c, V c.d.d] 28)).alloc (Obj.cells #[V x.a, V x.b, V x.c, V x.d] 26))) (first | assumption | exact Keeps.of' (by simp) (bel_drew (bel_alloc (bel_alloc (bel_refl _) _) _)))
      (first | (go_at_call 22; refine (specCell_any n _ hn).mono ?_; rintro e w1 ⟨rfl, rfl⟩))
    clear ‹Keeps _ _ _›
    go_wp2
    rw [K1.out]
    refine retBel_row rfl rfl (w.heap.size + 2) (c.put _ x).l _ rfl ?_ Try.underlying28 rfl (by kernel_rfl) rfl ?_
    · intro j v hj
      have hj16 : j < 16 := by
        rcases Nat.lt_or_ge j 16 with h | h
        · exact h
        · rw [List.getElem?_eq_none (by simpa using h)] at hj; cases hj
      rw [Nat.zero_add]
      simp [go_sem]
      exact hj
    · exact bel_drew (bel_alloc (bel_alloc (bel_alloc (bel_alloc (bel_refl _) _) _) _) _)
end Go.Proofs.Ytpjljjajnfoccaa
