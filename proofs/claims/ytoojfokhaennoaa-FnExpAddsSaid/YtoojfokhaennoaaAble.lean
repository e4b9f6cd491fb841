/-
  The contracts of the laws' own helpers addable and mullable.
-/
import Derived.Test.YtoojfokhaennoaaOpen
import Derived.Test.YtoojfokhaennoaaSpec3
import Derived.Test.YtoojfokhaennoaaDig6
namespace Go.Proofs.Ytoojfokhaennoaa
open Go.RowKit
set_option linter.unusedVariables false
set_option linter.unusedSimpArgs false
set_option maxHeartbeats 1000000 in
theorem addable_law (x y : N4) (q : Bool) (hq : Hid (decide (x.toNat + y.toNat < 2 ^ 256) = q)) (w : World) : Calls Try.prog 23 #[x.v, y.v] w (RetBel (.bool q) w) := by
  have SF0 : ∀ v L (w : World), Dg w v (x.toNat + y.toNat) L → L ≤ 100 → Calls Try.prog 57 #[v] w fun e w' => e = .returned (.bool q) ∧ w = w' := fun v L w h hL => by
    rw [← hq.out]; exact fits_dg v _ L w h (by omega)
  have SF := Lib.hid SF0
  clear SF0 hq
  go_enter Try.func23, Try.ntmps23
  go_wp2
  go_region_held3 (Keeps (w.heap.size + 2) ((w.alloc (Obj.cells #[V x.a, V x.b, V x.c, V x.d] 26)).alloc (Obj.cells #[V y.a, V y.b, V y.c, V y.d] 26))) (first | assumption | exact Keeps.start _ _ | exact Keeps.step (by assumption) (by simp) hb | exact Keeps.step (by assumption) (by simp) hba | exact Keeps.step (by assumption) (by simp) hbb)
    (first | (go_at_call 55; (with_reducible refine (whole_dg x _).mono ?_); rintro e w1 ⟨va, rfl, Da, hba⟩) | (go_at_call 55; (with_reducible refine (whole_dg y _).mono ?_); rintro e w1 ⟨vb, rfl, Db, hbb⟩) | (go_at_call 58; (with_reducible refine (plus_dg _ _ _ _ _ _ _ (Da.bel hbb) Db (by omega) (by omega)).mono ?_); rintro e w1 ⟨vc, rfl, Dc, hb⟩) | (go_at_call 57; (with_reducible refine (SF.out _ _ _ Dc (by omega)).mono ?_); rintro e w1 ⟨rfl, rfl⟩))
  go_wp2
  go_ret
  exact retBel rfl ((‹Keeps _ _ _›).bel (by omega) (bel_alloc (bel_alloc (bel_refl w) _) _))
set_option maxHeartbeats 1000000 in
theorem mullable_law (x y : N4) (q : Bool) (hq : Hid (decide (x.toNat * y.toNat < 2 ^ 256) = q)) (w : World) : Calls Try.prog 36 #[x.v, y.v] w (RetBel (.bool q) w) := by
  have SF0 : ∀ v L (w : World), Dg w v (x.toNat * y.toNat) L → L ≤ 100 → Calls Try.prog 57 #[v] w fun e w' => e = .returned (.bool q) ∧ w = w' := fun v L w h hL => by
    rw [← hq.out]; exact fits_dg v _ L w h (by omega)
  have SF := Lib.hid SF0
  clear SF0 hq
  go_enter Try.func36, Try.ntmps36
  go_wp2
  go_region_held3 (Keeps (w.heap.size + 2) ((w.alloc (Obj.cells #[V x.a, V x.b, V x.c, V x.d] 26)).alloc (Obj.cells #[V y.a, V y.b, V y.c, V y.d] 26))) (first | assumption | exact Keeps.start _ _ | exact Keeps.step (by assumption) (by simp) hb | exact Keeps.step (by assumption) (by simp) hba | exact Keeps.step (by assumption) (by simp) hbb)
    (first | (go_at_call 55; (with_reducible refine (whole_dg x _).mono ?_); rintro e w1 ⟨va, rfl, Da, hba⟩) | (go_at_call 55; (with_reducible refine (whole_dg y _).mono ?_); rintro e w1 ⟨vb, rfl, Db, hbb⟩) | (go_at_call 69; (with_reducible refine (times_dg _ _ _ _ _ _ _ (Da.bel hbb) Db (by omega) (by omega)).mono ?_); rintro e w1 ⟨vc, rfl, Dc, hb⟩) | (go_at_call 57; (with_reducible refine (SF.out _ _ _ Dc (by omega)).mono ?_); rintro e w1 ⟨rfl, rfl⟩))
  go_wp2
  go_ret
  exact retBel rfl ((‹Keeps _ _ _›).bel (by omega) (bel_alloc (bel_alloc (bel_refl w) _) _))
end Go.Proofs.Ytoojfokhaennoaa
