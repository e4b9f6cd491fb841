/-
  Contracts of the thin package's AllOne, One, FromUint64, Uint64WithOverflow, CmpUint64, LtUint64, GtUint64 and of the package's methods beneath.
-/
import Derived.Test.YtpmhkmcikjbncaaFmtSpec0
namespace Go.Proofs.YtpmhkmcikjbncaaFmt
open Go.RowKit
def nullN : N4 := ⟨0#64, 0#64, 0#64, 0#64⟩
def oneN : N4 := ⟨1#64, 0#64, 0#64, 0#64⟩
def onesN : N4 := ⟨18446744073709551615#64, 18446744073709551615#64, 18446744073709551615#64, 18446744073709551615#64⟩
theorem retNum {P : Program} {fn : Func} {a : Act} {w w' : World} {x : N4} (h : (results fn a.tmps).run P w' = .ok x.v w') (hd : a.defers = []) (hb : Below w.heap.size w w') : bodyPost P fn (RetBel x.v w) .ret a w' :=
  bodyPost_ret h hd (retBel rfl hb)
theorem eqb_comm (x y : N4) : x.eqb y = y.eqb x := by
  rw [Bool.eq_iff_iff, eqb_iff, eqb_iff]; exact ⟨Eq.symm, Eq.symm⟩
theorem eql_num1 (x : N4) (w : World) : (binOp .eql 25 (.agg #[V x.a, V x.b, V x.c, V x.d]) (.agg #[.int .u64 1, .int .u64 0, .int .u64 0, .int .u64 0])).run Tryf.prog w = .ok (.bool (x.eqb oneN)) w := eql_num x oneN w
theorem eql_numA (x : N4) (n : W64) (w : World) : (binOp .eql 25 (.agg #[V x.a, V x.b, V x.c, V x.d]) (.agg #[V n, .int .u64 0, .int .u64 0, .int .u64 0])).run Tryf.prog w = .ok (.bool (x.eqb ⟨n, 0#64, 0#64, 0#64⟩)) w := eql_num x ⟨n, 0#64, 0#64, 0#64⟩ w
attribute [go_sem ↓] eql_num1 eql_numA

set_option maxHeartbeats 400000 in
theorem implAllOne_any (w : World) : Calls Tryf.prog 9 #[] w (RetBel onesN.v w) := by
  go_enter Tryf.func9, Tryf.ntmps9
  go_wp2_with fail
  refine (setAllOne_any _ _ nullN _ ?h1 ?h2).mono ?_
  case h1 => constructor <;> simp [go_sem] <;> rfl
  case h2 => constructor <;> simp [go_sem]
  rintro e w1 ⟨rfl, n, hw⟩
  have hx : At4 w1 (w.heap.size + 1) 0 onesN := by
    rw [hw]
    refine At4.drewN (put4_at _ _ _ _ nullN ?_) n
    constructor <;> simp [go_sem] <;> rfl
  have hbel : Below w.heap.size w w1 := by
    rw [hw]
    exact bel_drewN (put4_bel (bel_alloc (bel_alloc (bel_refl w) _) _) (by omega)) n
  have hres : w1.there w.heap.size 0 4 := by
    rw [hw]
    exact there_drewN (there_put4 (World.there_alloc (there_at w _ _ 4 _ (Nat.le_refl _) rfl) _) _ _ _) n
  clear hw
  go_wp2_with fail
  refine (numOf_any (w.heap.size + 1) 0 onesN w1 hx).mono ?_
  rintro e w2 ⟨rfl, hb⟩
  have hres2 := there_bel hres (by omega) hb
  have k := bel_trans hbel hb
  clear hres hbel hb hx
  go_wp2_with (refine wpList_store_mid rfl 25 _ _ rfl w.heap.size 0 [V onesN.a, V onesN.b, V onesN.c, V onesN.d].toArray rfl rfl hres2 (by kernel_rfl) (by simp [Value.oneCell']) ?_)
  exact retBel_row rfl rfl w.heap.size [V onesN.a, V onesN.b, V onesN.c, V onesN.d] _ rfl (World.rangeAt_setCells_same w2 _ 0 _ hres2) Tryf.underlying25 rfl (by kernel_rfl) rfl (setCells_bel k (Nat.le_refl _))





end Go.Proofs.YtpmhkmcikjbncaaFmt
