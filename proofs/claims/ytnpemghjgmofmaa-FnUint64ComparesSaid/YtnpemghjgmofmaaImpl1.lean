/-
  Contracts of the thin package's AllOne, One, FromUint64, Uint64WithOverflow, CmpUint64, LtUint64, GtUint64 and of the package's methods beneath.
-/
import Derived.Test.YtnpemghjgmofmaaSpec0
namespace Go.Proofs.Ytnpemghjgmofmaa
open Go.RowKit
def nullN : N4 := ⟨0#64, 0#64, 0#64, 0#64⟩
def oneN : N4 := ⟨1#64, 0#64, 0#64, 0#64⟩
def onesN : N4 := ⟨18446744073709551615#64, 18446744073709551615#64, 18446744073709551615#64, 18446744073709551615#64⟩
theorem retNum {P : Program} {fn : Func} {a : Act} {w w' : World} {x : N4} (h : (results fn a.tmps).run P w' = .ok x.v w') (hd : a.defers = []) (hb : Below w.heap.size w w') : bodyPost P fn (RetBel x.v w) .ret a w' :=
  bodyPost_ret h hd (retBel rfl hb)
theorem eqb_comm (x y : N4) : x.eqb y = y.eqb x := by
  rw [Bool.eq_iff_iff, eqb_iff, eqb_iff]; exact ⟨Eq.symm, Eq.symm⟩
theorem eql_num1 (x : N4) (w : World) : (binOp .eql 24 (.agg #[V x.a, V x.b, V x.c, V x.d]) (.agg #[.int .u64 1, .int .u64 0, .int .u64 0, .int .u64 0])).run Try.prog w = .ok (.bool (x.eqb oneN)) w := eql_num x oneN w
theorem eql_numA (x : N4) (n : W64) (w : World) : (binOp .eql 24 (.agg #[V x.a, V x.b, V x.c, V x.d]) (.agg #[V n, .int .u64 0, .int .u64 0, .int .u64 0])).run Try.prog w = .ok (.bool (x.eqb ⟨n, 0#64, 0#64, 0#64⟩)) w := eql_num x ⟨n, 0#64, 0#64, 0#64⟩ w
attribute [go_sem ↓] eql_num1 eql_numA

set_option maxHeartbeats 400000 in
theorem implAllOne_any (w : World) : Calls Try.prog 28 #[] w (RetBel onesN.v w) := by
  go_enter Try.func28, Try.ntmps28
  go_wp2_with fail
  refine (setAllOne_any _ _ nullN _ ?h1 ?h2).mono ?_
  case h1 => constructor <;> simp [go_sem] <;> rfl
  case h2 => constructor <;> simp [go_sem]
  rintro e w1 ⟨rfl, n, hw⟩
  have hx : At4 w1 (w.heap.size + 1) 0 onesN := by
    rw [hw]
    refine At4.drewN (put4_at _ _ _ _ nullN ?_) n
    constructor <;> simp [go_sem] <;> rfl
  have hbel : Below w.heap.size w w1 := by
    rw [hw]
    exact bel_drewN (put4_bel (bel_alloc (bel_alloc (bel_refl w) _) _) (by omega)) n
  have hres : w1.there w.heap.size 0 4 := by
    rw [hw]
    exact there_drewN (there_put4 (World.there_alloc (there_at w _ _ 4 _ (Nat.le_refl _) rfl) _) _ _ _) n
  clear hw
  go_wp2_with fail
  refine (numOf_any (w.heap.size + 1) 0 onesN w1 hx).mono ?_
  rintro e w2 ⟨rfl, hb⟩
  have hres2 := there_bel hres (by omega) hb
  have k := bel_trans hbel hb
  clear hres hbel hb hx
  go_wp2_with (refine wpList_store_mid rfl 24 _ _ rfl w.heap.size 0 [V onesN.a, V onesN.b, V onesN.c, V onesN.d].toArray rfl rfl hres2 (by kernel_rfl) (by simp [Value.oneCell']) ?_)
  exact retBel_row rfl rfl w.heap.size [V onesN.a, V onesN.b, V onesN.c, V onesN.d] _ rfl (World.rangeAt_setCells_same w2 _ 0 _ hres2) Try.underlying24 rfl (by kernel_rfl) rfl (setCells_bel k (Nat.le_refl _))

set_option maxHeartbeats 400000 in
theorem implOne_any (w : World) : Calls Try.prog 29 #[] w (RetBel oneN.v w) := by
  go_enter Try.func29, Try.ntmps29
  go_wp2_with fail
  refine (setOne_any _ _ nullN _ ?h1 ?h2).mono ?_
  case h1 => constructor <;> simp [go_sem] <;> rfl
  case h2 => constructor <;> simp [go_sem]
  rintro e w1 ⟨rfl, n, hw⟩
  have hx : At4 w1 (w.heap.size + 1) 0 oneN := by
    rw [hw]
    refine At4.drewN (put4_at _ _ _ _ nullN ?_) n
    constructor <;> simp [go_sem] <;> rfl
  have hbel : Below w.heap.size w w1 := by
    rw [hw]
    exact bel_drewN (put4_bel (bel_alloc (bel_alloc (bel_refl w) _) _) (by omega)) n
  have hres : w1.there w.heap.size 0 4 := by
    rw [hw]
    exact there_drewN (there_put4 (World.there_alloc (there_at w _ _ 4 _ (Nat.le_refl _) rfl) _) _ _ _) n
  clear hw
  go_wp2_with fail
  refine (numOf_any (w.heap.size + 1) 0 oneN w1 hx).mono ?_
  rintro e w2 ⟨rfl, hb⟩
  have hres2 := there_bel hres (by omega) hb
  have k := bel_trans hbel hb
  clear hres hbel hb hx
  go_wp2_with (refine wpList_store_mid rfl 24 _ _ rfl w.heap.size 0 [V oneN.a, V oneN.b, V oneN.c, V oneN.d].toArray rfl rfl hres2 (by kernel_rfl) (by simp [Value.oneCell']) ?_)
  exact retBel_row rfl rfl w.heap.size [V oneN.a, V oneN.b, V oneN.c, V oneN.d] _ rfl (World.rangeAt_setCells_same w2 _ 0 _ hres2) Try.underlying24 rfl (by kernel_rfl) rfl (setCells_bel k (Nat.le_refl _))

set_option maxHeartbeats 400000 in
theorem implFromUint64_any (x : W64) (w : World) : Calls Try.prog 43 #[V x] w (RetBel (N4.v ⟨x, 0#64, 0#64, 0#64⟩) w) := by
  go_enter Try.func43, Try.ntmps43
  go_wp2_with fail
  refine (newInt_any x _).mono ?_
  rintro e w1 ⟨B, rfl, m⟩
  have hx := m.at4
  have hb1 := m.bel
  clear m
  go_wp2_with fail
  refine (numOf_any B 0 ⟨x, 0#64, 0#64, 0#64⟩ w1 hx).mono ?_
  rintro e w2 ⟨rfl, hb2⟩
  have hb := bel_trans hb1 hb2
  have hbel := bel_trans (bel_alloc (bel_refl w) _) hb
  have hc := fun o => hb.cell (p := ⟨w.heap.size, o, none⟩) (by simp)
  have hf := fun o => hb.frozen (p := ⟨w.heap.size, o, none⟩) (by simp)
  have g0 := hc 0
  have g1 := hc 1
  have g2 := hc 2
  have g3 := hc 3
  have h0 := hf 0
  have h1 := hf 1
  have h2 := hf 2
  have h3 := hf 3
  simp [go_sem] at g0 g1 g2 g3 h0 h1 h2 h3
  clear hc hf hb hb1 hb2 hx
  go_wp2
  refine retNum (x := ⟨x, 0#64, 0#64, 0#64⟩) (by simp [results, Try.results43, go_sem, g0, g1, g2, g3]) rfl ?_
  iterate 4 refine bel_set ?_ _ (Nat.le_refl _) _
  exact hbel
set_option maxHeartbeats 400000 in
theorem implUint64WithOverflow_any (x : N4) (w : World) : Calls Try.prog 41 #[x.v] w (RetBel (.tuple #[V x.a, .bool (!x.isU)]) w) := by
  go_enter Try.func41, Try.ntmps41
  go_wp2_with fail
  refine (intOf_any x _).mono ?_
  rintro e w1 ⟨B, rfl, m⟩
  have hb := bel_trans (bel_alloc (bel_refl w) _) m.bel
  go_wp2_with fail
  refine (uint64WithOverflow_any B 0 x _ m.at4).mono ?_
  rintro e w2 ⟨rfl, n, rfl⟩
  go_wp2
  go_ret2
  exact retBel rfl (bel_drewN hb n)

set_option maxHeartbeats 400000 in
theorem cmpUint64_any (b o : Nat) (x : N4) (n : W64) (w : World) (hx : At4 w b o x) :
    Calls Try.prog 61 #[.pointer (some ⟨b, o, none⟩), V n] w fun e w' => e = .returned (.int .i64 (x.cmpW n)) ∧ ∃ m, w' = w.drewN m := by
  have key : ∀ l u q : Bool, decide (n < x.a) = l → ((x.b ||| x.c ||| x.d) != 0#64) = u → (x.a == n) = q → Hid (x.cmpW n = if l || u then 1 else if q then 0 else -1) := by
    intro l u q h1 h2 h3
    show x.cmpW n = _
    unfold N4.cmpW N4.isU
    rw [h1, h3, ← h2]
    rfl
  obtain ⟨x0, x1, x2, x3⟩ := hx
  cases h1 : decide (n < x.a)
  · cases h2 : ((x.b ||| x.c ||| x.d) != 0#64)
    · cases h3 : (x.a == n)
      all_goals
        have K := key _ _ _ h1 h2 h3
        clear key
        go_enter Try.func61, Try.ntmps61
        go_wp2
        go_quiet (fail)
        go_wp2
        go_ret
        rw [K.out]
        exact quiet_end _ rfl
    · have K := key _ _ _ h1 h2 rfl
      clear key
      go_enter Try.func61, Try.ntmps61
      go_wp2
      go_quiet (fail)
      go_wp2
      go_ret
      rw [K.out]
      exact quiet_end _ rfl
  · have K := key _ _ _ h1 rfl rfl
    clear key
    go_enter Try.func61, Try.ntmps61
    go_wp2
    go_quiet (fail)
    go_wp2
    go_ret
    rw [K.out]
    exact quiet_end _ rfl
set_option maxHeartbeats 400000 in
theorem implCmpUint64_any (x : N4) (n : W64) (w : World) : Calls Try.prog 31 #[x.v, V n] w (RetBel (.int .i64 (x.cmpW n)) w) := by
  go_enter Try.func31, Try.ntmps31
  go_wp2_with fail
  refine (intOf_any x _).mono ?_
  rintro e w1 ⟨B, rfl, m⟩
  have hb := bel_trans (bel_alloc (bel_refl w) _) m.bel
  go_wp2_with fail
  refine (cmpUint64_any B 0 x n _ m.at4).mono ?_
  rintro e w2 ⟨rfl, n, rfl⟩
  go_wp2
  go_ret
  exact retBel rfl (bel_drewN hb _)

set_option maxHeartbeats 400000 in
theorem ltUint64_any (b o : Nat) (x : N4) (n : W64) (w : World) (hx : At4 w b o x) :
    Calls Try.prog 62 #[.pointer (some ⟨b, o, none⟩), V n] w fun e w' => e = .returned (.bool (decide (x.a < n) && x.isU)) ∧ ∃ m, w' = w.drewN m := by
  obtain ⟨x0, x1, x2, x3⟩ := hx
  cases h1 : decide (x.a < n)
  all_goals
    go_enter Try.func62, Try.ntmps62
    go_wp2
    go_quiet (fail)
    go_wp2
    go_ret
    exact quiet_end _ rfl
set_option maxHeartbeats 400000 in
theorem implLtUint64_any (x : N4) (n : W64) (w : World) : Calls Try.prog 32 #[x.v, V n] w (RetBel (.bool (decide (x.a < n) && x.isU)) w) := by
  go_enter Try.func32, Try.ntmps32
  go_wp2_with fail
  refine (intOf_any x _).mono ?_
  rintro e w1 ⟨B, rfl, m⟩
  have hb := bel_trans (bel_alloc (bel_refl w) _) m.bel
  go_wp2_with fail
  refine (ltUint64_any B 0 x n _ m.at4).mono ?_
  rintro e w2 ⟨rfl, n, rfl⟩
  go_wp2
  go_ret
  exact retBel rfl (bel_drewN hb _)

set_option maxHeartbeats 400000 in
theorem gtUint64_any (b o : Nat) (x : N4) (n : W64) (w : World) (hx : At4 w b o x) :
    Calls Try.prog 63 #[.pointer (some ⟨b, o, none⟩), V n] w fun e w' => e = .returned (.bool (decide (n < x.a) || !x.isU)) ∧ ∃ m, w' = w.drewN m := by
  obtain ⟨x0, x1, x2, x3⟩ := hx
  cases h1 : decide (n < x.a)
  all_goals
    go_enter Try.func63, Try.ntmps63
    go_wp2
    go_quiet (fail)
    go_wp2
    go_ret
    exact quiet_end _ rfl
set_option maxHeartbeats 400000 in
theorem implGtUint64_any (x : N4) (n : W64) (w : World) : Calls Try.prog 33 #[x.v, V n] w (RetBel (.bool (decide (n < x.a) || !x.isU)) w) := by
  go_enter Try.func33, Try.ntmps33
  go_wp2_with fail
  refine (intOf_any x _).mono ?_
  rintro e w1 ⟨B, rfl, m⟩
  have hb := bel_trans (bel_alloc (bel_refl w) _) m.bel
  go_wp2_with fail
  refine (gtUint64_any B 0 x n _ m.at4).mono ?_
  rintro e w2 ⟨rfl, n, rfl⟩
  go_wp2
  go_ret
  exact retBel rfl (bel_drewN hb _)
end Go.Proofs.Ytnpemghjgmofmaa
