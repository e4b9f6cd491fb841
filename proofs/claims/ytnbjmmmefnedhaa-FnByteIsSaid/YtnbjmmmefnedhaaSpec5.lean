/-
  The reference's ByteAt, by worth.
-/
import Derived.Test.YtnbjmmmefnedhaaSpec4
namespace Go.Proofs.Ytnbjmmmefnedhaa
open Go.RowKit
set_option linter.unusedVariables false
set_option linter.unusedSimpArgs false
/-- A byte of a number, as the reference says it. -/
def byteN (x y : N4) : N4 := if (!y.isU) || decide (31 < y.a.toNat) then ⟨0#64, 0#64, 0#64, 0#64⟩ else ⟨BitVec.ofNat 64 (x.toNat / 2 ^ (8 * (31 - y.a.toNat)) % 256), 0#64, 0#64, 0#64⟩
theorem dig_byte (X n : Nat) : X / 65536 ^ (n / 2) % 65536 / 2 ^ (8 * (n % 2)) % 256 = X / 2 ^ (8 * n) % 256 := by
  have e1 : (65536 : Nat) ^ (n / 2) = 2 ^ (16 * (n / 2)) := by rw [Nat.pow_mul]
  have e2 : 2 ^ (8 * n) = 2 ^ (16 * (n / 2)) * 2 ^ (8 * (n % 2)) := by rw [← Nat.pow_add]; congr 1; omega
  rw [e1, e2, ← Nat.div_div_eq_div_mul]
  generalize X / 2 ^ (16 * (n / 2)) = Y
  rcases (by omega : n % 2 = 0 ∨ n % 2 = 1) with h | h <;> rw [h] <;> omega
theorem i64_and255 (x : Nat) (h : x < 9223372036854775808) : bits .and .i64 (x : Int) 255 = ((x % 256 : Nat) : Int) := by
  have h1 := (bits_nat .i64 63 (by decide) (fun n h0 h1 => IntWalk.i64_in n (by omega)) x 255 (by omega) (by decide)).1
  have e : x &&& 255 = x % 256 := Nat.and_two_pow_sub_one_eq_mod x 8
  rw [e] at h1
  exact h1
set_option maxHeartbeats 2000000 in
theorem specByteAt_any (x y : N4) (w : World) : Calls Try.prog 18 #[x.v, y.v] w (RetBel (N4.v (byteN x y)) w) := by
  have key : ∀ r, byteN x y = r → Hid (byteN x y = r) := fun _ h => h
  obtain ⟨i, hi⟩ : ∃ i, i = y.a.toNat := ⟨_, rfl⟩
  have hU : U y.a = (i : Int) := by rw [hi]; rfl
  cases hu : y.isU
  · have K := key _ (by unfold byteN; rw [hu, Bool.not_false, Bool.true_or, if_pos rfl])
    have hb : (y.b ||| y.c ||| y.d != 0#64) = true := by unfold N4.isU at hu; rw [bne, hu]; rfl
    clear key hu hi
    go_enter Try.func18, Try.ntmps18
    go_wp2
    rw [K.out]
    refine bodyPost_ret (v := N4.v ⟨0#64, 0#64, 0#64, 0#64⟩) (by simp [results, Try.results18, go_sem] <;> first | rfl | exact ⟨rfl, rfl, rfl, rfl⟩) rfl (retBel rfl ?_)
    exact bel_alloc (bel_alloc (bel_alloc (bel_refl _) _) _) _
  have hb : (y.b ||| y.c ||| y.d != 0#64) = false := by unfold N4.isU at hu; rw [bne, hu]; rfl
  by_cases h31 : 31 < i
  · have K := key _ (by unfold byteN; rw [← hi, decide_eq_true h31, Bool.or_true, if_pos rfl])
    clear key hu hi
    go_enter Try.func18, Try.ntmps18
    go_wp2
    rw [K.out]
    refine bodyPost_ret (v := N4.v ⟨0#64, 0#64, 0#64, 0#64⟩) (by simp [results, Try.results18, go_sem] <;> first | rfl | exact ⟨rfl, rfl, rfl, rfl⟩) rfl (retBel rfl ?_)
    exact bel_alloc (bel_alloc (bel_alloc (bel_refl _) _) _) _
  have K0 := key _ (by unfold byteN; rw [hu, ← hi, decide_eq_false h31, Bool.not_true, Bool.or_false, if_neg (by decide)])
  obtain ⟨n, hn⟩ : ∃ n, n = 31 - i := ⟨_, rfl⟩
  have hn' : (31 : Int) - (i : Int) = (n : Int) := by omega
  have hn31 : n ≤ 31 := by omega
  obtain ⟨d, hd⟩ : ∃ d, d = x.toNat / 65536 ^ (n / 2) % 65536 := ⟨_, rfl⟩
  have hdl : d < 65536 := by rw [hd]; exact Nat.mod_lt _ (by decide)
  have AT : Hid (∀ v (w : World), Dg w v x.toNat 16 → Calls Try.prog 51 #[v, .int .i64 ((n : Int) / 2)] w fun e w' => e = .returned (.int .i64 (d : Int)) ∧ w = w') := fun v w h => by
    have := at_dg v x.toNat 16 ((n : Int) / 2) w h (by omega) (by omega) (by omega)
    rw [show ((n : Int) / 2).toNat = n / 2 by omega, ← hd] at this
    exact this
  have hE := dig_byte x.toNat n
  rw [← hd] at hE
  obtain ⟨r, hr⟩ : ∃ r, r = x.toNat / 2 ^ (8 * n) % 256 := ⟨_, rfl⟩
  have hrl : r < 256 := by rw [hr]; exact Nat.mod_lt _ (by decide)
  rw [← hn, ← hr] at K0
  rw [← hr] at hE
  have hUr : IntKind.u64.wrap (r : Int) = U (BitVec.ofNat 64 r) := by rw [U_ofNat _ (by omega), IntKind.wrap_u64]; omega
  clear key hu hi hd hr hn
  rcases (by omega : n % 2 = 0 ∨ n % 2 = 1) with h2 | h2
  · have e2 : (n : Int) % 2 = 0 := by omega
    have hs : bits .and .i64 ((d : Int)) 255 = (r : Int) := by
      rw [h2] at hE
      have := i64_and255 d (by omega)
      rw [show (((d : Nat)) : Int) = (d : Int) by omega] at this
      rw [this, ← hE]
      rw [Nat.mul_zero, Nat.pow_zero, Nat.div_one]
    clear h2 hE
    go_enter Try.func18, Try.ntmps18
    go_wp2_with fail
    refine (whole_dg x _).mono ?_
    rintro e w0 ⟨va, rfl, Da, hb0⟩
    have bel0 : Below w.heap.size w w0 := bel_trans (bel_alloc (bel_alloc (bel_alloc (bel_refl w) _) _) _) hb0
    have res0 : w0.there (w.heap.size + 2) 0 4 := there_bel (there_at _ _ _ _ _ (Nat.le_refl _) (by simp)) (by omega) hb0
    have sz0 : w.heap.size + 3 ≤ w0.heap.size := by have := hb0.size; simp at this; omega
    have c0_0 := fun o => hb0.cell (p := ⟨w.heap.size, o, none⟩) (by simp <;> omega)
    have c1_0 := fun o => hb0.cell (p := ⟨w.heap.size + 1, o, none⟩) (by simp <;> omega)
    simp [go_sem] at c0_0 c1_0
    clear hb0
    go_wp2_with fail
    refine (AT.out _ _ Da).mono ?_
    rintro e w1 ⟨rfl, rfl⟩
    go_wp2_with (refine wpList_store_mid rfl 26 _ _ rfl (w.heap.size + 2) 0 [V (N4.mk (BitVec.ofNat 64 r) 0#64 0#64 0#64).a, V (N4.mk (BitVec.ofNat 64 r) 0#64 0#64 0#64).b, V (N4.mk (BitVec.ofNat 64 r) 0#64 0#64 0#64).c, V (N4.mk (BitVec.ofNat 64 r) 0#64 0#64 0#64).d].toArray rfl rfl res0 (by kernel_rfl) (by simp [Value.oneCell']) ?_)
    rw [K0.out]
    exact retBel_row rfl rfl (w.heap.size + 2) [V (N4.mk (BitVec.ofNat 64 r) 0#64 0#64 0#64).a, V (N4.mk (BitVec.ofNat 64 r) 0#64 0#64 0#64).b, V (N4.mk (BitVec.ofNat 64 r) 0#64 0#64 0#64).c, V (N4.mk (BitVec.ofNat 64 r) 0#64 0#64 0#64).d] _ rfl (World.rangeAt_setCells_same w0 _ 0 _ res0) Try.underlying26 rfl (by kernel_rfl) rfl (setCells_bel bel0 (by omega))
  · have e2 : (n : Int) % 2 = 1 := by omega
    have hs : bits .and .i64 ((d : Int) / 256) 255 = (r : Int) := by
      rw [h2] at hE
      have := i64_and255 (d / 256) (by omega)
      rw [show (((d / 256 : Nat)) : Int) = (d : Int) / 256 by omega] at this
      rw [this, ← hE]
      skip
    clear h2 hE
    go_enter Try.func18, Try.ntmps18
    go_wp2_with fail
    refine (whole_dg x _).mono ?_
    rintro e w0 ⟨va, rfl, Da, hb0⟩
    have bel0 : Below w.heap.size w w0 := bel_trans (bel_alloc (bel_alloc (bel_alloc (bel_refl w) _) _) _) hb0
    have res0 : w0.there (w.heap.size + 2) 0 4 := there_bel (there_at _ _ _ _ _ (Nat.le_refl _) (by simp)) (by omega) hb0
    have sz0 : w.heap.size + 3 ≤ w0.heap.size := by have := hb0.size; simp at this; omega
    have c0_0 := fun o => hb0.cell (p := ⟨w.heap.size, o, none⟩) (by simp <;> omega)
    have c1_0 := fun o => hb0.cell (p := ⟨w.heap.size + 1, o, none⟩) (by simp <;> omega)
    simp [go_sem] at c0_0 c1_0
    clear hb0
    go_wp2_with fail
    refine (AT.out _ _ Da).mono ?_
    rintro e w1 ⟨rfl, rfl⟩
    go_wp2_with (refine wpList_store_mid rfl 26 _ _ rfl (w.heap.size + 2) 0 [V (N4.mk (BitVec.ofNat 64 r) 0#64 0#64 0#64).a, V (N4.mk (BitVec.ofNat 64 r) 0#64 0#64 0#64).b, V (N4.mk (BitVec.ofNat 64 r) 0#64 0#64 0#64).c, V (N4.mk (BitVec.ofNat 64 r) 0#64 0#64 0#64).d].toArray rfl rfl res0 (by kernel_rfl) (by simp [Value.oneCell']) ?_)
    rw [K0.out]
    exact retBel_row rfl rfl (w.heap.size + 2) [V (N4.mk (BitVec.ofNat 64 r) 0#64 0#64 0#64).a, V (N4.mk (BitVec.ofNat 64 r) 0#64 0#64 0#64).b, V (N4.mk (BitVec.ofNat 64 r) 0#64 0#64 0#64).c, V (N4.mk (BitVec.ofNat 64 r) 0#64 0#64 0#64).d] _ rfl (World.rangeAt_setCells_same w0 _ 0 _ res0) Try.underlying26 rfl (by kernel_rfl) rfl (setCells_bel bel0 (by omega))
end Go.Proofs.Ytnbjmmmefnedhaa
