/-
  Contracts of the readers of big-endian whole numbers.
-/
import Derived.Test.YtpmhkmcikjbncaaFmtPut
namespace Go.Proofs.YtpmhkmcikjbncaaFmt
open Go.RowKit
set_option linter.unusedVariables false
set_option linter.unusedSimpArgs false
set_option maxRecDepth 100000
/-- The bytes l lie at block g from o on. -/
def BytesAt (w : World) (g o : Nat) (l : List UInt8) : Prop := ∀ i (b : UInt8), l[i]? = some b → w.cell? ⟨g, o + i, none⟩ = some (.int .u8 (b.toNat : Int))
theorem BytesAt.bel {w w' : World} {g o : Nat} {l : List UInt8} (h : BytesAt w g o l) (k : Below w.heap.size w w') : BytesAt w' g o l := fun i b hb => bel_cell k (h i b hb)
theorem BytesAt.cut {w : World} {g o : Nat} {l : List UInt8} (h : BytesAt w g o l) (k n : Nat) : BytesAt w g (o + k) ((l.drop k).take n) := fun i b hb => by
  rw [List.getElem?_take] at hb
  split at hb
  · rw [List.getElem?_drop] at hb
    rw [Nat.add_assoc]
    exact h _ b hb
  · cases hb
theorem list_n (n : Nat) (l : List UInt8) (h : l.length = n + 1) : ∃ b m, l = b :: m ∧ m.length = n := by
  cases l with
  | nil => simp at h
  | cons b m => exact ⟨b, m, rfl, by simpa using h⟩
set_option maxHeartbeats 4000000 in
theorem rd16_nat (g o n c : Nat) (b0 b1 : UInt8) (w : World) (hn : 2 ≤ n)
    (c0 : w.cell? ⟨g, o, none⟩ = some (.int .u8 b0.toNat)) (c1 : w.cell? ⟨g, o + 1, none⟩ = some (.int .u8 b1.toNat)) :
    Calls Tryf.prog 65 #[.agg #[], .slice (some ⟨g, o, none⟩) n c] w fun e w' => e = .returned (.int .u16 (Lib.beNat [b0, b1])) ∧ Below w.heap.size w w' := by
  have d0 := bel_cell (bel_alloc (bel_refl w) (.cells #[] 62)) c0
  have h0 : b0.toNat < 256 := b0.toNat_lt
  have d1 := bel_cell (bel_alloc (bel_refl w) (.cells #[] 62)) c1
  have h1 : b1.toNat < 256 := b1.toNat_lt
  have hv : ((Lib.beNat [b0, b1] : Nat) : Int) = (b1.toNat : Int) + (b0.toNat : Int) * 256 := by
    simp only [Lib.beNat, Lib.beFrom]
    push_cast
    omega
  have HV := Lib.hid hv
  clear hv
  have p0 : 0 < n := by omega
  have p1 : (1 : Int) < (n : Int) := by omega
  go_enter Tryf.func65, Tryf.ntmps65
  go_wp2
  go_quiet (fail)
  go_wp2
  go_ret
  refine ⟨?_, ((Below.refl _ w).alloc (Nat.le_refl _) _).trans ⟨rfl, rfl, rfl, Nat.le_refl _, fun _ _ => rfl⟩⟩
  simp (disch := omega) only [u16_wrap_id, u16_or8]
  rw [HV.out]
  rfl
theorem rd16_any (g o n c : Nat) (l : List UInt8) (w : World) (hl : l.length = 2) (hn : 2 ≤ n) (h : BytesAt w g o l) :
    Calls Tryf.prog 65 #[.agg #[], .slice (some ⟨g, o, none⟩) n c] w fun e w' => e = .returned (.int .u16 ((Lib.beNat l : Nat) : Int)) ∧ Below w.heap.size w w' := by
  obtain ⟨b0, l0, rfl, hl0⟩ := list_n 1 _ hl
  obtain ⟨b1, l1, rfl, hl1⟩ := list_n 0 _ hl0
  obtain rfl : l1 = [] := List.eq_nil_of_length_eq_zero hl1
  exact rd16_nat g o n c b0 b1 w hn (h 0 b0 rfl) (h 1 b1 rfl)
set_option maxHeartbeats 4000000 in
theorem rd32_nat (g o n c : Nat) (b0 b1 b2 b3 : UInt8) (w : World) (hn : 4 ≤ n)
    (c0 : w.cell? ⟨g, o, none⟩ = some (.int .u8 b0.toNat)) (c1 : w.cell? ⟨g, o + 1, none⟩ = some (.int .u8 b1.toNat)) (c2 : w.cell? ⟨g, o + 2, none⟩ = some (.int .u8 b2.toNat)) (c3 : w.cell? ⟨g, o + 3, none⟩ = some (.int .u8 b3.toNat)) :
    Calls Tryf.prog 66 #[.agg #[], .slice (some ⟨g, o, none⟩) n c] w fun e w' => e = .returned (.int .u32 (Lib.beNat [b0, b1, b2, b3])) ∧ Below w.heap.size w w' := by
  have d0 := bel_cell (bel_alloc (bel_refl w) (.cells #[] 62)) c0
  have h0 : b0.toNat < 256 := b0.toNat_lt
  have d1 := bel_cell (bel_alloc (bel_refl w) (.cells #[] 62)) c1
  have h1 : b1.toNat < 256 := b1.toNat_lt
  have d2 := bel_cell (bel_alloc (bel_refl w) (.cells #[] 62)) c2
  have h2 : b2.toNat < 256 := b2.toNat_lt
  have d3 := bel_cell (bel_alloc (bel_refl w) (.cells #[] 62)) c3
  have h3 : b3.toNat < 256 := b3.toNat_lt
  have hv : ((Lib.beNat [b0, b1, b2, b3] : Nat) : Int) = (b3.toNat : Int) + (b2.toNat : Int) * 256 + (b1.toNat : Int) * 65536 + (b0.toNat : Int) * 16777216 := by
    simp only [Lib.beNat, Lib.beFrom]
    push_cast
    omega
  have HV := Lib.hid hv
  clear hv
  have p0 : 0 < n := by omega
  have p1 : (1 : Int) < (n : Int) := by omega
  have p2 : (2 : Int) < (n : Int) := by omega
  have p3 : (3 : Int) < (n : Int) := by omega
  go_enter Tryf.func66, Tryf.ntmps66
  go_wp2
  go_quiet (fail)
  go_wp2
  go_ret
  refine ⟨?_, ((Below.refl _ w).alloc (Nat.le_refl _) _).trans ⟨rfl, rfl, rfl, Nat.le_refl _, fun _ _ => rfl⟩⟩
  simp (disch := omega) only [u32_wrap_id, u32_or8, u32_or16, u32_or24]
  rw [HV.out]
  rfl
theorem rd32_any (g o n c : Nat) (l : List UInt8) (w : World) (hl : l.length = 4) (hn : 4 ≤ n) (h : BytesAt w g o l) :
    Calls Tryf.prog 66 #[.agg #[], .slice (some ⟨g, o, none⟩) n c] w fun e w' => e = .returned (.int .u32 ((Lib.beNat l : Nat) : Int)) ∧ Below w.heap.size w w' := by
  obtain ⟨b0, l0, rfl, hl0⟩ := list_n 3 _ hl
  obtain ⟨b1, l1, rfl, hl1⟩ := list_n 2 _ hl0
  obtain ⟨b2, l2, rfl, hl2⟩ := list_n 1 _ hl1
  obtain ⟨b3, l3, rfl, hl3⟩ := list_n 0 _ hl2
  obtain rfl : l3 = [] := List.eq_nil_of_length_eq_zero hl3
  exact rd32_nat g o n c b0 b1 b2 b3 w hn (h 0 b0 rfl) (h 1 b1 rfl) (h 2 b2 rfl) (h 3 b3 rfl)
set_option maxHeartbeats 4000000 in
theorem rd40_nat (g o n c : Nat) (b0 b1 b2 b3 b4 : UInt8) (w : World) (hn : 5 ≤ n)
    (c0 : w.cell? ⟨g, o, none⟩ = some (.int .u8 b0.toNat)) (c1 : w.cell? ⟨g, o + 1, none⟩ = some (.int .u8 b1.toNat)) (c2 : w.cell? ⟨g, o + 2, none⟩ = some (.int .u8 b2.toNat)) (c3 : w.cell? ⟨g, o + 3, none⟩ = some (.int .u8 b3.toNat)) (c4 : w.cell? ⟨g, o + 4, none⟩ = some (.int .u8 b4.toNat)) :
    Calls Tryf.prog 67 #[.slice (some ⟨g, o, none⟩) n c] w fun e w' => e = .returned (.int .u64 (Lib.beNat [b0, b1, b2, b3, b4])) ∧ Below w.heap.size w w' := by
  have h0 : b0.toNat < 256 := b0.toNat_lt
  have h1 : b1.toNat < 256 := b1.toNat_lt
  have h2 : b2.toNat < 256 := b2.toNat_lt
  have h3 : b3.toNat < 256 := b3.toNat_lt
  have h4 : b4.toNat < 256 := b4.toNat_lt
  have hv : ((Lib.beNat [b0, b1, b2, b3, b4] : Nat) : Int) = (b4.toNat : Int) + (b3.toNat : Int) * 256 + (b2.toNat : Int) * 65536 + (b1.toNat : Int) * 16777216 + (b0.toNat : Int) * 4294967296 := by
    simp only [Lib.beNat, Lib.beFrom]
    push_cast
    omega
  have HV := Lib.hid hv
  clear hv
  have p0 : 0 < n := by omega
  have p1 : (1 : Int) < (n : Int) := by omega
  have p2 : (2 : Int) < (n : Int) := by omega
  have p3 : (3 : Int) < (n : Int) := by omega
  have p4 : (4 : Int) < (n : Int) := by omega
  go_enter Tryf.func67, Tryf.ntmps67
  go_wp2
  go_quiet (fail)
  go_wp2
  go_ret
  refine ⟨?_, ⟨rfl, rfl, rfl, Nat.le_refl _, fun _ _ => rfl⟩⟩
  simp (disch := omega) only [u64_wrap_id, u64_or8, u64_or16, u64_or24, u64_or32]
  rw [HV.out]
  rfl
theorem rd40_any (g o n c : Nat) (l : List UInt8) (w : World) (hl : l.length = 5) (hn : 5 ≤ n) (h : BytesAt w g o l) :
    Calls Tryf.prog 67 #[.slice (some ⟨g, o, none⟩) n c] w fun e w' => e = .returned (.int .u64 ((Lib.beNat l : Nat) : Int)) ∧ Below w.heap.size w w' := by
  obtain ⟨b0, l0, rfl, hl0⟩ := list_n 4 _ hl
  obtain ⟨b1, l1, rfl, hl1⟩ := list_n 3 _ hl0
  obtain ⟨b2, l2, rfl, hl2⟩ := list_n 2 _ hl1
  obtain ⟨b3, l3, rfl, hl3⟩ := list_n 1 _ hl2
  obtain ⟨b4, l4, rfl, hl4⟩ := list_n 0 _ hl3
  obtain rfl : l4 = [] := List.eq_nil_of_length_eq_zero hl4
  exact rd40_nat g o n c b0 b1 b2 b3 b4 w hn (h 0 b0 rfl) (h 1 b1 rfl) (h 2 b2 rfl) (h 3 b3 rfl) (h 4 b4 rfl)
set_option maxHeartbeats 4000000 in
theorem rd48_nat (g o n c : Nat) (b0 b1 b2 b3 b4 b5 : UInt8) (w : World) (hn : 6 ≤ n)
    (c0 : w.cell? ⟨g, o, none⟩ = some (.int .u8 b0.toNat)) (c1 : w.cell? ⟨g, o + 1, none⟩ = some (.int .u8 b1.toNat)) (c2 : w.cell? ⟨g, o + 2, none⟩ = some (.int .u8 b2.toNat)) (c3 : w.cell? ⟨g, o + 3, none⟩ = some (.int .u8 b3.toNat)) (c4 : w.cell? ⟨g, o + 4, none⟩ = some (.int .u8 b4.toNat)) (c5 : w.cell? ⟨g, o + 5, none⟩ = some (.int .u8 b5.toNat)) :
    Calls Tryf.prog 68 #[.slice (some ⟨g, o, none⟩) n c] w fun e w' => e = .returned (.int .u64 (Lib.beNat [b0, b1, b2, b3, b4, b5])) ∧ Below w.heap.size w w' := by
  have h0 : b0.toNat < 256 := b0.toNat_lt
  have h1 : b1.toNat < 256 := b1.toNat_lt
  have h2 : b2.toNat < 256 := b2.toNat_lt
  have h3 : b3.toNat < 256 := b3.toNat_lt
  have h4 : b4.toNat < 256 := b4.toNat_lt
  have h5 : b5.toNat < 256 := b5.toNat_lt
  have hv : ((Lib.beNat [b0, b1, b2, b3, b4, b5] : Nat) : Int) = (b5.toNat : Int) + (b4.toNat : Int) * 256 + (b3.toNat : Int) * 65536 + (b2.toNat : Int) * 16777216 + (b1.toNat : Int) * 4294967296 + (b0.toNat : Int) * 1099511627776 := by
    simp only [Lib.beNat, Lib.beFrom]
    push_cast
    omega
  have HV := Lib.hid hv
  clear hv
  have p0 : 0 < n := by omega
  have p1 : (1 : Int) < (n : Int) := by omega
  have p2 : (2 : Int) < (n : Int) := by omega
  have p3 : (3 : Int) < (n : Int) := by omega
  have p4 : (4 : Int) < (n : Int) := by omega
  have p5 : (5 : Int) < (n : Int) := by omega
  go_enter Tryf.func68, Tryf.ntmps68
  go_wp2
  go_quiet (fail)
  go_wp2
  go_ret
  refine ⟨?_, ⟨rfl, rfl, rfl, Nat.le_refl _, fun _ _ => rfl⟩⟩
  simp (disch := omega) only [u64_wrap_id, u64_or8, u64_or16, u64_or24, u64_or32, u64_or40]
  rw [HV.out]
  rfl
theorem rd48_any (g o n c : Nat) (l : List UInt8) (w : World) (hl : l.length = 6) (hn : 6 ≤ n) (h : BytesAt w g o l) :
    Calls Tryf.prog 68 #[.slice (some ⟨g, o, none⟩) n c] w fun e w' => e = .returned (.int .u64 ((Lib.beNat l : Nat) : Int)) ∧ Below w.heap.size w w' := by
  obtain ⟨b0, l0, rfl, hl0⟩ := list_n 5 _ hl
  obtain ⟨b1, l1, rfl, hl1⟩ := list_n 4 _ hl0
  obtain ⟨b2, l2, rfl, hl2⟩ := list_n 3 _ hl1
  obtain ⟨b3, l3, rfl, hl3⟩ := list_n 2 _ hl2
  obtain ⟨b4, l4, rfl, hl4⟩ := list_n 1 _ hl3
  obtain ⟨b5, l5, rfl, hl5⟩ := list_n 0 _ hl4
  obtain rfl : l5 = [] := List.eq_nil_of_length_eq_zero hl5
  exact rd48_nat g o n c b0 b1 b2 b3 b4 b5 w hn (h 0 b0 rfl) (h 1 b1 rfl) (h 2 b2 rfl) (h 3 b3 rfl) (h 4 b4 rfl) (h 5 b5 rfl)
set_option maxHeartbeats 4000000 in
theorem rd56_nat (g o n c : Nat) (b0 b1 b2 b3 b4 b5 b6 : UInt8) (w : World) (hn : 7 ≤ n)
    (c0 : w.cell? ⟨g, o, none⟩ = some (.int .u8 b0.toNat)) (c1 : w.cell? ⟨g, o + 1, none⟩ = some (.int .u8 b1.toNat)) (c2 : w.cell? ⟨g, o + 2, none⟩ = some (.int .u8 b2.toNat)) (c3 : w.cell? ⟨g, o + 3, none⟩ = some (.int .u8 b3.toNat)) (c4 : w.cell? ⟨g, o + 4, none⟩ = some (.int .u8 b4.toNat)) (c5 : w.cell? ⟨g, o + 5, none⟩ = some (.int .u8 b5.toNat)) (c6 : w.cell? ⟨g, o + 6, none⟩ = some (.int .u8 b6.toNat)) :
    Calls Tryf.prog 69 #[.slice (some ⟨g, o, none⟩) n c] w fun e w' => e = .returned (.int .u64 (Lib.beNat [b0, b1, b2, b3, b4, b5, b6])) ∧ Below w.heap.size w w' := by
  have h0 : b0.toNat < 256 := b0.toNat_lt
  have h1 : b1.toNat < 256 := b1.toNat_lt
  have h2 : b2.toNat < 256 := b2.toNat_lt
  have h3 : b3.toNat < 256 := b3.toNat_lt
  have h4 : b4.toNat < 256 := b4.toNat_lt
  have h5 : b5.toNat < 256 := b5.toNat_lt
  have h6 : b6.toNat < 256 := b6.toNat_lt
  have hv : ((Lib.beNat [b0, b1, b2, b3, b4, b5, b6] : Nat) : Int) = (b6.toNat : Int) + (b5.toNat : Int) * 256 + (b4.toNat : Int) * 65536 + (b3.toNat : Int) * 16777216 + (b2.toNat : Int) * 4294967296 + (b1.toNat : Int) * 1099511627776 + (b0.toNat : Int) * 281474976710656 := by
    simp only [Lib.beNat, Lib.beFrom]
    push_cast
    omega
  have HV := Lib.hid hv
  clear hv
  have p0 : 0 < n := by omega
  have p1 : (1 : Int) < (n : Int) := by omega
  have p2 : (2 : Int) < (n : Int) := by omega
  have p3 : (3 : Int) < (n : Int) := by omega
  have p4 : (4 : Int) < (n : Int) := by omega
  have p5 : (5 : Int) < (n : Int) := by omega
  have p6 : (6 : Int) < (n : Int) := by omega
  go_enter Tryf.func69, Tryf.ntmps69
  go_wp2
  go_quiet (fail)
  go_wp2
  go_ret
  refine ⟨?_, ⟨rfl, rfl, rfl, Nat.le_refl _, fun _ _ => rfl⟩⟩
  simp (disch := omega) only [u64_wrap_id, u64_or8, u64_or16, u64_or24, u64_or32, u64_or40, u64_or48]
  rw [HV.out]
  rfl
theorem rd56_any (g o n c : Nat) (l : List UInt8) (w : World) (hl : l.length = 7) (hn : 7 ≤ n) (h : BytesAt w g o l) :
    Calls Tryf.prog 69 #[.slice (some ⟨g, o, none⟩) n c] w fun e w' => e = .returned (.int .u64 ((Lib.beNat l : Nat) : Int)) ∧ Below w.heap.size w w' := by
  obtain ⟨b0, l0, rfl, hl0⟩ := list_n 6 _ hl
  obtain ⟨b1, l1, rfl, hl1⟩ := list_n 5 _ hl0
  obtain ⟨b2, l2, rfl, hl2⟩ := list_n 4 _ hl1
  obtain ⟨b3, l3, rfl, hl3⟩ := list_n 3 _ hl2
  obtain ⟨b4, l4, rfl, hl4⟩ := list_n 2 _ hl3
  obtain ⟨b5, l5, rfl, hl5⟩ := list_n 1 _ hl4
  obtain ⟨b6, l6, rfl, hl6⟩ := list_n 0 _ hl5
  obtain rfl : l6 = [] := List.eq_nil_of_length_eq_zero hl6
  exact rd56_nat g o n c b0 b1 b2 b3 b4 b5 b6 w hn (h 0 b0 rfl) (h 1 b1 rfl) (h 2 b2 rfl) (h 3 b3 rfl) (h 4 b4 rfl) (h 5 b5 rfl) (h 6 b6 rfl)
set_option maxHeartbeats 4000000 in
theorem rd64_nat (g o n c : Nat) (b0 b1 b2 b3 b4 b5 b6 b7 : UInt8) (w : World) (hn : 8 ≤ n)
    (c0 : w.cell? ⟨g, o, none⟩ = some (.int .u8 b0.toNat)) (c1 : w.cell? ⟨g, o + 1, none⟩ = some (.int .u8 b1.toNat)) (c2 : w.cell? ⟨g, o + 2, none⟩ = some (.int .u8 b2.toNat)) (c3 : w.cell? ⟨g, o + 3, none⟩ = some (.int .u8 b3.toNat)) (c4 : w.cell? ⟨g, o + 4, none⟩ = some (.int .u8 b4.toNat)) (c5 : w.cell? ⟨g, o + 5, none⟩ = some (.int .u8 b5.toNat)) (c6 : w.cell? ⟨g, o + 6, none⟩ = some (.int .u8 b6.toNat)) (c7 : w.cell? ⟨g, o + 7, none⟩ = some (.int .u8 b7.toNat)) :
    Calls Tryf.prog 70 #[.agg #[], .slice (some ⟨g, o, none⟩) n c] w fun e w' => e = .returned (.int .u64 (Lib.beNat [b0, b1, b2, b3, b4, b5, b6, b7])) ∧ Below w.heap.size w w' := by
  have d0 := bel_cell (bel_alloc (bel_refl w) (.cells #[] 62)) c0
  have h0 : b0.toNat < 256 := b0.toNat_lt
  have d1 := bel_cell (bel_alloc (bel_refl w) (.cells #[] 62)) c1
  have h1 : b1.toNat < 256 := b1.toNat_lt
  have d2 := bel_cell (bel_alloc (bel_refl w) (.cells #[] 62)) c2
  have h2 : b2.toNat < 256 := b2.toNat_lt
  have d3 := bel_cell (bel_alloc (bel_refl w) (.cells #[] 62)) c3
  have h3 : b3.toNat < 256 := b3.toNat_lt
  have d4 := bel_cell (bel_alloc (bel_refl w) (.cells #[] 62)) c4
  have h4 : b4.toNat < 256 := b4.toNat_lt
  have d5 := bel_cell (bel_alloc (bel_refl w) (.cells #[] 62)) c5
  have h5 : b5.toNat < 256 := b5.toNat_lt
  have d6 := bel_cell (bel_alloc (bel_refl w) (.cells #[] 62)) c6
  have h6 : b6.toNat < 256 := b6.toNat_lt
  have d7 := bel_cell (bel_alloc (bel_refl w) (.cells #[] 62)) c7
  have h7 : b7.toNat < 256 := b7.toNat_lt
  have hv : ((Lib.beNat [b0, b1, b2, b3, b4, b5, b6, b7] : Nat) : Int) = (b7.toNat : Int) + (b6.toNat : Int) * 256 + (b5.toNat : Int) * 65536 + (b4.toNat : Int) * 16777216 + (b3.toNat : Int) * 4294967296 + (b2.toNat : Int) * 1099511627776 + (b1.toNat : Int) * 281474976710656 + (b0.toNat : Int) * 72057594037927936 := by
    simp only [Lib.beNat, Lib.beFrom]
    push_cast
    omega
  have HV := Lib.hid hv
  clear hv
  have p0 : 0 < n := by omega
  have p1 : (1 : Int) < (n : Int) := by omega
  have p2 : (2 : Int) < (n : Int) := by omega
  have p3 : (3 : Int) < (n : Int) := by omega
  have p4 : (4 : Int) < (n : Int) := by omega
  have p5 : (5 : Int) < (n : Int) := by omega
  have p6 : (6 : Int) < (n : Int) := by omega
  have p7 : (7 : Int) < (n : Int) := by omega
  go_enter Tryf.func70, Tryf.ntmps70
  go_wp2
  go_quiet (fail)
  go_wp2
  go_ret
  refine ⟨?_, ((Below.refl _ w).alloc (Nat.le_refl _) _).trans ⟨rfl, rfl, rfl, Nat.le_refl _, fun _ _ => rfl⟩⟩
  simp (disch := omega) only [u64_wrap_id, u64_or8, u64_or16, u64_or24, u64_or32, u64_or40, u64_or48, u64_or56]
  rw [HV.out]
  rfl
theorem rd64_any (g o n c : Nat) (l : List UInt8) (w : World) (hl : l.length = 8) (hn : 8 ≤ n) (h : BytesAt w g o l) :
    Calls Tryf.prog 70 #[.agg #[], .slice (some ⟨g, o, none⟩) n c] w fun e w' => e = .returned (.int .u64 ((Lib.beNat l : Nat) : Int)) ∧ Below w.heap.size w w' := by
  obtain ⟨b0, l0, rfl, hl0⟩ := list_n 7 _ hl
  obtain ⟨b1, l1, rfl, hl1⟩ := list_n 6 _ hl0
  obtain ⟨b2, l2, rfl, hl2⟩ := list_n 5 _ hl1
  obtain ⟨b3, l3, rfl, hl3⟩ := list_n 4 _ hl2
  obtain ⟨b4, l4, rfl, hl4⟩ := list_n 3 _ hl3
  obtain ⟨b5, l5, rfl, hl5⟩ := list_n 2 _ hl4
  obtain ⟨b6, l6, rfl, hl6⟩ := list_n 1 _ hl5
  obtain ⟨b7, l7, rfl, hl7⟩ := list_n 0 _ hl6
  obtain rfl : l7 = [] := List.eq_nil_of_length_eq_zero hl7
  exact rd64_nat g o n c b0 b1 b2 b3 b4 b5 b6 b7 w hn (h 0 b0 rfl) (h 1 b1 rfl) (h 2 b2 rfl) (h 3 b3 rfl) (h 4 b4 rfl) (h 5 b5 rfl) (h 6 b6 rfl) (h 7 b7 rfl)
set_option maxHeartbeats 4000000 in
theorem rdL64_nat (g o n c : Nat) (b0 b1 b2 b3 b4 b5 b6 b7 : UInt8) (w : World) (hn : 8 ≤ n)
    (c0 : w.cell? ⟨g, o, none⟩ = some (.int .u8 b0.toNat)) (c1 : w.cell? ⟨g, o + 1, none⟩ = some (.int .u8 b1.toNat)) (c2 : w.cell? ⟨g, o + 2, none⟩ = some (.int .u8 b2.toNat)) (c3 : w.cell? ⟨g, o + 3, none⟩ = some (.int .u8 b3.toNat)) (c4 : w.cell? ⟨g, o + 4, none⟩ = some (.int .u8 b4.toNat)) (c5 : w.cell? ⟨g, o + 5, none⟩ = some (.int .u8 b5.toNat)) (c6 : w.cell? ⟨g, o + 6, none⟩ = some (.int .u8 b6.toNat)) (c7 : w.cell? ⟨g, o + 7, none⟩ = some (.int .u8 b7.toNat)) :
    Calls Tryf.prog 24 #[.agg #[], .slice (some ⟨g, o, none⟩) n c] w fun e w' => e = .returned (.int .u64 (Lib.beNat [b7, b6, b5, b4, b3, b2, b1, b0])) ∧ Below w.heap.size w w' := by
  have d0 := bel_cell (bel_alloc (bel_refl w) (.cells #[] 57)) c0
  have h0 : b0.toNat < 256 := b0.toNat_lt
  have d1 := bel_cell (bel_alloc (bel_refl w) (.cells #[] 57)) c1
  have h1 : b1.toNat < 256 := b1.toNat_lt
  have d2 := bel_cell (bel_alloc (bel_refl w) (.cells #[] 57)) c2
  have h2 : b2.toNat < 256 := b2.toNat_lt
  have d3 := bel_cell (bel_alloc (bel_refl w) (.cells #[] 57)) c3
  have h3 : b3.toNat < 256 := b3.toNat_lt
  have d4 := bel_cell (bel_alloc (bel_refl w) (.cells #[] 57)) c4
  have h4 : b4.toNat < 256 := b4.toNat_lt
  have d5 := bel_cell (bel_alloc (bel_refl w) (.cells #[] 57)) c5
  have h5 : b5.toNat < 256 := b5.toNat_lt
  have d6 := bel_cell (bel_alloc (bel_refl w) (.cells #[] 57)) c6
  have h6 : b6.toNat < 256 := b6.toNat_lt
  have d7 := bel_cell (bel_alloc (bel_refl w) (.cells #[] 57)) c7
  have h7 : b7.toNat < 256 := b7.toNat_lt
  have hv : ((Lib.beNat [b7, b6, b5, b4, b3, b2, b1, b0] : Nat) : Int) = (b0.toNat : Int) + (b1.toNat : Int) * 256 + (b2.toNat : Int) * 65536 + (b3.toNat : Int) * 16777216 + (b4.toNat : Int) * 4294967296 + (b5.toNat : Int) * 1099511627776 + (b6.toNat : Int) * 281474976710656 + (b7.toNat : Int) * 72057594037927936 := by
    simp only [Lib.beNat, Lib.beFrom]
    push_cast
    omega
  have HV := Lib.hid hv
  clear hv
  have p0 : 0 < n := by omega
  have p1 : (1 : Int) < (n : Int) := by omega
  have p2 : (2 : Int) < (n : Int) := by omega
  have p3 : (3 : Int) < (n : Int) := by omega
  have p4 : (4 : Int) < (n : Int) := by omega
  have p5 : (5 : Int) < (n : Int) := by omega
  have p6 : (6 : Int) < (n : Int) := by omega
  have p7 : (7 : Int) < (n : Int) := by omega
  go_enter Tryf.func24, Tryf.ntmps24
  go_wp2
  go_quiet (fail)
  go_wp2
  go_ret
  refine ⟨?_, ((Below.refl _ w).alloc (Nat.le_refl _) _).trans ⟨rfl, rfl, rfl, Nat.le_refl _, fun _ _ => rfl⟩⟩
  simp (disch := omega) only [u64_wrap_id, u64_or8, u64_or16, u64_or24, u64_or32, u64_or40, u64_or48, u64_or56]
  rw [HV.out]
  rfl
theorem rdL64_any (g o n c : Nat) (l : List UInt8) (w : World) (hl : l.length = 8) (hn : 8 ≤ n) (h : BytesAt w g o l) :
    Calls Tryf.prog 24 #[.agg #[], .slice (some ⟨g, o, none⟩) n c] w fun e w' => e = .returned (.int .u64 ((Lib.beNat l.reverse : Nat) : Int)) ∧ Below w.heap.size w w' := by
  obtain ⟨b0, l0, rfl, hl0⟩ := list_n 7 _ hl
  obtain ⟨b1, l1, rfl, hl1⟩ := list_n 6 _ hl0
  obtain ⟨b2, l2, rfl, hl2⟩ := list_n 5 _ hl1
  obtain ⟨b3, l3, rfl, hl3⟩ := list_n 4 _ hl2
  obtain ⟨b4, l4, rfl, hl4⟩ := list_n 3 _ hl3
  obtain ⟨b5, l5, rfl, hl5⟩ := list_n 2 _ hl4
  obtain ⟨b6, l6, rfl, hl6⟩ := list_n 1 _ hl5
  obtain ⟨b7, l7, rfl, hl7⟩ := list_n 0 _ hl6
  obtain rfl : l7 = [] := List.eq_nil_of_length_eq_zero hl7
  exact rdL64_nat g o n c b0 b1 b2 b3 b4 b5 b6 b7 w hn (h 0 b0 rfl) (h 1 b1 rfl) (h 2 b2 rfl) (h 3 b3 rfl) (h 4 b4 rfl) (h 5 b5 rfl) (h 6 b6 rfl) (h 7 b7 rfl)
end Go.Proofs.YtpmhkmcikjbncaaFmt
