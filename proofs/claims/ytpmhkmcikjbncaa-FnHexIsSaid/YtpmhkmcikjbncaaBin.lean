/-
  Contracts of encoding/binary's writers and readers of whole numbers.
-/
import Derived.Test.YtpmhkmcikjbncaaByt2
import Derived.Test.YtpmhkmcikjbncaaDesk3
import Derived.Test.YtpmhkmcikjbncaaHeldM
import Derived.Lib.EndianBits
import Derived.Laws.NewBlocks
import Derived.RegionTactic
import Derived.Outline
namespace Go.Proofs.Ytpmhkmcikjbncaa
open Go.RowKit
set_option linter.unusedVariables false
set_option linter.unusedSimpArgs false
set_option maxRecDepth 100000
set_option maxHeartbeats 4000000 in
theorem putU64_nat (g o n c v : Nat) (hv : v < 18446744073709551616) (w : World) (hn : 8 ≤ n) (ht : w.there g o 8) :
    Calls Try.prog 56 #[.agg #[], .slice (some ⟨g, o, none⟩) n c, .int .u64 v] w fun e w' => e = .returned (.tuple #[]) ∧ w' = (w.alloc (.cells #[] 77)).setCells g o (Lib.byteCells (Lib.beBytes 8 v)) := by
  have ht2 := World.there_alloc ht (.cells #[] 77)
  have q0 := ht2 0 (by omega)
  rw [Nat.add_zero] at q0
  obtain ⟨x0, d0⟩ := Option.isSome_iff_exists.1 q0.1
  have fa0 := q0.2
  clear q0
  have q1 := ht2 1 (by omega)
  obtain ⟨x1, d1⟩ := Option.isSome_iff_exists.1 q1.1
  have fa1 := q1.2
  clear q1
  have q2 := ht2 2 (by omega)
  obtain ⟨x2, d2⟩ := Option.isSome_iff_exists.1 q2.1
  have fa2 := q2.2
  clear q2
  have q3 := ht2 3 (by omega)
  obtain ⟨x3, d3⟩ := Option.isSome_iff_exists.1 q3.1
  have fa3 := q3.2
  clear q3
  have q4 := ht2 4 (by omega)
  obtain ⟨x4, d4⟩ := Option.isSome_iff_exists.1 q4.1
  have fa4 := q4.2
  clear q4
  have q5 := ht2 5 (by omega)
  obtain ⟨x5, d5⟩ := Option.isSome_iff_exists.1 q5.1
  have fa5 := q5.2
  clear q5
  have q6 := ht2 6 (by omega)
  obtain ⟨x6, d6⟩ := Option.isSome_iff_exists.1 q6.1
  have fa6 := q6.2
  clear q6
  have q7 := ht2 7 (by omega)
  obtain ⟨x7, d7⟩ := Option.isSome_iff_exists.1 q7.1
  have fa7 := q7.2
  clear q7
  clear ht2
  clear ht
  have e0 : ((v % 256 : Nat) : Int) = (v : Int) % 256 := by omega
  have e1 : ((v / 256 % 256 : Nat) : Int) = (v : Int) / 256 % 256 := by omega
  have e2 : ((v / 256 / 256 % 256 : Nat) : Int) = (v : Int) / 65536 % 256 := by omega
  have e3 : ((v / 256 / 256 / 256 % 256 : Nat) : Int) = (v : Int) / 16777216 % 256 := by omega
  have e4 : ((v / 256 / 256 / 256 / 256 % 256 : Nat) : Int) = (v : Int) / 4294967296 % 256 := by omega
  have e5 : ((v / 256 / 256 / 256 / 256 / 256 % 256 : Nat) : Int) = (v : Int) / 1099511627776 % 256 := by omega
  have e6 : ((v / 256 / 256 / 256 / 256 / 256 / 256 % 256 : Nat) : Int) = (v : Int) / 281474976710656 % 256 := by omega
  have e7 : ((v / 256 / 256 / 256 / 256 / 256 / 256 / 256 % 256 : Nat) : Int) = (v : Int) / 72057594037927936 := by omega
  have hb : Lib.byteCells (Lib.beBytes 8 v) = [Value.int .u8 ((v : Int) / 72057594037927936), Value.int .u8 ((v : Int) / 281474976710656 % 256), Value.int .u8 ((v : Int) / 1099511627776 % 256), Value.int .u8 ((v : Int) / 4294967296 % 256), Value.int .u8 ((v : Int) / 16777216 % 256), Value.int .u8 ((v : Int) / 65536 % 256), Value.int .u8 ((v : Int) / 256 % 256), Value.int .u8 ((v : Int) % 256)] := by
    simp only [Lib.byteCells, Lib.beBytes, Lib.leBytes, List.reverse_cons, List.reverse_nil, List.nil_append, List.cons_append, List.map, Lib.toUInt8_mod, e0, e1, e2, e3, e4, e5, e6, e7]
  clear e0 e1 e2 e3 e4 e5 e6 e7
  go_enter Try.func56, Try.ntmps56
  go_wp2
  go_end0
  refine ⟨rfl, ?_⟩
  rw [hb]
  rfl
theorem putU64_any (g o n c : Nat) (x : W64) (w : World) (hn : 8 ≤ n) (ht : w.there g o 8) :
    Calls Try.prog 56 #[.agg #[], .slice (some ⟨g, o, none⟩) n c, V x] w fun e w' => e = .returned (.tuple #[]) ∧ w' = (w.alloc (.cells #[] 77)).setCells g o (Lib.byteCells (Lib.beBytes 8 x.toNat)) := putU64_nat g o n c x.toNat x.isLt w hn ht
set_option maxHeartbeats 4000000 in
theorem putU32_nat (g o n c v : Nat) (hv : v < 4294967296) (w : World) (hn : 4 ≤ n) (ht : w.there g o 4) :
    Calls Try.prog 59 #[.agg #[], .slice (some ⟨g, o, none⟩) n c, .int .u32 v] w fun e w' => e = .returned (.tuple #[]) ∧ w' = (w.alloc (.cells #[] 77)).setCells g o (Lib.byteCells (Lib.beBytes 4 v)) := by
  have ht2 := World.there_alloc ht (.cells #[] 77)
  have q0 := ht2 0 (by omega)
  rw [Nat.add_zero] at q0
  obtain ⟨x0, d0⟩ := Option.isSome_iff_exists.1 q0.1
  have fa0 := q0.2
  clear q0
  have q1 := ht2 1 (by omega)
  obtain ⟨x1, d1⟩ := Option.isSome_iff_exists.1 q1.1
  have fa1 := q1.2
  clear q1
  have q2 := ht2 2 (by omega)
  obtain ⟨x2, d2⟩ := Option.isSome_iff_exists.1 q2.1
  have fa2 := q2.2
  clear q2
  have q3 := ht2 3 (by omega)
  obtain ⟨x3, d3⟩ := Option.isSome_iff_exists.1 q3.1
  have fa3 := q3.2
  clear q3
  clear ht2
  clear ht
  have e0 : ((v % 256 : Nat) : Int) = (v : Int) % 256 := by omega
  have e1 : ((v / 256 % 256 : Nat) : Int) = (v : Int) / 256 % 256 := by omega
  have e2 : ((v / 256 / 256 % 256 : Nat) : Int) = (v : Int) / 65536 % 256 := by omega
  have e3 : ((v / 256 / 256 / 256 % 256 : Nat) : Int) = (v : Int) / 16777216 := by omega
  have hb : Lib.byteCells (Lib.beBytes 4 v) = [Value.int .u8 ((v : Int) / 16777216), Value.int .u8 ((v : Int) / 65536 % 256), Value.int .u8 ((v : Int) / 256 % 256), Value.int .u8 ((v : Int) % 256)] := by
    simp only [Lib.byteCells, Lib.beBytes, Lib.leBytes, List.reverse_cons, List.reverse_nil, List.nil_append, List.cons_append, List.map, Lib.toUInt8_mod, e0, e1, e2, e3]
  clear e0 e1 e2 e3
  go_enter Try.func59, Try.ntmps59
  go_wp2
  go_end0
  refine ⟨rfl, ?_⟩
  rw [hb]
  rfl
end Go.Proofs.Ytpmhkmcikjbncaa
