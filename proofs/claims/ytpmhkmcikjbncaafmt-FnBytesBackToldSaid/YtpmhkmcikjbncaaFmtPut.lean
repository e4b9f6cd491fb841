/-
  Contracts of PutUint256: it writes all 32 bytes, and panics where there are less than 32; the thin package's call of it, which recovers.
-/
import Derived.Test.YtpmhkmcikjbncaaFmtSsz
import Derived.Lib.BoundsPanic
import Derived.Defers
import Derived.Recover
namespace Go.Proofs.YtpmhkmcikjbncaaFmt
open Go.RowKit
set_option linter.unusedVariables false
set_option linter.unusedSimpArgs false
set_option maxRecDepth 100000
/-- A row whose first bytes are being written, the end from 32 on as it was. -/
structure Over (base : Nat) (w : World) (b o : Nat) (x : N4) (g n : Nat) (l rest : List UInt8) (W : World) : Prop where
  at4 : At4 W b o x
  here : W.there g 0 n
  row : W.rangeAt g 0 (Lib.byteCells l)
  tail : W.rangeAt g 32 (Lib.byteCells rest)
  bel : Below base w W
theorem Over.put {base : Nat} {w W : World} {b o g n : Nat} {x : N4} {l rest : List UInt8} (h : Over base w b o x g n l rest W) (hbg : b ≠ g) (hw : base ≤ w.heap.size) (hg : base ≤ g) (m : List UInt8) (hm : l.length + m.length ≤ 32) (hn : 32 ≤ n) (ob : Obj) :
    Over base w b o x g n (l ++ m) rest ((W.alloc ob).drew.setCells g l.length (Lib.byteCells m)) := by
  show Over base w b o x g n (l ++ m) rest ((W.drew.alloc ob).setCells g l.length (Lib.byteCells m))
  refine ⟨?_, ?_, ?_, ?_, ?_⟩
  · exact ((h.at4.drewN 1).alloc ob).setFar4 hbg
  · exact World.there_setCells (World.there_alloc ((World.there_drew W g 0 n).2 h.here) ob) _ _ _
  · rw [Lib.byteCells_append]
    refine rangeAt_append (World.rangeAt_setCells_apart (World.rangeAt_alloc ((World.rangeAt_drew W g 0 _).2 h.row) ob) _ _ _ (.inr (.inl (by rw [bytes_len]; omega)))) ?_
    rw [bytes_len, Nat.zero_add]
    exact World.rangeAt_setCells_same _ _ _ _ (there_part (World.there_alloc ((World.there_drew W g 0 n).2 h.here) ob) (by rw [bytes_len]; omega))
  · exact World.rangeAt_setCells_apart (World.rangeAt_alloc ((World.rangeAt_drew W g 32 _).2 h.tail) ob) _ _ _ (.inr (.inr (by rw [bytes_len]; omega)))
  · have h1 : Below base w (W.drew.alloc ob) := h.bel.drew.alloc (Nat.le_trans hw h.bel.size) ob
    exact setCells_bel' h1 hg
end Go.Proofs.YtpmhkmcikjbncaaFmt
