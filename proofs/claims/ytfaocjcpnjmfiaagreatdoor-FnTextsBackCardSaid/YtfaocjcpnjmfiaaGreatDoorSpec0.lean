/-
  Contracts of the reference's functions without loops: Below, Not, And, Or, Xor, Cell, Get, Put, X, Y, M; and of the laws' told.
-/
import Derived.Test.YtfaocjcpnjmfiaaGreatDoorDeskG
import Derived.Test.YtfaocjcpnjmfiaaGreatDoorOrd
namespace Go.Proofs.YtfaocjcpnjmfiaaGreatDoor
open Go.RowKit
theorem retBel_row {P : Program} {fn : Func} {a : Act} {w w' : World} {p : Tmp} {ty : TypeId} (h : fn.results = #[.cell p ty]) (hd : a.defers = []) (g : Nat) (cs : List Value) (d : TypeDesc)
    (hp : a.tmps.getD p undef = .pointer (some ⟨g, 0, none⟩)) (hc : w'.rangeAt g 0 cs) (hu : P.underlying ty = some d) (hdr : d.isRow = true) (hi : (P.info? ty).map (·.size) = some cs.length) {v : Value} (hv : v = .agg cs.toArray) (hb : Below w.heap.size w w') :
    bodyPost P fn (RetBel v w) .ret a w' :=
  bodyPost_ret (results_cell_mid h _ _ g cs d hp hc hu hdr hi) hd (by subst hv; exact retBel rfl hb)

end Go.Proofs.YtfaocjcpnjmfiaaGreatDoor
