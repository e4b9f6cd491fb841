/-
  No cell of these rows narrows 'for every input' (looked for: loops, veiled, ifaces, maps, wideKeys, modest, calm, conditions, laid).
  DERIVED. THE GIVEN ROWS OF THIS SEAT. 12 by the template 'for every input the law returns true; each argument reads behind the call as it read before'; 0 by the template 'total and deterministic' (their statements: YtoojfokhaennoaaTotals.lean).
  GIVEN WITH THE SEED: the statements are not yours to turn. If you find one false, say at which input.
  Laid BY PROGRAM, IN A SANDBOX (cutbox-rows.mjs): the forced cells as the released guide's own fill.sh prints them over the translation d697c1a552be97f1… (all of the seat's roots in one cut). By AI agents, Wed Nov 11 2026. No macro, syntax, notation, axiom, sorry.
-/
import Derived.Test.YtoojfokhaennoaaChecked
import GoSem.Claim
import GoSem.ClaimJoined
import GoSem.ClaimMapViews
import Derived.JoinedTies
import Derived.KernelRfl
namespace Go.Proofs.Ytoojfokhaennoaa
/- THE CELL 'sum', in the pinned program and in every row, IS THE sha256 OF THE DUMP (.gsa) THAT YtoojfokhaennoaaProg.lean LOADS. Nothing in Lean hashes anything: it is a label: what it is worth is what the hold of that sum in a sandbox is worth. -/
noncomputable def Try.pinned : Pinned := { name := "ytoojfokhaennoaa", sum := "d697c1a552be97f1f123e80c98f312497154e6c732cc83dbae916d8193f1c23d", checked := Try.checked }
namespace Rows
def none {H : Type} : Left H := { results := [], args := [] }

/-- 'laws.FnExpIs': WHATEVER THE INPUT: true; the input reads as it did. -/
def fnExpIsSpec : ChangeSpec := { name := "fnExpIs", fn := fun _ => fun
  | [d1, d2] => { results := [.lit (.bool true)], args := [d1, d2] }
  | _ => none }
def fnExpIsRow : OpenClaim := { program := "ytoojfokhaennoaa", sum := "d697c1a552be97f1f123e80c98f312497154e6c732cc83dbae916d8193f1c23d", func := "loop.example/pub-g03023/laws.FnExpIs", spec := "fnExpIs", inPlace := ["math/bits.Add64"], unfollowed := true, recurses := true, apart := false }
def FnExpIsSaid : Prop := fnExpIsRow.holds Try.pinned (OpenSpec.ofChange fnExpIsSpec)

/-- ITS FALSE NEIGHBOUR: 'it returns false'. Refute it at one input. -/
def fnExpIsWrong : ChangeSpec := { name := "fnExpIs", fn := fun _ => fun
  | [d1, d2] => { results := [.lit (.bool false)], args := [d1, d2] }
  | _ => none }
def FnExpIsWrongFalsely : Prop := fnExpIsRow.holds Try.pinned (OpenSpec.ofChange fnExpIsWrong)

/-- 'laws.FnExpMuls': WHATEVER THE INPUT: true; the input reads as it did. -/
def fnExpMulsSpec : ChangeSpec := { name := "fnExpMuls", fn := fun _ => fun
  | [d1, d2, d3] => { results := [.lit (.bool true)], args := [d1, d2, d3] }
  | _ => none }
def fnExpMulsRow : OpenClaim := { program := "ytoojfokhaennoaa", sum := "d697c1a552be97f1f123e80c98f312497154e6c732cc83dbae916d8193f1c23d", func := "loop.example/pub-g03023/laws.FnExpMuls", spec := "fnExpMuls", inPlace := ["math/bits.Add64"], unfollowed := true, recurses := true, apart := false }
def FnExpMulsSaid : Prop := fnExpMulsRow.holds Try.pinned (OpenSpec.ofChange fnExpMulsSpec)

/-- ITS FALSE NEIGHBOUR: 'it returns false'. Refute it at one input. -/
def fnExpMulsWrong : ChangeSpec := { name := "fnExpMuls", fn := fun _ => fun
  | [d1, d2, d3] => { results := [.lit (.bool false)], args := [d1, d2, d3] }
  | _ => none }
def FnExpMulsWrongFalsely : Prop := fnExpMulsRow.holds Try.pinned (OpenSpec.ofChange fnExpMulsWrong)

/-- 'laws.FnExpAdds': WHATEVER THE INPUT: true; the input reads as it did. -/
def fnExpAddsSpec : ChangeSpec := { name := "fnExpAdds", fn := fun _ => fun
  | [d1, d2, d3] => { results := [.lit (.bool true)], args := [d1, d2, d3] }
  | _ => none }
def fnExpAddsRow : OpenClaim := { program := "ytoojfokhaennoaa", sum := "d697c1a552be97f1f123e80c98f312497154e6c732cc83dbae916d8193f1c23d", func := "loop.example/pub-g03023/laws.FnExpAdds", spec := "fnExpAdds", inPlace := ["math/bits.Add64"], unfollowed := true, recurses := true, apart := false }
def FnExpAddsSaid : Prop := fnExpAddsRow.holds Try.pinned (OpenSpec.ofChange fnExpAddsSpec)

/-- ITS FALSE NEIGHBOUR: 'it returns false'. Refute it at one input. -/
def fnExpAddsWrong : ChangeSpec := { name := "fnExpAdds", fn := fun _ => fun
  | [d1, d2, d3] => { results := [.lit (.bool false)], args := [d1, d2, d3] }
  | _ => none }
def FnExpAddsWrongFalsely : Prop := fnExpAddsRow.holds Try.pinned (OpenSpec.ofChange fnExpAddsWrong)

/-- 'laws.FnAddModIs': WHATEVER THE INPUT: true; the input reads as it did. -/
def fnAddModIsSpec : ChangeSpec := { name := "fnAddModIs", fn := fun _ => fun
  | [d1, d2] => { results := [.lit (.bool true)], args := [d1, d2] }
  | _ => none }
def fnAddModIsRow : OpenClaim := { program := "ytoojfokhaennoaa", sum := "d697c1a552be97f1f123e80c98f312497154e6c732cc83dbae916d8193f1c23d", func := "loop.example/pub-g03023/laws.FnAddModIs", spec := "fnAddModIs", inPlace := ["math/bits.Sub64", "math/bits.Add64"], unfollowed := true, recurses := true, apart := false }
def FnAddModIsSaid : Prop := fnAddModIsRow.holds Try.pinned (OpenSpec.ofChange fnAddModIsSpec)

/-- ITS FALSE NEIGHBOUR: 'it returns false'. Refute it at one input. -/
def fnAddModIsWrong : ChangeSpec := { name := "fnAddModIs", fn := fun _ => fun
  | [d1, d2] => { results := [.lit (.bool false)], args := [d1, d2] }
  | _ => none }
def FnAddModIsWrongFalsely : Prop := fnAddModIsRow.holds Try.pinned (OpenSpec.ofChange fnAddModIsWrong)

/-- 'laws.FnAddModRoads': WHATEVER THE INPUT: true; the input reads as it did. -/
def fnAddModRoadsSpec : ChangeSpec := { name := "fnAddModRoads", fn := fun _ => fun
  | [d1, d2, d3] => { results := [.lit (.bool true)], args := [d1, d2, d3] }
  | _ => none }
def fnAddModRoadsRow : OpenClaim := { program := "ytoojfokhaennoaa", sum := "d697c1a552be97f1f123e80c98f312497154e6c732cc83dbae916d8193f1c23d", func := "loop.example/pub-g03023/laws.FnAddModRoads", spec := "fnAddModRoads", inPlace := ["math/bits.Sub64", "math/bits.Add64"], unfollowed := true, recurses := true, apart := false }
def FnAddModRoadsSaid : Prop := fnAddModRoadsRow.holds Try.pinned (OpenSpec.ofChange fnAddModRoadsSpec)

/-- ITS FALSE NEIGHBOUR: 'it returns false'. Refute it at one input. -/
def fnAddModRoadsWrong : ChangeSpec := { name := "fnAddModRoads", fn := fun _ => fun
  | [d1, d2, d3] => { results := [.lit (.bool false)], args := [d1, d2, d3] }
  | _ => none }
def FnAddModRoadsWrongFalsely : Prop := fnAddModRoadsRow.holds Try.pinned (OpenSpec.ofChange fnAddModRoadsWrong)

/-- 'laws.FnDivModFits': WHATEVER THE INPUT: true; the input reads as it did. -/
def fnDivModFitsSpec : ChangeSpec := { name := "fnDivModFits", fn := fun _ => fun
  | [d1, d2] => { results := [.lit (.bool true)], args := [d1, d2] }
  | _ => none }
def fnDivModFitsRow : OpenClaim := { program := "ytoojfokhaennoaa", sum := "d697c1a552be97f1f123e80c98f312497154e6c732cc83dbae916d8193f1c23d", func := "loop.example/pub-g03023/laws.FnDivModFits", spec := "fnDivModFits", inPlace := ["math/bits.Sub64", "math/bits.Add64"], unfollowed := true, recurses := true, apart := false }
def FnDivModFitsSaid : Prop := fnDivModFitsRow.holds Try.pinned (OpenSpec.ofChange fnDivModFitsSpec)

/-- ITS FALSE NEIGHBOUR: 'it returns false'. Refute it at one input. -/
def fnDivModFitsWrong : ChangeSpec := { name := "fnDivModFits", fn := fun _ => fun
  | [d1, d2] => { results := [.lit (.bool false)], args := [d1, d2] }
  | _ => none }
def FnDivModFitsWrongFalsely : Prop := fnDivModFitsRow.holds Try.pinned (OpenSpec.ofChange fnDivModFitsWrong)

/-- 'laws.FnMulDivOverflowIs': WHATEVER THE INPUT: true; the input reads as it did. -/
def fnMulDivOverflowIsSpec : ChangeSpec := { name := "fnMulDivOverflowIs", fn := fun _ => fun
  | [d1, d2] => { results := [.lit (.bool true)], args := [d1, d2] }
  | _ => none }
def fnMulDivOverflowIsRow : OpenClaim := { program := "ytoojfokhaennoaa", sum := "d697c1a552be97f1f123e80c98f312497154e6c732cc83dbae916d8193f1c23d", func := "loop.example/pub-g03023/laws.FnMulDivOverflowIs", spec := "fnMulDivOverflowIs", inPlace := ["math/bits.Add64", "math/bits.Sub64"], unfollowed := true, recurses := true, apart := false }
def FnMulDivOverflowIsSaid : Prop := fnMulDivOverflowIsRow.holds Try.pinned (OpenSpec.ofChange fnMulDivOverflowIsSpec)

/-- ITS FALSE NEIGHBOUR: 'it returns false'. Refute it at one input. -/
def fnMulDivOverflowIsWrong : ChangeSpec := { name := "fnMulDivOverflowIs", fn := fun _ => fun
  | [d1, d2] => { results := [.lit (.bool false)], args := [d1, d2] }
  | _ => none }
def FnMulDivOverflowIsWrongFalsely : Prop := fnMulDivOverflowIsRow.holds Try.pinned (OpenSpec.ofChange fnMulDivOverflowIsWrong)

/-- 'laws.FnMulDivRoads': WHATEVER THE INPUT: true; the input reads as it did. -/
def fnMulDivRoadsSpec : ChangeSpec := { name := "fnMulDivRoads", fn := fun _ => fun
  | [d1, d2, d3] => { results := [.lit (.bool true)], args := [d1, d2, d3] }
  | _ => none }
def fnMulDivRoadsRow : OpenClaim := { program := "ytoojfokhaennoaa", sum := "d697c1a552be97f1f123e80c98f312497154e6c732cc83dbae916d8193f1c23d", func := "loop.example/pub-g03023/laws.FnMulDivRoads", spec := "fnMulDivRoads", inPlace := ["math/bits.Add64", "math/bits.Sub64"], unfollowed := true, recurses := true, apart := false }
def FnMulDivRoadsSaid : Prop := fnMulDivRoadsRow.holds Try.pinned (OpenSpec.ofChange fnMulDivRoadsSpec)

/-- ITS FALSE NEIGHBOUR: 'it returns false'. Refute it at one input. -/
def fnMulDivRoadsWrong : ChangeSpec := { name := "fnMulDivRoads", fn := fun _ => fun
  | [d1, d2, d3] => { results := [.lit (.bool false)], args := [d1, d2, d3] }
  | _ => none }
def FnMulDivRoadsWrongFalsely : Prop := fnMulDivRoadsRow.holds Try.pinned (OpenSpec.ofChange fnMulDivRoadsWrong)

/-- 'laws.FnShiftIsMul': WHATEVER THE INPUT: true; the input reads as it did. -/
def fnShiftIsMulSpec : ChangeSpec := { name := "fnShiftIsMul", fn := fun _ => fun
  | [d1, d2] => { results := [.lit (.bool true)], args := [d1, d2] }
  | _ => none }
def fnShiftIsMulRow : OpenClaim := { program := "ytoojfokhaennoaa", sum := "d697c1a552be97f1f123e80c98f312497154e6c732cc83dbae916d8193f1c23d", func := "loop.example/pub-g03023/laws.FnShiftIsMul", spec := "fnShiftIsMul", inPlace := ["math/bits.Add64", "math/bits.Sub64"], unfollowed := true, recurses := true, apart := false }
def FnShiftIsMulSaid : Prop := fnShiftIsMulRow.holds Try.pinned (OpenSpec.ofChange fnShiftIsMulSpec)

/-- ITS FALSE NEIGHBOUR: 'it returns false'. Refute it at one input. -/
def fnShiftIsMulWrong : ChangeSpec := { name := "fnShiftIsMul", fn := fun _ => fun
  | [d1, d2] => { results := [.lit (.bool false)], args := [d1, d2] }
  | _ => none }
def FnShiftIsMulWrongFalsely : Prop := fnShiftIsMulRow.holds Try.pinned (OpenSpec.ofChange fnShiftIsMulWrong)

/-- 'laws.FnSignedFits': WHATEVER THE INPUT: true; the input reads as it did. -/
def fnSignedFitsSpec : ChangeSpec := { name := "fnSignedFits", fn := fun _ => fun
  | [d1, d2] => { results := [.lit (.bool true)], args := [d1, d2] }
  | _ => none }
def fnSignedFitsRow : OpenClaim := { program := "ytoojfokhaennoaa", sum := "d697c1a552be97f1f123e80c98f312497154e6c732cc83dbae916d8193f1c23d", func := "loop.example/pub-g03023/laws.FnSignedFits", spec := "fnSignedFits", inPlace := ["math/bits.Sub64", "math/bits.Add64"], unfollowed := true, recurses := true, apart := false }
def FnSignedFitsSaid : Prop := fnSignedFitsRow.holds Try.pinned (OpenSpec.ofChange fnSignedFitsSpec)

/-- ITS FALSE NEIGHBOUR: 'it returns false'. Refute it at one input. -/
def fnSignedFitsWrong : ChangeSpec := { name := "fnSignedFits", fn := fun _ => fun
  | [d1, d2] => { results := [.lit (.bool false)], args := [d1, d2] }
  | _ => none }
def FnSignedFitsWrongFalsely : Prop := fnSignedFitsRow.holds Try.pinned (OpenSpec.ofChange fnSignedFitsWrong)

/-- 'laws.FnSqrtIs': WHATEVER THE INPUT: true; the input reads as it did. -/
def fnSqrtIsSpec : ChangeSpec := { name := "fnSqrtIs", fn := fun _ => fun
  | [d1, d2] => { results := [.lit (.bool true)], args := [d1, d2] }
  | _ => none }
def fnSqrtIsRow : OpenClaim := { program := "ytoojfokhaennoaa", sum := "d697c1a552be97f1f123e80c98f312497154e6c732cc83dbae916d8193f1c23d", func := "loop.example/pub-g03023/laws.FnSqrtIs", spec := "fnSqrtIs", inPlace := ["math/bits.Add64", "math/bits.Sub64"], unfollowed := true, recurses := true, apart := false }
def FnSqrtIsSaid : Prop := fnSqrtIsRow.holds Try.pinned (OpenSpec.ofChange fnSqrtIsSpec)

/-- ITS FALSE NEIGHBOUR: 'it returns false'. Refute it at one input. -/
def fnSqrtIsWrong : ChangeSpec := { name := "fnSqrtIs", fn := fun _ => fun
  | [d1, d2] => { results := [.lit (.bool false)], args := [d1, d2] }
  | _ => none }
def FnSqrtIsWrongFalsely : Prop := fnSqrtIsRow.holds Try.pinned (OpenSpec.ofChange fnSqrtIsWrong)

/-- 'laws.FnSqrtFits': WHATEVER THE INPUT: true; the input reads as it did. -/
def fnSqrtFitsSpec : ChangeSpec := { name := "fnSqrtFits", fn := fun _ => fun
  | [d] => { results := [.lit (.bool true)], args := [d] }
  | _ => none }
def fnSqrtFitsRow : OpenClaim := { program := "ytoojfokhaennoaa", sum := "d697c1a552be97f1f123e80c98f312497154e6c732cc83dbae916d8193f1c23d", func := "loop.example/pub-g03023/laws.FnSqrtFits", spec := "fnSqrtFits", inPlace := ["math/bits.Add64", "math/bits.Sub64"], unfollowed := true, recurses := true, apart := false }
def FnSqrtFitsSaid : Prop := fnSqrtFitsRow.holds Try.pinned (OpenSpec.ofChange fnSqrtFitsSpec)

/-- ITS FALSE NEIGHBOUR: 'it returns false'. Refute it at one input. -/
def fnSqrtFitsWrong : ChangeSpec := { name := "fnSqrtFits", fn := fun _ => fun
  | [d] => { results := [.lit (.bool false)], args := [d] }
  | _ => none }
def FnSqrtFitsWrongFalsely : Prop := fnSqrtFitsRow.holds Try.pinned (OpenSpec.ofChange fnSqrtFitsWrong)

/- THE SECOND FORM. 'bulk': how many values and letters a reading holds, each counted each time it is reached (what is shared counts as often as it is met; a slice's spare places count too). A statement '..UptoSaid' is the law's where the arguments, and the package variables that the reading takes, are together of bulk at most 1048576: NARROWER than '..Said'. Prove '..Said' where nothing that the law and all that it calls make is longer than what came in: it says more and counts as full. Else prove '..UptoSaid'. A law counts once. -/
mutual
def uptoBulk {H : Type} : DataW H → Nat
  | .lit (.string bytes) => bytes.length + 1
  | .lit _ => 1
  | .nil => 1
  | .ptr d => uptoBulk d + 1
  | .slice elems spare => uptoBulkAll elems + uptoBulkAll spare + 1
  | .agg parts => uptoBulkAll parts + 1
  | .iface _ d => uptoBulk d + 1
  | .map entries => uptoBulkEntries entries + 1
  | .held _ => 1
def uptoBulkAll {H : Type} : List (DataW H) → Nat
  | [] => 0
  | d :: r => uptoBulk d + uptoBulkAll r
def uptoBulkEntries {H : Type} : List (Lit × DataW H) → Nat
  | [] => 0
  | x :: r => uptoBulkEntry x + uptoBulkEntries r
def uptoBulkEntry {H : Type} : Lit × DataW H → Nat
  | (.string bytes, d) => bytes.length + uptoBulk d + 1
  | (_, d) => uptoBulk d + 1
 end
def uptoSmall : (H : Type) → List (DataW H) → Bool := fun _ ds => decide (uptoBulkAll ds ≤ 1048576)
def OpenSpec.upto (s : _root_.Go.ChangeSpec) : _root_.Go.OpenSpec := { _root_.Go.OpenSpec.ofChange s with cond := some uptoSmall }

/-- 'laws.FnExpIs', WHERE WHAT IT READS IS OF BULK AT MOST 1048576: true; the input reads as it did. -/
def fnExpIsUptoRow : OpenClaim := { program := "ytoojfokhaennoaa", sum := "d697c1a552be97f1f123e80c98f312497154e6c732cc83dbae916d8193f1c23d", func := "loop.example/pub-g03023/laws.FnExpIs", spec := "fnExpIs", inPlace := ["math/bits.Add64"], unfollowed := true, recurses := true, apart := false, narrowed := true }
def FnExpIsUptoSaid : Prop := fnExpIsUptoRow.holds Try.pinned (OpenSpec.upto fnExpIsSpec)

/-- 'laws.FnExpMuls', WHERE WHAT IT READS IS OF BULK AT MOST 1048576: true; the input reads as it did. -/
def fnExpMulsUptoRow : OpenClaim := { program := "ytoojfokhaennoaa", sum := "d697c1a552be97f1f123e80c98f312497154e6c732cc83dbae916d8193f1c23d", func := "loop.example/pub-g03023/laws.FnExpMuls", spec := "fnExpMuls", inPlace := ["math/bits.Add64"], unfollowed := true, recurses := true, apart := false, narrowed := true }
def FnExpMulsUptoSaid : Prop := fnExpMulsUptoRow.holds Try.pinned (OpenSpec.upto fnExpMulsSpec)

/-- 'laws.FnExpAdds', WHERE WHAT IT READS IS OF BULK AT MOST 1048576: true; the input reads as it did. -/
def fnExpAddsUptoRow : OpenClaim := { program := "ytoojfokhaennoaa", sum := "d697c1a552be97f1f123e80c98f312497154e6c732cc83dbae916d8193f1c23d", func := "loop.example/pub-g03023/laws.FnExpAdds", spec := "fnExpAdds", inPlace := ["math/bits.Add64"], unfollowed := true, recurses := true, apart := false, narrowed := true }
def FnExpAddsUptoSaid : Prop := fnExpAddsUptoRow.holds Try.pinned (OpenSpec.upto fnExpAddsSpec)

/-- 'laws.FnAddModIs', WHERE WHAT IT READS IS OF BULK AT MOST 1048576: true; the input reads as it did. -/
def fnAddModIsUptoRow : OpenClaim := { program := "ytoojfokhaennoaa", sum := "d697c1a552be97f1f123e80c98f312497154e6c732cc83dbae916d8193f1c23d", func := "loop.example/pub-g03023/laws.FnAddModIs", spec := "fnAddModIs", inPlace := ["math/bits.Sub64", "math/bits.Add64"], unfollowed := true, recurses := true, apart := false, narrowed := true }
def FnAddModIsUptoSaid : Prop := fnAddModIsUptoRow.holds Try.pinned (OpenSpec.upto fnAddModIsSpec)

/-- 'laws.FnAddModRoads', WHERE WHAT IT READS IS OF BULK AT MOST 1048576: true; the input reads as it did. -/
def fnAddModRoadsUptoRow : OpenClaim := { program := "ytoojfokhaennoaa", sum := "d697c1a552be97f1f123e80c98f312497154e6c732cc83dbae916d8193f1c23d", func := "loop.example/pub-g03023/laws.FnAddModRoads", spec := "fnAddModRoads", inPlace := ["math/bits.Sub64", "math/bits.Add64"], unfollowed := true, recurses := true, apart := false, narrowed := true }
def FnAddModRoadsUptoSaid : Prop := fnAddModRoadsUptoRow.holds Try.pinned (OpenSpec.upto fnAddModRoadsSpec)

/-- 'laws.FnDivModFits', WHERE WHAT IT READS IS OF BULK AT MOST 1048576: true; the input reads as it did. -/
def fnDivModFitsUptoRow : OpenClaim := { program := "ytoojfokhaennoaa", sum := "d697c1a552be97f1f123e80c98f312497154e6c732cc83dbae916d8193f1c23d", func := "loop.example/pub-g03023/laws.FnDivModFits", spec := "fnDivModFits", inPlace := ["math/bits.Sub64", "math/bits.Add64"], unfollowed := true, recurses := true, apart := false, narrowed := true }
def FnDivModFitsUptoSaid : Prop := fnDivModFitsUptoRow.holds Try.pinned (OpenSpec.upto fnDivModFitsSpec)

/-- 'laws.FnMulDivOverflowIs', WHERE WHAT IT READS IS OF BULK AT MOST 1048576: true; the input reads as it did. -/
def fnMulDivOverflowIsUptoRow : OpenClaim := { program := "ytoojfokhaennoaa", sum := "d697c1a552be97f1f123e80c98f312497154e6c732cc83dbae916d8193f1c23d", func := "loop.example/pub-g03023/laws.FnMulDivOverflowIs", spec := "fnMulDivOverflowIs", inPlace := ["math/bits.Add64", "math/bits.Sub64"], unfollowed := true, recurses := true, apart := false, narrowed := true }
def FnMulDivOverflowIsUptoSaid : Prop := fnMulDivOverflowIsUptoRow.holds Try.pinned (OpenSpec.upto fnMulDivOverflowIsSpec)

/-- 'laws.FnMulDivRoads', WHERE WHAT IT READS IS OF BULK AT MOST 1048576: true; the input reads as it did. -/
def fnMulDivRoadsUptoRow : OpenClaim := { program := "ytoojfokhaennoaa", sum := "d697c1a552be97f1f123e80c98f312497154e6c732cc83dbae916d8193f1c23d", func := "loop.example/pub-g03023/laws.FnMulDivRoads", spec := "fnMulDivRoads", inPlace := ["math/bits.Add64", "math/bits.Sub64"], unfollowed := true, recurses := true, apart := false, narrowed := true }
def FnMulDivRoadsUptoSaid : Prop := fnMulDivRoadsUptoRow.holds Try.pinned (OpenSpec.upto fnMulDivRoadsSpec)

/-- 'laws.FnShiftIsMul', WHERE WHAT IT READS IS OF BULK AT MOST 1048576: true; the input reads as it did. -/
def fnShiftIsMulUptoRow : OpenClaim := { program := "ytoojfokhaennoaa", sum := "d697c1a552be97f1f123e80c98f312497154e6c732cc83dbae916d8193f1c23d", func := "loop.example/pub-g03023/laws.FnShiftIsMul", spec := "fnShiftIsMul", inPlace := ["math/bits.Add64", "math/bits.Sub64"], unfollowed := true, recurses := true, apart := false, narrowed := true }
def FnShiftIsMulUptoSaid : Prop := fnShiftIsMulUptoRow.holds Try.pinned (OpenSpec.upto fnShiftIsMulSpec)

/-- 'laws.FnSignedFits', WHERE WHAT IT READS IS OF BULK AT MOST 1048576: true; the input reads as it did. -/
def fnSignedFitsUptoRow : OpenClaim := { program := "ytoojfokhaennoaa", sum := "d697c1a552be97f1f123e80c98f312497154e6c732cc83dbae916d8193f1c23d", func := "loop.example/pub-g03023/laws.FnSignedFits", spec := "fnSignedFits", inPlace := ["math/bits.Sub64", "math/bits.Add64"], unfollowed := true, recurses := true, apart := false, narrowed := true }
def FnSignedFitsUptoSaid : Prop := fnSignedFitsUptoRow.holds Try.pinned (OpenSpec.upto fnSignedFitsSpec)

/-- 'laws.FnSqrtIs', WHERE WHAT IT READS IS OF BULK AT MOST 1048576: true; the input reads as it did. -/
def fnSqrtIsUptoRow : OpenClaim := { program := "ytoojfokhaennoaa", sum := "d697c1a552be97f1f123e80c98f312497154e6c732cc83dbae916d8193f1c23d", func := "loop.example/pub-g03023/laws.FnSqrtIs", spec := "fnSqrtIs", inPlace := ["math/bits.Add64", "math/bits.Sub64"], unfollowed := true, recurses := true, apart := false, narrowed := true }
def FnSqrtIsUptoSaid : Prop := fnSqrtIsUptoRow.holds Try.pinned (OpenSpec.upto fnSqrtIsSpec)

/-- 'laws.FnSqrtFits', WHERE WHAT IT READS IS OF BULK AT MOST 1048576: true; the input reads as it did. -/
def fnSqrtFitsUptoRow : OpenClaim := { program := "ytoojfokhaennoaa", sum := "d697c1a552be97f1f123e80c98f312497154e6c732cc83dbae916d8193f1c23d", func := "loop.example/pub-g03023/laws.FnSqrtFits", spec := "fnSqrtFits", inPlace := ["math/bits.Add64", "math/bits.Sub64"], unfollowed := true, recurses := true, apart := false, narrowed := true }
def FnSqrtFitsUptoSaid : Prop := fnSqrtFitsUptoRow.holds Try.pinned (OpenSpec.upto fnSqrtFitsSpec)

end Rows
end Go.Proofs.Ytoojfokhaennoaa
