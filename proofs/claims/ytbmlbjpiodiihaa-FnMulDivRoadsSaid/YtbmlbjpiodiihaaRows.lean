/-
  No cell of these rows narrows 'for every input' (looked for: loops, veiled, ifaces, maps, wideKeys, modest, calm, conditions, laid).
  DERIVED. THE GIVEN ROWS OF THIS SEAT. 8 by the template 'for every input the law returns true; each argument reads behind the call as it read before'; 0 by the template 'total and deterministic' (their statements: YtbmlbjpiodiihaaTotals.lean).
  GIVEN WITH THE SEED: the statements are not yours to turn. If you find one false, say at which input.
  Laid BY PROGRAM, IN A SANDBOX (cutbox-rows.mjs): the forced cells as the released guide's own fill.sh prints them over the translation 8e63ca9bd613feb4… (all of the seat's roots in one cut). By AI agents, Wed Nov 11 2026. No macro, syntax, notation, axiom, sorry.
-/
import Derived.Test.YtbmlbjpiodiihaaChecked
import GoSem.Claim
import GoSem.ClaimJoined
import GoSem.ClaimMapViews
import Derived.JoinedTies
import Derived.KernelRfl
namespace Go.Proofs.Ytbmlbjpiodiihaa
/- THE CELL 'sum', in the pinned program and in every row, IS THE sha256 OF THE DUMP (.gsa) THAT YtbmlbjpiodiihaaProg.lean LOADS. Nothing in Lean hashes anything: it is a label: what it is worth is what the hold of that sum in a sandbox is worth. -/
noncomputable def Try.pinned : Pinned := { name := "ytbmlbjpiodiihaa", sum := "8e63ca9bd613feb46e92be3c567305ce63d24402b20add483a766001a7869834", checked := Try.checked }
namespace Rows
def none {H : Type} : Left H := { results := [], args := [] }

/-- 'laws.FnAddModIs': WHATEVER THE INPUT: true; the input reads as it did. -/
def fnAddModIsSpec : ChangeSpec := { name := "fnAddModIs", fn := fun _ => fun
  | [d1, d2] => { results := [.lit (.bool true)], args := [d1, d2] }
  | _ => none }
def fnAddModIsRow : OpenClaim := { program := "ytbmlbjpiodiihaa", sum := "8e63ca9bd613feb46e92be3c567305ce63d24402b20add483a766001a7869834", func := "loop.example/pub-g03023/laws.FnAddModIs", spec := "fnAddModIs", inPlace := ["math/bits.Sub64", "math/bits.Add64"], unfollowed := true, recurses := true, apart := false }
def FnAddModIsSaid : Prop := fnAddModIsRow.holds Try.pinned (OpenSpec.ofChange fnAddModIsSpec)

/-- ITS FALSE NEIGHBOUR: 'it returns false'. Refute it at one input. -/
def fnAddModIsWrong : ChangeSpec := { name := "fnAddModIs", fn := fun _ => fun
  | [d1, d2] => { results := [.lit (.bool false)], args := [d1, d2] }
  | _ => none }
def FnAddModIsWrongFalsely : Prop := fnAddModIsRow.holds Try.pinned (OpenSpec.ofChange fnAddModIsWrong)

/-- 'laws.FnAddModRoads': WHATEVER THE INPUT: true; the input reads as it did. -/
def fnAddModRoadsSpec : ChangeSpec := { name := "fnAddModRoads", fn := fun _ => fun
  | [d1, d2, d3] => { results := [.lit (.bool true)], args := [d1, d2, d3] }
  | _ => none }
def fnAddModRoadsRow : OpenClaim := { program := "ytbmlbjpiodiihaa", sum := "8e63ca9bd613feb46e92be3c567305ce63d24402b20add483a766001a7869834", func := "loop.example/pub-g03023/laws.FnAddModRoads", spec := "fnAddModRoads", inPlace := ["math/bits.Sub64", "math/bits.Add64"], unfollowed := true, recurses := true, apart := false }
def FnAddModRoadsSaid : Prop := fnAddModRoadsRow.holds Try.pinned (OpenSpec.ofChange fnAddModRoadsSpec)

/-- ITS FALSE NEIGHBOUR: 'it returns false'. Refute it at one input. -/
def fnAddModRoadsWrong : ChangeSpec := { name := "fnAddModRoads", fn := fun _ => fun
  | [d1, d2, d3] => { results := [.lit (.bool false)], args := [d1, d2, d3] }
  | _ => none }
def FnAddModRoadsWrongFalsely : Prop := fnAddModRoadsRow.holds Try.pinned (OpenSpec.ofChange fnAddModRoadsWrong)

/-- 'laws.FnMulDivOverflowIs': WHATEVER THE INPUT: true; the input reads as it did. -/
def fnMulDivOverflowIsSpec : ChangeSpec := { name := "fnMulDivOverflowIs", fn := fun _ => fun
  | [d1, d2] => { results := [.lit (.bool true)], args := [d1, d2] }
  | _ => none }
def fnMulDivOverflowIsRow : OpenClaim := { program := "ytbmlbjpiodiihaa", sum := "8e63ca9bd613feb46e92be3c567305ce63d24402b20add483a766001a7869834", func := "loop.example/pub-g03023/laws.FnMulDivOverflowIs", spec := "fnMulDivOverflowIs", inPlace := ["math/bits.Add64", "math/bits.Sub64"], unfollowed := true, recurses := true, apart := false }
def FnMulDivOverflowIsSaid : Prop := fnMulDivOverflowIsRow.holds Try.pinned (OpenSpec.ofChange fnMulDivOverflowIsSpec)

/-- ITS FALSE NEIGHBOUR: 'it returns false'. Refute it at one input. -/
def fnMulDivOverflowIsWrong : ChangeSpec := { name := "fnMulDivOverflowIs", fn := fun _ => fun
  | [d1, d2] => { results := [.lit (.bool false)], args := [d1, d2] }
  | _ => none }
def FnMulDivOverflowIsWrongFalsely : Prop := fnMulDivOverflowIsRow.holds Try.pinned (OpenSpec.ofChange fnMulDivOverflowIsWrong)

/-- 'laws.FnMulDivRoads': WHATEVER THE INPUT: true; the input reads as it did. -/
def fnMulDivRoadsSpec : ChangeSpec := { name := "fnMulDivRoads", fn := fun _ => fun
  | [d1, d2, d3] => { results := [.lit (.bool true)], args := [d1, d2, d3] }
  | _ => none }
def fnMulDivRoadsRow : OpenClaim := { program := "ytbmlbjpiodiihaa", sum := "8e63ca9bd613feb46e92be3c567305ce63d24402b20add483a766001a7869834", func := "loop.example/pub-g03023/laws.FnMulDivRoads", spec := "fnMulDivRoads", inPlace := ["math/bits.Add64", "math/bits.Sub64"], unfollowed := true, recurses := true, apart := false }
def FnMulDivRoadsSaid : Prop := fnMulDivRoadsRow.holds Try.pinned (OpenSpec.ofChange fnMulDivRoadsSpec)

/-- ITS FALSE NEIGHBOUR: 'it returns false'. Refute it at one input. -/
def fnMulDivRoadsWrong : ChangeSpec := { name := "fnMulDivRoads", fn := fun _ => fun
  | [d1, d2, d3] => { results := [.lit (.bool false)], args := [d1, d2, d3] }
  | _ => none }
def FnMulDivRoadsWrongFalsely : Prop := fnMulDivRoadsRow.holds Try.pinned (OpenSpec.ofChange fnMulDivRoadsWrong)

/-- 'laws.FnSignedFits': WHATEVER THE INPUT: true; the input reads as it did. -/
def fnSignedFitsSpec : ChangeSpec := { name := "fnSignedFits", fn := fun _ => fun
  | [d1, d2] => { results := [.lit (.bool true)], args := [d1, d2] }
  | _ => none }
def fnSignedFitsRow : OpenClaim := { program := "ytbmlbjpiodiihaa", sum := "8e63ca9bd613feb46e92be3c567305ce63d24402b20add483a766001a7869834", func := "loop.example/pub-g03023/laws.FnSignedFits", spec := "fnSignedFits", inPlace := ["math/bits.Sub64", "math/bits.Add64"], unfollowed := true, recurses := true, apart := false }
def FnSignedFitsSaid : Prop := fnSignedFitsRow.holds Try.pinned (OpenSpec.ofChange fnSignedFitsSpec)

/-- ITS FALSE NEIGHBOUR: 'it returns false'. Refute it at one input. -/
def fnSignedFitsWrong : ChangeSpec := { name := "fnSignedFits", fn := fun _ => fun
  | [d1, d2] => { results := [.lit (.bool false)], args := [d1, d2] }
  | _ => none }
def FnSignedFitsWrongFalsely : Prop := fnSignedFitsRow.holds Try.pinned (OpenSpec.ofChange fnSignedFitsWrong)

/-- 'laws.FnSqrtIs': WHATEVER THE INPUT: true; the input reads as it did. -/
def fnSqrtIsSpec : ChangeSpec := { name := "fnSqrtIs", fn := fun _ => fun
  | [d1, d2] => { results := [.lit (.bool true)], args := [d1, d2] }
  | _ => none }
def fnSqrtIsRow : OpenClaim := { program := "ytbmlbjpiodiihaa", sum := "8e63ca9bd613feb46e92be3c567305ce63d24402b20add483a766001a7869834", func := "loop.example/pub-g03023/laws.FnSqrtIs", spec := "fnSqrtIs", inPlace := ["math/bits.Add64", "math/bits.Sub64"], unfollowed := true, recurses := true, apart := false }
def FnSqrtIsSaid : Prop := fnSqrtIsRow.holds Try.pinned (OpenSpec.ofChange fnSqrtIsSpec)

/-- ITS FALSE NEIGHBOUR: 'it returns false'. Refute it at one input. -/
def fnSqrtIsWrong : ChangeSpec := { name := "fnSqrtIs", fn := fun _ => fun
  | [d1, d2] => { results := [.lit (.bool false)], args := [d1, d2] }
  | _ => none }
def FnSqrtIsWrongFalsely : Prop := fnSqrtIsRow.holds Try.pinned (OpenSpec.ofChange fnSqrtIsWrong)

/-- 'laws.FnSqrtFits': WHATEVER THE INPUT: true; the input reads as it did. -/
def fnSqrtFitsSpec : ChangeSpec := { name := "fnSqrtFits", fn := fun _ => fun
  | [d] => { results := [.lit (.bool true)], args := [d] }
  | _ => none }
def fnSqrtFitsRow : OpenClaim := { program := "ytbmlbjpiodiihaa", sum := "8e63ca9bd613feb46e92be3c567305ce63d24402b20add483a766001a7869834", func := "loop.example/pub-g03023/laws.FnSqrtFits", spec := "fnSqrtFits", inPlace := ["math/bits.Add64", "math/bits.Sub64"], unfollowed := true, recurses := true, apart := false }
def FnSqrtFitsSaid : Prop := fnSqrtFitsRow.holds Try.pinned (OpenSpec.ofChange fnSqrtFitsSpec)

/-- ITS FALSE NEIGHBOUR: 'it returns false'. Refute it at one input. -/
def fnSqrtFitsWrong : ChangeSpec := { name := "fnSqrtFits", fn := fun _ => fun
  | [d] => { results := [.lit (.bool false)], args := [d] }
  | _ => none }
def FnSqrtFitsWrongFalsely : Prop := fnSqrtFitsRow.holds Try.pinned (OpenSpec.ofChange fnSqrtFitsWrong)

/-- 'laws.FnFloat64Is': WHATEVER THE INPUT: true; the input reads as it did. -/
def fnFloat64IsSpec : ChangeSpec := { name := "fnFloat64Is", fn := fun _ => fun
  | [d] => { results := [.lit (.bool true)], args := [d] }
  | _ => none }
def fnFloat64IsRow : OpenClaim := { program := "ytbmlbjpiodiihaa", sum := "8e63ca9bd613feb46e92be3c567305ce63d24402b20add483a766001a7869834", func := "loop.example/pub-g03023/laws.FnFloat64Is", spec := "fnFloat64Is", inPlace := ["math.Float64frombits"], apart := false }
def FnFloat64IsSaid : Prop := fnFloat64IsRow.holds Try.pinned (OpenSpec.ofChange fnFloat64IsSpec)

/-- ITS FALSE NEIGHBOUR: 'it returns false'. Refute it at one input. -/
def fnFloat64IsWrong : ChangeSpec := { name := "fnFloat64Is", fn := fun _ => fun
  | [d] => { results := [.lit (.bool false)], args := [d] }
  | _ => none }
def FnFloat64IsWrongFalsely : Prop := fnFloat64IsRow.holds Try.pinned (OpenSpec.ofChange fnFloat64IsWrong)

/- THE SECOND FORM. 'bulk': how many values and letters a reading holds, each counted each time it is reached (what is shared counts as often as it is met; a slice's spare places count too). A statement '..UptoSaid' is the law's where the arguments, and the package variables that the reading takes, are together of bulk at most 1048576: NARROWER than '..Said'. Prove '..Said' where nothing that the law and all that it calls make is longer than what came in: it says more and counts as full. Else prove '..UptoSaid'. A law counts once. -/
mutual
def uptoBulk {H : Type} : DataW H → Nat
  | .lit (.string bytes) => bytes.length + 1
  | .lit _ => 1
  | .nil => 1
  | .ptr d => uptoBulk d + 1
  | .slice elems spare => uptoBulkAll elems + uptoBulkAll spare + 1
  | .agg parts => uptoBulkAll parts + 1
  | .iface _ d => uptoBulk d + 1
  | .map entries => uptoBulkEntries entries + 1
  | .held _ => 1
def uptoBulkAll {H : Type} : List (DataW H) → Nat
  | [] => 0
  | d :: r => uptoBulk d + uptoBulkAll r
def uptoBulkEntries {H : Type} : List (Lit × DataW H) → Nat
  | [] => 0
  | x :: r => uptoBulkEntry x + uptoBulkEntries r
def uptoBulkEntry {H : Type} : Lit × DataW H → Nat
  | (.string bytes, d) => bytes.length + uptoBulk d + 1
  | (_, d) => uptoBulk d + 1
 end
def uptoSmall : (H : Type) → List (DataW H) → Bool := fun _ ds => decide (uptoBulkAll ds ≤ 1048576)
def OpenSpec.upto (s : _root_.Go.ChangeSpec) : _root_.Go.OpenSpec := { _root_.Go.OpenSpec.ofChange s with cond := some uptoSmall }

/-- 'laws.FnAddModIs', WHERE WHAT IT READS IS OF BULK AT MOST 1048576: true; the input reads as it did. -/
def fnAddModIsUptoRow : OpenClaim := { program := "ytbmlbjpiodiihaa", sum := "8e63ca9bd613feb46e92be3c567305ce63d24402b20add483a766001a7869834", func := "loop.example/pub-g03023/laws.FnAddModIs", spec := "fnAddModIs", inPlace := ["math/bits.Sub64", "math/bits.Add64"], unfollowed := true, recurses := true, apart := false, narrowed := true }
def FnAddModIsUptoSaid : Prop := fnAddModIsUptoRow.holds Try.pinned (OpenSpec.upto fnAddModIsSpec)

/-- 'laws.FnAddModRoads', WHERE WHAT IT READS IS OF BULK AT MOST 1048576: true; the input reads as it did. -/
def fnAddModRoadsUptoRow : OpenClaim := { program := "ytbmlbjpiodiihaa", sum := "8e63ca9bd613feb46e92be3c567305ce63d24402b20add483a766001a7869834", func := "loop.example/pub-g03023/laws.FnAddModRoads", spec := "fnAddModRoads", inPlace := ["math/bits.Sub64", "math/bits.Add64"], unfollowed := true, recurses := true, apart := false, narrowed := true }
def FnAddModRoadsUptoSaid : Prop := fnAddModRoadsUptoRow.holds Try.pinned (OpenSpec.upto fnAddModRoadsSpec)

/-- 'laws.FnMulDivOverflowIs', WHERE WHAT IT READS IS OF BULK AT MOST 1048576: true; the input reads as it did. -/
def fnMulDivOverflowIsUptoRow : OpenClaim := { program := "ytbmlbjpiodiihaa", sum := "8e63ca9bd613feb46e92be3c567305ce63d24402b20add483a766001a7869834", func := "loop.example/pub-g03023/laws.FnMulDivOverflowIs", spec := "fnMulDivOverflowIs", inPlace := ["math/bits.Add64", "math/bits.Sub64"], unfollowed := true, recurses := true, apart := false, narrowed := true }
def FnMulDivOverflowIsUptoSaid : Prop := fnMulDivOverflowIsUptoRow.holds Try.pinned (OpenSpec.upto fnMulDivOverflowIsSpec)

/-- 'laws.FnMulDivRoads', WHERE WHAT IT READS IS OF BULK AT MOST 1048576: true; the input reads as it did. -/
def fnMulDivRoadsUptoRow : OpenClaim := { program := "ytbmlbjpiodiihaa", sum := "8e63ca9bd613feb46e92be3c567305ce63d24402b20add483a766001a7869834", func := "loop.example/pub-g03023/laws.FnMulDivRoads", spec := "fnMulDivRoads", inPlace := ["math/bits.Add64", "math/bits.Sub64"], unfollowed := true, recurses := true, apart := false, narrowed := true }
def FnMulDivRoadsUptoSaid : Prop := fnMulDivRoadsUptoRow.holds Try.pinned (OpenSpec.upto fnMulDivRoadsSpec)

/-- 'laws.FnSignedFits', WHERE WHAT IT READS IS OF BULK AT MOST 1048576: true; the input reads as it did. -/
def fnSignedFitsUptoRow : OpenClaim := { program := "ytbmlbjpiodiihaa", sum := "8e63ca9bd613feb46e92be3c567305ce63d24402b20add483a766001a7869834", func := "loop.example/pub-g03023/laws.FnSignedFits", spec := "fnSignedFits", inPlace := ["math/bits.Sub64", "math/bits.Add64"], unfollowed := true, recurses := true, apart := false, narrowed := true }
def FnSignedFitsUptoSaid : Prop := fnSignedFitsUptoRow.holds Try.pinned (OpenSpec.upto fnSignedFitsSpec)

/-- 'laws.FnSqrtIs', WHERE WHAT IT READS IS OF BULK AT MOST 1048576: true; the input reads as it did. -/
def fnSqrtIsUptoRow : OpenClaim := { program := "ytbmlbjpiodiihaa", sum := "8e63ca9bd613feb46e92be3c567305ce63d24402b20add483a766001a7869834", func := "loop.example/pub-g03023/laws.FnSqrtIs", spec := "fnSqrtIs", inPlace := ["math/bits.Add64", "math/bits.Sub64"], unfollowed := true, recurses := true, apart := false, narrowed := true }
def FnSqrtIsUptoSaid : Prop := fnSqrtIsUptoRow.holds Try.pinned (OpenSpec.upto fnSqrtIsSpec)

/-- 'laws.FnSqrtFits', WHERE WHAT IT READS IS OF BULK AT MOST 1048576: true; the input reads as it did. -/
def fnSqrtFitsUptoRow : OpenClaim := { program := "ytbmlbjpiodiihaa", sum := "8e63ca9bd613feb46e92be3c567305ce63d24402b20add483a766001a7869834", func := "loop.example/pub-g03023/laws.FnSqrtFits", spec := "fnSqrtFits", inPlace := ["math/bits.Add64", "math/bits.Sub64"], unfollowed := true, recurses := true, apart := false, narrowed := true }
def FnSqrtFitsUptoSaid : Prop := fnSqrtFitsUptoRow.holds Try.pinned (OpenSpec.upto fnSqrtFitsSpec)

/-- 'laws.FnFloat64Is', WHERE WHAT IT READS IS OF BULK AT MOST 1048576: true; the input reads as it did. -/
def fnFloat64IsUptoRow : OpenClaim := { program := "ytbmlbjpiodiihaa", sum := "8e63ca9bd613feb46e92be3c567305ce63d24402b20add483a766001a7869834", func := "loop.example/pub-g03023/laws.FnFloat64Is", spec := "fnFloat64Is", inPlace := ["math.Float64frombits"], apart := false, narrowed := true }
def FnFloat64IsUptoSaid : Prop := fnFloat64IsUptoRow.holds Try.pinned (OpenSpec.upto fnFloat64IsSpec)

end Rows
end Go.Proofs.Ytbmlbjpiodiihaa
