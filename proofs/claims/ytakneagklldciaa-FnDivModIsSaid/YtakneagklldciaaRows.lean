/-
  No cell of these rows narrows 'for every input' (looked for: loops, veiled, ifaces, maps, wideKeys, modest, calm, conditions, laid).
  DERIVED. THE GIVEN ROWS OF THIS SEAT. 12 by the template 'for every input the law returns true; each argument reads behind the call as it read before'; 0 by the template 'total and deterministic' (their statements: YtakneagklldciaaTotals.lean).
  GIVEN WITH THE SEED: the statements are not yours to turn. If you find one false, say at which input.
  Laid BY PROGRAM, IN A SANDBOX (cutbox-rows.mjs): the forced cells as the released guide's own fill.sh prints them over the translation ab5b8eeb9cb0c1e3… (all of the seat's roots in one cut). By AI agents, Wed Nov 11 2026. No macro, syntax, notation, axiom, sorry.
-/
import Derived.Test.YtakneagklldciaaChecked
import GoSem.Claim
import GoSem.ClaimJoined
import GoSem.ClaimMapViews
import Derived.JoinedTies
import Derived.KernelRfl
namespace Go.Proofs.Ytakneagklldciaa
/- THE CELL 'sum', in the pinned program and in every row, IS THE sha256 OF THE DUMP (.gsa) THAT YtakneagklldciaaProg.lean LOADS. Nothing in Lean hashes anything: it is a label: what it is worth is what the hold of that sum in a sandbox is worth. -/
noncomputable def Try.pinned : Pinned := { name := "ytakneagklldciaa", sum := "ab5b8eeb9cb0c1e3cb7e894321a69d1a344c93c3e2df9dd90ad40386e823805f", checked := Try.checked }
namespace Rows
def none {H : Type} : Left H := { results := [], args := [] }

/-- 'laws.FnExtendSignIs': WHATEVER THE INPUT: true; the input reads as it did. -/
def fnExtendSignIsSpec : ChangeSpec := { name := "fnExtendSignIs", fn := fun _ => fun
  | [d1, d2] => { results := [.lit (.bool true)], args := [d1, d2] }
  | _ => none }
def fnExtendSignIsRow : OpenClaim := { program := "ytakneagklldciaa", sum := "ab5b8eeb9cb0c1e3cb7e894321a69d1a344c93c3e2df9dd90ad40386e823805f", func := "loop.example/pub-g03023/laws.FnExtendSignIs", spec := "fnExtendSignIs", unfollowed := true, recurses := true, apart := false }
def FnExtendSignIsSaid : Prop := fnExtendSignIsRow.holds Try.pinned (OpenSpec.ofChange fnExtendSignIsSpec)

/-- ITS FALSE NEIGHBOUR: 'it returns false'. Refute it at one input. -/
def fnExtendSignIsWrong : ChangeSpec := { name := "fnExtendSignIs", fn := fun _ => fun
  | [d1, d2] => { results := [.lit (.bool false)], args := [d1, d2] }
  | _ => none }
def FnExtendSignIsWrongFalsely : Prop := fnExtendSignIsRow.holds Try.pinned (OpenSpec.ofChange fnExtendSignIsWrong)

/-- 'laws.FnMulOverflowIs': WHATEVER THE INPUT: true; the input reads as it did. -/
def fnMulOverflowIsSpec : ChangeSpec := { name := "fnMulOverflowIs", fn := fun _ => fun
  | [d1, d2] => { results := [.lit (.bool true)], args := [d1, d2] }
  | _ => none }
def fnMulOverflowIsRow : OpenClaim := { program := "ytakneagklldciaa", sum := "ab5b8eeb9cb0c1e3cb7e894321a69d1a344c93c3e2df9dd90ad40386e823805f", func := "loop.example/pub-g03023/laws.FnMulOverflowIs", spec := "fnMulOverflowIs", inPlace := ["math/bits.Add64"], unfollowed := true, recurses := true, apart := false }
def FnMulOverflowIsSaid : Prop := fnMulOverflowIsRow.holds Try.pinned (OpenSpec.ofChange fnMulOverflowIsSpec)

/-- ITS FALSE NEIGHBOUR: 'it returns false'. Refute it at one input. -/
def fnMulOverflowIsWrong : ChangeSpec := { name := "fnMulOverflowIs", fn := fun _ => fun
  | [d1, d2] => { results := [.lit (.bool false)], args := [d1, d2] }
  | _ => none }
def FnMulOverflowIsWrongFalsely : Prop := fnMulOverflowIsRow.holds Try.pinned (OpenSpec.ofChange fnMulOverflowIsWrong)

/-- 'laws.FnExpIs': WHATEVER THE INPUT: true; the input reads as it did. -/
def fnExpIsSpec : ChangeSpec := { name := "fnExpIs", fn := fun _ => fun
  | [d1, d2] => { results := [.lit (.bool true)], args := [d1, d2] }
  | _ => none }
def fnExpIsRow : OpenClaim := { program := "ytakneagklldciaa", sum := "ab5b8eeb9cb0c1e3cb7e894321a69d1a344c93c3e2df9dd90ad40386e823805f", func := "loop.example/pub-g03023/laws.FnExpIs", spec := "fnExpIs", inPlace := ["math/bits.Add64"], unfollowed := true, recurses := true, apart := false }
def FnExpIsSaid : Prop := fnExpIsRow.holds Try.pinned (OpenSpec.ofChange fnExpIsSpec)

/-- ITS FALSE NEIGHBOUR: 'it returns false'. Refute it at one input. -/
def fnExpIsWrong : ChangeSpec := { name := "fnExpIs", fn := fun _ => fun
  | [d1, d2] => { results := [.lit (.bool false)], args := [d1, d2] }
  | _ => none }
def FnExpIsWrongFalsely : Prop := fnExpIsRow.holds Try.pinned (OpenSpec.ofChange fnExpIsWrong)

/-- 'laws.FnExpMuls': WHATEVER THE INPUT: true; the input reads as it did. -/
def fnExpMulsSpec : ChangeSpec := { name := "fnExpMuls", fn := fun _ => fun
  | [d1, d2, d3] => { results := [.lit (.bool true)], args := [d1, d2, d3] }
  | _ => none }
def fnExpMulsRow : OpenClaim := { program := "ytakneagklldciaa", sum := "ab5b8eeb9cb0c1e3cb7e894321a69d1a344c93c3e2df9dd90ad40386e823805f", func := "loop.example/pub-g03023/laws.FnExpMuls", spec := "fnExpMuls", inPlace := ["math/bits.Add64"], unfollowed := true, recurses := true, apart := false }
def FnExpMulsSaid : Prop := fnExpMulsRow.holds Try.pinned (OpenSpec.ofChange fnExpMulsSpec)

/-- ITS FALSE NEIGHBOUR: 'it returns false'. Refute it at one input. -/
def fnExpMulsWrong : ChangeSpec := { name := "fnExpMuls", fn := fun _ => fun
  | [d1, d2, d3] => { results := [.lit (.bool false)], args := [d1, d2, d3] }
  | _ => none }
def FnExpMulsWrongFalsely : Prop := fnExpMulsRow.holds Try.pinned (OpenSpec.ofChange fnExpMulsWrong)

/-- 'laws.FnExpAdds': WHATEVER THE INPUT: true; the input reads as it did. -/
def fnExpAddsSpec : ChangeSpec := { name := "fnExpAdds", fn := fun _ => fun
  | [d1, d2, d3] => { results := [.lit (.bool true)], args := [d1, d2, d3] }
  | _ => none }
def fnExpAddsRow : OpenClaim := { program := "ytakneagklldciaa", sum := "ab5b8eeb9cb0c1e3cb7e894321a69d1a344c93c3e2df9dd90ad40386e823805f", func := "loop.example/pub-g03023/laws.FnExpAdds", spec := "fnExpAdds", inPlace := ["math/bits.Add64"], unfollowed := true, recurses := true, apart := false }
def FnExpAddsSaid : Prop := fnExpAddsRow.holds Try.pinned (OpenSpec.ofChange fnExpAddsSpec)

/-- ITS FALSE NEIGHBOUR: 'it returns false'. Refute it at one input. -/
def fnExpAddsWrong : ChangeSpec := { name := "fnExpAdds", fn := fun _ => fun
  | [d1, d2, d3] => { results := [.lit (.bool false)], args := [d1, d2, d3] }
  | _ => none }
def FnExpAddsWrongFalsely : Prop := fnExpAddsRow.holds Try.pinned (OpenSpec.ofChange fnExpAddsWrong)

/-- 'laws.FnDivIs': WHATEVER THE INPUT: true; the input reads as it did. -/
def fnDivIsSpec : ChangeSpec := { name := "fnDivIs", fn := fun _ => fun
  | [d1, d2] => { results := [.lit (.bool true)], args := [d1, d2] }
  | _ => none }
def fnDivIsRow : OpenClaim := { program := "ytakneagklldciaa", sum := "ab5b8eeb9cb0c1e3cb7e894321a69d1a344c93c3e2df9dd90ad40386e823805f", func := "loop.example/pub-g03023/laws.FnDivIs", spec := "fnDivIs", inPlace := ["math/bits.Sub64", "math/bits.Add64"], unfollowed := true, recurses := true, apart := false }
def FnDivIsSaid : Prop := fnDivIsRow.holds Try.pinned (OpenSpec.ofChange fnDivIsSpec)

/-- ITS FALSE NEIGHBOUR: 'it returns false'. Refute it at one input. -/
def fnDivIsWrong : ChangeSpec := { name := "fnDivIs", fn := fun _ => fun
  | [d1, d2] => { results := [.lit (.bool false)], args := [d1, d2] }
  | _ => none }
def FnDivIsWrongFalsely : Prop := fnDivIsRow.holds Try.pinned (OpenSpec.ofChange fnDivIsWrong)

/-- 'laws.FnModIs': WHATEVER THE INPUT: true; the input reads as it did. -/
def fnModIsSpec : ChangeSpec := { name := "fnModIs", fn := fun _ => fun
  | [d1, d2] => { results := [.lit (.bool true)], args := [d1, d2] }
  | _ => none }
def fnModIsRow : OpenClaim := { program := "ytakneagklldciaa", sum := "ab5b8eeb9cb0c1e3cb7e894321a69d1a344c93c3e2df9dd90ad40386e823805f", func := "loop.example/pub-g03023/laws.FnModIs", spec := "fnModIs", inPlace := ["math/bits.Sub64", "math/bits.Add64"], unfollowed := true, recurses := true, apart := false }
def FnModIsSaid : Prop := fnModIsRow.holds Try.pinned (OpenSpec.ofChange fnModIsSpec)

/-- ITS FALSE NEIGHBOUR: 'it returns false'. Refute it at one input. -/
def fnModIsWrong : ChangeSpec := { name := "fnModIs", fn := fun _ => fun
  | [d1, d2] => { results := [.lit (.bool false)], args := [d1, d2] }
  | _ => none }
def FnModIsWrongFalsely : Prop := fnModIsRow.holds Try.pinned (OpenSpec.ofChange fnModIsWrong)

/-- 'laws.FnDivModIs': WHATEVER THE INPUT: true; the input reads as it did. -/
def fnDivModIsSpec : ChangeSpec := { name := "fnDivModIs", fn := fun _ => fun
  | [d1, d2] => { results := [.lit (.bool true)], args := [d1, d2] }
  | _ => none }
def fnDivModIsRow : OpenClaim := { program := "ytakneagklldciaa", sum := "ab5b8eeb9cb0c1e3cb7e894321a69d1a344c93c3e2df9dd90ad40386e823805f", func := "loop.example/pub-g03023/laws.FnDivModIs", spec := "fnDivModIs", inPlace := ["math/bits.Sub64", "math/bits.Add64"], unfollowed := true, recurses := true, apart := false }
def FnDivModIsSaid : Prop := fnDivModIsRow.holds Try.pinned (OpenSpec.ofChange fnDivModIsSpec)

/-- ITS FALSE NEIGHBOUR: 'it returns false'. Refute it at one input. -/
def fnDivModIsWrong : ChangeSpec := { name := "fnDivModIs", fn := fun _ => fun
  | [d1, d2] => { results := [.lit (.bool false)], args := [d1, d2] }
  | _ => none }
def FnDivModIsWrongFalsely : Prop := fnDivModIsRow.holds Try.pinned (OpenSpec.ofChange fnDivModIsWrong)

/-- 'laws.FnSDivIs': WHATEVER THE INPUT: true; the input reads as it did. -/
def fnSDivIsSpec : ChangeSpec := { name := "fnSDivIs", fn := fun _ => fun
  | [d1, d2] => { results := [.lit (.bool true)], args := [d1, d2] }
  | _ => none }
def fnSDivIsRow : OpenClaim := { program := "ytakneagklldciaa", sum := "ab5b8eeb9cb0c1e3cb7e894321a69d1a344c93c3e2df9dd90ad40386e823805f", func := "loop.example/pub-g03023/laws.FnSDivIs", spec := "fnSDivIs", inPlace := ["math/bits.Sub64", "math/bits.Add64"], unfollowed := true, recurses := true, apart := false }
def FnSDivIsSaid : Prop := fnSDivIsRow.holds Try.pinned (OpenSpec.ofChange fnSDivIsSpec)

/-- ITS FALSE NEIGHBOUR: 'it returns false'. Refute it at one input. -/
def fnSDivIsWrong : ChangeSpec := { name := "fnSDivIs", fn := fun _ => fun
  | [d1, d2] => { results := [.lit (.bool false)], args := [d1, d2] }
  | _ => none }
def FnSDivIsWrongFalsely : Prop := fnSDivIsRow.holds Try.pinned (OpenSpec.ofChange fnSDivIsWrong)

/-- 'laws.FnSModIs': WHATEVER THE INPUT: true; the input reads as it did. -/
def fnSModIsSpec : ChangeSpec := { name := "fnSModIs", fn := fun _ => fun
  | [d1, d2] => { results := [.lit (.bool true)], args := [d1, d2] }
  | _ => none }
def fnSModIsRow : OpenClaim := { program := "ytakneagklldciaa", sum := "ab5b8eeb9cb0c1e3cb7e894321a69d1a344c93c3e2df9dd90ad40386e823805f", func := "loop.example/pub-g03023/laws.FnSModIs", spec := "fnSModIs", inPlace := ["math/bits.Sub64", "math/bits.Add64"], unfollowed := true, recurses := true, apart := false }
def FnSModIsSaid : Prop := fnSModIsRow.holds Try.pinned (OpenSpec.ofChange fnSModIsSpec)

/-- ITS FALSE NEIGHBOUR: 'it returns false'. Refute it at one input. -/
def fnSModIsWrong : ChangeSpec := { name := "fnSModIs", fn := fun _ => fun
  | [d1, d2] => { results := [.lit (.bool false)], args := [d1, d2] }
  | _ => none }
def FnSModIsWrongFalsely : Prop := fnSModIsRow.holds Try.pinned (OpenSpec.ofChange fnSModIsWrong)

/-- 'laws.FnAddModIs': WHATEVER THE INPUT: true; the input reads as it did. -/
def fnAddModIsSpec : ChangeSpec := { name := "fnAddModIs", fn := fun _ => fun
  | [d1, d2] => { results := [.lit (.bool true)], args := [d1, d2] }
  | _ => none }
def fnAddModIsRow : OpenClaim := { program := "ytakneagklldciaa", sum := "ab5b8eeb9cb0c1e3cb7e894321a69d1a344c93c3e2df9dd90ad40386e823805f", func := "loop.example/pub-g03023/laws.FnAddModIs", spec := "fnAddModIs", inPlace := ["math/bits.Sub64", "math/bits.Add64"], unfollowed := true, recurses := true, apart := false }
def FnAddModIsSaid : Prop := fnAddModIsRow.holds Try.pinned (OpenSpec.ofChange fnAddModIsSpec)

/-- ITS FALSE NEIGHBOUR: 'it returns false'. Refute it at one input. -/
def fnAddModIsWrong : ChangeSpec := { name := "fnAddModIs", fn := fun _ => fun
  | [d1, d2] => { results := [.lit (.bool false)], args := [d1, d2] }
  | _ => none }
def FnAddModIsWrongFalsely : Prop := fnAddModIsRow.holds Try.pinned (OpenSpec.ofChange fnAddModIsWrong)

/-- 'laws.FnAddModRoads': WHATEVER THE INPUT: true; the input reads as it did. -/
def fnAddModRoadsSpec : ChangeSpec := { name := "fnAddModRoads", fn := fun _ => fun
  | [d1, d2, d3] => { results := [.lit (.bool true)], args := [d1, d2, d3] }
  | _ => none }
def fnAddModRoadsRow : OpenClaim := { program := "ytakneagklldciaa", sum := "ab5b8eeb9cb0c1e3cb7e894321a69d1a344c93c3e2df9dd90ad40386e823805f", func := "loop.example/pub-g03023/laws.FnAddModRoads", spec := "fnAddModRoads", inPlace := ["math/bits.Sub64", "math/bits.Add64"], unfollowed := true, recurses := true, apart := false }
def FnAddModRoadsSaid : Prop := fnAddModRoadsRow.holds Try.pinned (OpenSpec.ofChange fnAddModRoadsSpec)

/-- ITS FALSE NEIGHBOUR: 'it returns false'. Refute it at one input. -/
def fnAddModRoadsWrong : ChangeSpec := { name := "fnAddModRoads", fn := fun _ => fun
  | [d1, d2, d3] => { results := [.lit (.bool false)], args := [d1, d2, d3] }
  | _ => none }
def FnAddModRoadsWrongFalsely : Prop := fnAddModRoadsRow.holds Try.pinned (OpenSpec.ofChange fnAddModRoadsWrong)

/- THE SECOND FORM. 'bulk': how many values and letters a reading holds, each counted each time it is reached (what is shared counts as often as it is met; a slice's spare places count too). A statement '..UptoSaid' is the law's where the arguments, and the package variables that the reading takes, are together of bulk at most 1048576: NARROWER than '..Said'. Prove '..Said' where nothing that the law and all that it calls make is longer than what came in: it says more and counts as full. Else prove '..UptoSaid'. A law counts once. -/
mutual
def uptoBulk {H : Type} : DataW H → Nat
  | .lit (.string bytes) => bytes.length + 1
  | .lit _ => 1
  | .nil => 1
  | .ptr d => uptoBulk d + 1
  | .slice elems spare => uptoBulkAll elems + uptoBulkAll spare + 1
  | .agg parts => uptoBulkAll parts + 1
  | .iface _ d => uptoBulk d + 1
  | .map entries => uptoBulkEntries entries + 1
  | .held _ => 1
def uptoBulkAll {H : Type} : List (DataW H) → Nat
  | [] => 0
  | d :: r => uptoBulk d + uptoBulkAll r
def uptoBulkEntries {H : Type} : List (Lit × DataW H) → Nat
  | [] => 0
  | x :: r => uptoBulkEntry x + uptoBulkEntries r
def uptoBulkEntry {H : Type} : Lit × DataW H → Nat
  | (.string bytes, d) => bytes.length + uptoBulk d + 1
  | (_, d) => uptoBulk d + 1
 end
def uptoSmall : (H : Type) → List (DataW H) → Bool := fun _ ds => decide (uptoBulkAll ds ≤ 1048576)
def OpenSpec.upto (s : _root_.Go.ChangeSpec) : _root_.Go.OpenSpec := { _root_.Go.OpenSpec.ofChange s with cond := some uptoSmall }

/-- 'laws.FnExtendSignIs', WHERE WHAT IT READS IS OF BULK AT MOST 1048576: true; the input reads as it did. -/
def fnExtendSignIsUptoRow : OpenClaim := { program := "ytakneagklldciaa", sum := "ab5b8eeb9cb0c1e3cb7e894321a69d1a344c93c3e2df9dd90ad40386e823805f", func := "loop.example/pub-g03023/laws.FnExtendSignIs", spec := "fnExtendSignIs", unfollowed := true, recurses := true, apart := false, narrowed := true }
def FnExtendSignIsUptoSaid : Prop := fnExtendSignIsUptoRow.holds Try.pinned (OpenSpec.upto fnExtendSignIsSpec)

/-- 'laws.FnMulOverflowIs', WHERE WHAT IT READS IS OF BULK AT MOST 1048576: true; the input reads as it did. -/
def fnMulOverflowIsUptoRow : OpenClaim := { program := "ytakneagklldciaa", sum := "ab5b8eeb9cb0c1e3cb7e894321a69d1a344c93c3e2df9dd90ad40386e823805f", func := "loop.example/pub-g03023/laws.FnMulOverflowIs", spec := "fnMulOverflowIs", inPlace := ["math/bits.Add64"], unfollowed := true, recurses := true, apart := false, narrowed := true }
def FnMulOverflowIsUptoSaid : Prop := fnMulOverflowIsUptoRow.holds Try.pinned (OpenSpec.upto fnMulOverflowIsSpec)

/-- 'laws.FnExpIs', WHERE WHAT IT READS IS OF BULK AT MOST 1048576: true; the input reads as it did. -/
def fnExpIsUptoRow : OpenClaim := { program := "ytakneagklldciaa", sum := "ab5b8eeb9cb0c1e3cb7e894321a69d1a344c93c3e2df9dd90ad40386e823805f", func := "loop.example/pub-g03023/laws.FnExpIs", spec := "fnExpIs", inPlace := ["math/bits.Add64"], unfollowed := true, recurses := true, apart := false, narrowed := true }
def FnExpIsUptoSaid : Prop := fnExpIsUptoRow.holds Try.pinned (OpenSpec.upto fnExpIsSpec)

/-- 'laws.FnExpMuls', WHERE WHAT IT READS IS OF BULK AT MOST 1048576: true; the input reads as it did. -/
def fnExpMulsUptoRow : OpenClaim := { program := "ytakneagklldciaa", sum := "ab5b8eeb9cb0c1e3cb7e894321a69d1a344c93c3e2df9dd90ad40386e823805f", func := "loop.example/pub-g03023/laws.FnExpMuls", spec := "fnExpMuls", inPlace := ["math/bits.Add64"], unfollowed := true, recurses := true, apart := false, narrowed := true }
def FnExpMulsUptoSaid : Prop := fnExpMulsUptoRow.holds Try.pinned (OpenSpec.upto fnExpMulsSpec)

/-- 'laws.FnExpAdds', WHERE WHAT IT READS IS OF BULK AT MOST 1048576: true; the input reads as it did. -/
def fnExpAddsUptoRow : OpenClaim := { program := "ytakneagklldciaa", sum := "ab5b8eeb9cb0c1e3cb7e894321a69d1a344c93c3e2df9dd90ad40386e823805f", func := "loop.example/pub-g03023/laws.FnExpAdds", spec := "fnExpAdds", inPlace := ["math/bits.Add64"], unfollowed := true, recurses := true, apart := false, narrowed := true }
def FnExpAddsUptoSaid : Prop := fnExpAddsUptoRow.holds Try.pinned (OpenSpec.upto fnExpAddsSpec)

/-- 'laws.FnDivIs', WHERE WHAT IT READS IS OF BULK AT MOST 1048576: true; the input reads as it did. -/
def fnDivIsUptoRow : OpenClaim := { program := "ytakneagklldciaa", sum := "ab5b8eeb9cb0c1e3cb7e894321a69d1a344c93c3e2df9dd90ad40386e823805f", func := "loop.example/pub-g03023/laws.FnDivIs", spec := "fnDivIs", inPlace := ["math/bits.Sub64", "math/bits.Add64"], unfollowed := true, recurses := true, apart := false, narrowed := true }
def FnDivIsUptoSaid : Prop := fnDivIsUptoRow.holds Try.pinned (OpenSpec.upto fnDivIsSpec)

/-- 'laws.FnModIs', WHERE WHAT IT READS IS OF BULK AT MOST 1048576: true; the input reads as it did. -/
def fnModIsUptoRow : OpenClaim := { program := "ytakneagklldciaa", sum := "ab5b8eeb9cb0c1e3cb7e894321a69d1a344c93c3e2df9dd90ad40386e823805f", func := "loop.example/pub-g03023/laws.FnModIs", spec := "fnModIs", inPlace := ["math/bits.Sub64", "math/bits.Add64"], unfollowed := true, recurses := true, apart := false, narrowed := true }
def FnModIsUptoSaid : Prop := fnModIsUptoRow.holds Try.pinned (OpenSpec.upto fnModIsSpec)

/-- 'laws.FnDivModIs', WHERE WHAT IT READS IS OF BULK AT MOST 1048576: true; the input reads as it did. -/
def fnDivModIsUptoRow : OpenClaim := { program := "ytakneagklldciaa", sum := "ab5b8eeb9cb0c1e3cb7e894321a69d1a344c93c3e2df9dd90ad40386e823805f", func := "loop.example/pub-g03023/laws.FnDivModIs", spec := "fnDivModIs", inPlace := ["math/bits.Sub64", "math/bits.Add64"], unfollowed := true, recurses := true, apart := false, narrowed := true }
def FnDivModIsUptoSaid : Prop := fnDivModIsUptoRow.holds Try.pinned (OpenSpec.upto fnDivModIsSpec)

/-- 'laws.FnSDivIs', WHERE WHAT IT READS IS OF BULK AT MOST 1048576: true; the input reads as it did. -/
def fnSDivIsUptoRow : OpenClaim := { program := "ytakneagklldciaa", sum := "ab5b8eeb9cb0c1e3cb7e894321a69d1a344c93c3e2df9dd90ad40386e823805f", func := "loop.example/pub-g03023/laws.FnSDivIs", spec := "fnSDivIs", inPlace := ["math/bits.Sub64", "math/bits.Add64"], unfollowed := true, recurses := true, apart := false, narrowed := true }
def FnSDivIsUptoSaid : Prop := fnSDivIsUptoRow.holds Try.pinned (OpenSpec.upto fnSDivIsSpec)

/-- 'laws.FnSModIs', WHERE WHAT IT READS IS OF BULK AT MOST 1048576: true; the input reads as it did. -/
def fnSModIsUptoRow : OpenClaim := { program := "ytakneagklldciaa", sum := "ab5b8eeb9cb0c1e3cb7e894321a69d1a344c93c3e2df9dd90ad40386e823805f", func := "loop.example/pub-g03023/laws.FnSModIs", spec := "fnSModIs", inPlace := ["math/bits.Sub64", "math/bits.Add64"], unfollowed := true, recurses := true, apart := false, narrowed := true }
def FnSModIsUptoSaid : Prop := fnSModIsUptoRow.holds Try.pinned (OpenSpec.upto fnSModIsSpec)

/-- 'laws.FnAddModIs', WHERE WHAT IT READS IS OF BULK AT MOST 1048576: true; the input reads as it did. -/
def fnAddModIsUptoRow : OpenClaim := { program := "ytakneagklldciaa", sum := "ab5b8eeb9cb0c1e3cb7e894321a69d1a344c93c3e2df9dd90ad40386e823805f", func := "loop.example/pub-g03023/laws.FnAddModIs", spec := "fnAddModIs", inPlace := ["math/bits.Sub64", "math/bits.Add64"], unfollowed := true, recurses := true, apart := false, narrowed := true }
def FnAddModIsUptoSaid : Prop := fnAddModIsUptoRow.holds Try.pinned (OpenSpec.upto fnAddModIsSpec)

/-- 'laws.FnAddModRoads', WHERE WHAT IT READS IS OF BULK AT MOST 1048576: true; the input reads as it did. -/
def fnAddModRoadsUptoRow : OpenClaim := { program := "ytakneagklldciaa", sum := "ab5b8eeb9cb0c1e3cb7e894321a69d1a344c93c3e2df9dd90ad40386e823805f", func := "loop.example/pub-g03023/laws.FnAddModRoads", spec := "fnAddModRoads", inPlace := ["math/bits.Sub64", "math/bits.Add64"], unfollowed := true, recurses := true, apart := false, narrowed := true }
def FnAddModRoadsUptoSaid : Prop := fnAddModRoadsUptoRow.holds Try.pinned (OpenSpec.upto fnAddModRoadsSpec)

end Rows
end Go.Proofs.Ytakneagklldciaa
