/-
  No cell of these rows narrows 'for every input' (looked for: loops, veiled, ifaces, maps, wideKeys, modest, calm, conditions, laid).
  DERIVED. THE GIVEN ROWS OF THIS SEAT. 12 by the template 'for every input the law returns true; each argument reads behind the call as it read before'; 0 by the template 'total and deterministic' (their statements: YtnbjmmmefnedhaaTotals.lean).
  GIVEN WITH THE SEED: the statements are not yours to turn. If you find one false, say at which input.
  Laid BY PROGRAM, IN A SANDBOX (cutbox-rows.mjs): the forced cells as the released guide's own fill.sh prints them over the translation 91c5670880943d22… (all of the seat's roots in one cut). By AI agents, Wed Nov 11 2026. No macro, syntax, notation, axiom, sorry.
-/
import Derived.Test.YtnbjmmmefnedhaaChecked
import GoSem.Claim
import GoSem.ClaimJoined
import GoSem.ClaimMapViews
import Derived.JoinedTies
import Derived.KernelRfl
namespace Go.Proofs.Ytnbjmmmefnedhaa
/- THE CELL 'sum', in the pinned program and in every row, IS THE sha256 OF THE DUMP (.gsa) THAT YtnbjmmmefnedhaaProg.lean LOADS. Nothing in Lean hashes anything: it is a label: what it is worth is what the hold of that sum in a sandbox is worth. -/
noncomputable def Try.pinned : Pinned := { name := "ytnbjmmmefnedhaa", sum := "91c5670880943d22f00f4216848791428ad13fe111eb3e8475e5fb74d2a2d191", checked := Try.checked }
namespace Rows
def none {H : Type} : Left H := { results := [], args := [] }

/-- 'laws.FnByteIs': WHATEVER THE INPUT: true; the input reads as it did. -/
def fnByteIsSpec : ChangeSpec := { name := "fnByteIs", fn := fun _ => fun
  | [d1, d2] => { results := [.lit (.bool true)], args := [d1, d2] }
  | _ => none }
def fnByteIsRow : OpenClaim := { program := "ytnbjmmmefnedhaa", sum := "91c5670880943d22f00f4216848791428ad13fe111eb3e8475e5fb74d2a2d191", func := "loop.example/pub-g03023/laws.FnByteIs", spec := "fnByteIs", unfollowed := true, recurses := true, apart := false }
def FnByteIsSaid : Prop := fnByteIsRow.holds Try.pinned (OpenSpec.ofChange fnByteIsSpec)

/-- ITS FALSE NEIGHBOUR: 'it returns false'. Refute it at one input. -/
def fnByteIsWrong : ChangeSpec := { name := "fnByteIs", fn := fun _ => fun
  | [d1, d2] => { results := [.lit (.bool false)], args := [d1, d2] }
  | _ => none }
def FnByteIsWrongFalsely : Prop := fnByteIsRow.holds Try.pinned (OpenSpec.ofChange fnByteIsWrong)

/-- 'laws.FnSltSgtIs': WHATEVER THE INPUT: true; the input reads as it did. -/
def fnSltSgtIsSpec : ChangeSpec := { name := "fnSltSgtIs", fn := fun _ => fun
  | [d1, d2] => { results := [.lit (.bool true)], args := [d1, d2] }
  | _ => none }
def fnSltSgtIsRow : OpenClaim := { program := "ytnbjmmmefnedhaa", sum := "91c5670880943d22f00f4216848791428ad13fe111eb3e8475e5fb74d2a2d191", func := "loop.example/pub-g03023/laws.FnSltSgtIs", spec := "fnSltSgtIs", inPlace := ["math/bits.Sub64"], apart := false }
def FnSltSgtIsSaid : Prop := fnSltSgtIsRow.holds Try.pinned (OpenSpec.ofChange fnSltSgtIsSpec)

/-- ITS FALSE NEIGHBOUR: 'it returns false'. Refute it at one input. -/
def fnSltSgtIsWrong : ChangeSpec := { name := "fnSltSgtIs", fn := fun _ => fun
  | [d1, d2] => { results := [.lit (.bool false)], args := [d1, d2] }
  | _ => none }
def FnSltSgtIsWrongFalsely : Prop := fnSltSgtIsRow.holds Try.pinned (OpenSpec.ofChange fnSltSgtIsWrong)

/-- 'laws.FnLshIs': WHATEVER THE INPUT: true; the input reads as it did. -/
def fnLshIsSpec : ChangeSpec := { name := "fnLshIs", fn := fun _ => fun
  | [d1, d2, d3] => { results := [.lit (.bool true)], args := [d1, d2, d3] }
  | _ => none }
def fnLshIsRow : OpenClaim := { program := "ytnbjmmmefnedhaa", sum := "91c5670880943d22f00f4216848791428ad13fe111eb3e8475e5fb74d2a2d191", func := "loop.example/pub-g03023/laws.FnLshIs", spec := "fnLshIs", unfollowed := true, recurses := true, apart := false }
def FnLshIsSaid : Prop := fnLshIsRow.holds Try.pinned (OpenSpec.ofChange fnLshIsSpec)

/-- ITS FALSE NEIGHBOUR: 'it returns false'. Refute it at one input. -/
def fnLshIsWrong : ChangeSpec := { name := "fnLshIs", fn := fun _ => fun
  | [d1, d2, d3] => { results := [.lit (.bool false)], args := [d1, d2, d3] }
  | _ => none }
def FnLshIsWrongFalsely : Prop := fnLshIsRow.holds Try.pinned (OpenSpec.ofChange fnLshIsWrong)

/-- 'laws.FnRshIs': WHATEVER THE INPUT: true; the input reads as it did. -/
def fnRshIsSpec : ChangeSpec := { name := "fnRshIs", fn := fun _ => fun
  | [d1, d2, d3] => { results := [.lit (.bool true)], args := [d1, d2, d3] }
  | _ => none }
def fnRshIsRow : OpenClaim := { program := "ytnbjmmmefnedhaa", sum := "91c5670880943d22f00f4216848791428ad13fe111eb3e8475e5fb74d2a2d191", func := "loop.example/pub-g03023/laws.FnRshIs", spec := "fnRshIs", unfollowed := true, recurses := true, apart := false }
def FnRshIsSaid : Prop := fnRshIsRow.holds Try.pinned (OpenSpec.ofChange fnRshIsSpec)

/-- ITS FALSE NEIGHBOUR: 'it returns false'. Refute it at one input. -/
def fnRshIsWrong : ChangeSpec := { name := "fnRshIs", fn := fun _ => fun
  | [d1, d2, d3] => { results := [.lit (.bool false)], args := [d1, d2, d3] }
  | _ => none }
def FnRshIsWrongFalsely : Prop := fnRshIsRow.holds Try.pinned (OpenSpec.ofChange fnRshIsWrong)

/-- 'laws.FnSRshIs': WHATEVER THE INPUT: true; the input reads as it did. -/
def fnSRshIsSpec : ChangeSpec := { name := "fnSRshIs", fn := fun _ => fun
  | [d1, d2, d3] => { results := [.lit (.bool true)], args := [d1, d2, d3] }
  | _ => none }
def fnSRshIsRow : OpenClaim := { program := "ytnbjmmmefnedhaa", sum := "91c5670880943d22f00f4216848791428ad13fe111eb3e8475e5fb74d2a2d191", func := "loop.example/pub-g03023/laws.FnSRshIs", spec := "fnSRshIs", unfollowed := true, recurses := true, apart := false }
def FnSRshIsSaid : Prop := fnSRshIsRow.holds Try.pinned (OpenSpec.ofChange fnSRshIsSpec)

/-- ITS FALSE NEIGHBOUR: 'it returns false'. Refute it at one input. -/
def fnSRshIsWrong : ChangeSpec := { name := "fnSRshIs", fn := fun _ => fun
  | [d1, d2, d3] => { results := [.lit (.bool false)], args := [d1, d2, d3] }
  | _ => none }
def FnSRshIsWrongFalsely : Prop := fnSRshIsRow.holds Try.pinned (OpenSpec.ofChange fnSRshIsWrong)

/-- 'laws.FnExtendSignIs': WHATEVER THE INPUT: true; the input reads as it did. -/
def fnExtendSignIsSpec : ChangeSpec := { name := "fnExtendSignIs", fn := fun _ => fun
  | [d1, d2] => { results := [.lit (.bool true)], args := [d1, d2] }
  | _ => none }
def fnExtendSignIsRow : OpenClaim := { program := "ytnbjmmmefnedhaa", sum := "91c5670880943d22f00f4216848791428ad13fe111eb3e8475e5fb74d2a2d191", func := "loop.example/pub-g03023/laws.FnExtendSignIs", spec := "fnExtendSignIs", unfollowed := true, recurses := true, apart := false }
def FnExtendSignIsSaid : Prop := fnExtendSignIsRow.holds Try.pinned (OpenSpec.ofChange fnExtendSignIsSpec)

/-- ITS FALSE NEIGHBOUR: 'it returns false'. Refute it at one input. -/
def fnExtendSignIsWrong : ChangeSpec := { name := "fnExtendSignIs", fn := fun _ => fun
  | [d1, d2] => { results := [.lit (.bool false)], args := [d1, d2] }
  | _ => none }
def FnExtendSignIsWrongFalsely : Prop := fnExtendSignIsRow.holds Try.pinned (OpenSpec.ofChange fnExtendSignIsWrong)

/-- 'laws.FnShiftTwice': WHATEVER THE INPUT: true; the input reads as it did. -/
def fnShiftTwiceSpec : ChangeSpec := { name := "fnShiftTwice", fn := fun _ => fun
  | [d1, d2, d3] => { results := [.lit (.bool true)], args := [d1, d2, d3] }
  | _ => none }
def fnShiftTwiceRow : OpenClaim := { program := "ytnbjmmmefnedhaa", sum := "91c5670880943d22f00f4216848791428ad13fe111eb3e8475e5fb74d2a2d191", func := "loop.example/pub-g03023/laws.FnShiftTwice", spec := "fnShiftTwice", unfollowed := true, recurses := true, apart := false }
def FnShiftTwiceSaid : Prop := fnShiftTwiceRow.holds Try.pinned (OpenSpec.ofChange fnShiftTwiceSpec)

/-- ITS FALSE NEIGHBOUR: 'it returns false'. Refute it at one input. -/
def fnShiftTwiceWrong : ChangeSpec := { name := "fnShiftTwice", fn := fun _ => fun
  | [d1, d2, d3] => { results := [.lit (.bool false)], args := [d1, d2, d3] }
  | _ => none }
def FnShiftTwiceWrongFalsely : Prop := fnShiftTwiceRow.holds Try.pinned (OpenSpec.ofChange fnShiftTwiceWrong)

/-- 'laws.FnDeMorgan': WHATEVER THE INPUT: true; the input reads as it did. -/
def fnDeMorganSpec : ChangeSpec := { name := "fnDeMorgan", fn := fun _ => fun
  | [d1, d2] => { results := [.lit (.bool true)], args := [d1, d2] }
  | _ => none }
def fnDeMorganRow : OpenClaim := { program := "ytnbjmmmefnedhaa", sum := "91c5670880943d22f00f4216848791428ad13fe111eb3e8475e5fb74d2a2d191", func := "loop.example/pub-g03023/laws.FnDeMorgan", spec := "fnDeMorgan", inPlace := ["math/bits.Sub64"], unfollowed := true, recurses := true, apart := false }
def FnDeMorganSaid : Prop := fnDeMorganRow.holds Try.pinned (OpenSpec.ofChange fnDeMorganSpec)

/-- ITS FALSE NEIGHBOUR: 'it returns false'. Refute it at one input. -/
def fnDeMorganWrong : ChangeSpec := { name := "fnDeMorgan", fn := fun _ => fun
  | [d1, d2] => { results := [.lit (.bool false)], args := [d1, d2] }
  | _ => none }
def FnDeMorganWrongFalsely : Prop := fnDeMorganRow.holds Try.pinned (OpenSpec.ofChange fnDeMorganWrong)

/-- 'laws.FnMulIs': WHATEVER THE INPUT: true; the input reads as it did. -/
def fnMulIsSpec : ChangeSpec := { name := "fnMulIs", fn := fun _ => fun
  | [d1, d2] => { results := [.lit (.bool true)], args := [d1, d2] }
  | _ => none }
def fnMulIsRow : OpenClaim := { program := "ytnbjmmmefnedhaa", sum := "91c5670880943d22f00f4216848791428ad13fe111eb3e8475e5fb74d2a2d191", func := "loop.example/pub-g03023/laws.FnMulIs", spec := "fnMulIs", inPlace := ["math/bits.Add64"], unfollowed := true, recurses := true, apart := false }
def FnMulIsSaid : Prop := fnMulIsRow.holds Try.pinned (OpenSpec.ofChange fnMulIsSpec)

/-- ITS FALSE NEIGHBOUR: 'it returns false'. Refute it at one input. -/
def fnMulIsWrong : ChangeSpec := { name := "fnMulIs", fn := fun _ => fun
  | [d1, d2] => { results := [.lit (.bool false)], args := [d1, d2] }
  | _ => none }
def FnMulIsWrongFalsely : Prop := fnMulIsRow.holds Try.pinned (OpenSpec.ofChange fnMulIsWrong)

/-- 'laws.FnMulCommutes': WHATEVER THE INPUT: true; the input reads as it did. -/
def fnMulCommutesSpec : ChangeSpec := { name := "fnMulCommutes", fn := fun _ => fun
  | [d1, d2] => { results := [.lit (.bool true)], args := [d1, d2] }
  | _ => none }
def fnMulCommutesRow : OpenClaim := { program := "ytnbjmmmefnedhaa", sum := "91c5670880943d22f00f4216848791428ad13fe111eb3e8475e5fb74d2a2d191", func := "loop.example/pub-g03023/laws.FnMulCommutes", spec := "fnMulCommutes", inPlace := ["math/bits.Add64"], unfollowed := true, recurses := true, apart := false }
def FnMulCommutesSaid : Prop := fnMulCommutesRow.holds Try.pinned (OpenSpec.ofChange fnMulCommutesSpec)

/-- ITS FALSE NEIGHBOUR: 'it returns false'. Refute it at one input. -/
def fnMulCommutesWrong : ChangeSpec := { name := "fnMulCommutes", fn := fun _ => fun
  | [d1, d2] => { results := [.lit (.bool false)], args := [d1, d2] }
  | _ => none }
def FnMulCommutesWrongFalsely : Prop := fnMulCommutesRow.holds Try.pinned (OpenSpec.ofChange fnMulCommutesWrong)

/-- 'laws.FnMulAssociates': WHATEVER THE INPUT: true; the input reads as it did. -/
def fnMulAssociatesSpec : ChangeSpec := { name := "fnMulAssociates", fn := fun _ => fun
  | [d1, d2, d3] => { results := [.lit (.bool true)], args := [d1, d2, d3] }
  | _ => none }
def fnMulAssociatesRow : OpenClaim := { program := "ytnbjmmmefnedhaa", sum := "91c5670880943d22f00f4216848791428ad13fe111eb3e8475e5fb74d2a2d191", func := "loop.example/pub-g03023/laws.FnMulAssociates", spec := "fnMulAssociates", inPlace := ["math/bits.Add64"], unfollowed := true, recurses := true, apart := false }
def FnMulAssociatesSaid : Prop := fnMulAssociatesRow.holds Try.pinned (OpenSpec.ofChange fnMulAssociatesSpec)

/-- ITS FALSE NEIGHBOUR: 'it returns false'. Refute it at one input. -/
def fnMulAssociatesWrong : ChangeSpec := { name := "fnMulAssociates", fn := fun _ => fun
  | [d1, d2, d3] => { results := [.lit (.bool false)], args := [d1, d2, d3] }
  | _ => none }
def FnMulAssociatesWrongFalsely : Prop := fnMulAssociatesRow.holds Try.pinned (OpenSpec.ofChange fnMulAssociatesWrong)

/-- 'laws.FnDistributes': WHATEVER THE INPUT: true; the input reads as it did. -/
def fnDistributesSpec : ChangeSpec := { name := "fnDistributes", fn := fun _ => fun
  | [d1, d2, d3] => { results := [.lit (.bool true)], args := [d1, d2, d3] }
  | _ => none }
def fnDistributesRow : OpenClaim := { program := "ytnbjmmmefnedhaa", sum := "91c5670880943d22f00f4216848791428ad13fe111eb3e8475e5fb74d2a2d191", func := "loop.example/pub-g03023/laws.FnDistributes", spec := "fnDistributes", inPlace := ["math/bits.Add64"], unfollowed := true, recurses := true, apart := false }
def FnDistributesSaid : Prop := fnDistributesRow.holds Try.pinned (OpenSpec.ofChange fnDistributesSpec)

/-- ITS FALSE NEIGHBOUR: 'it returns false'. Refute it at one input. -/
def fnDistributesWrong : ChangeSpec := { name := "fnDistributes", fn := fun _ => fun
  | [d1, d2, d3] => { results := [.lit (.bool false)], args := [d1, d2, d3] }
  | _ => none }
def FnDistributesWrongFalsely : Prop := fnDistributesRow.holds Try.pinned (OpenSpec.ofChange fnDistributesWrong)

/- THE SECOND FORM. 'bulk': how many values and letters a reading holds, each counted each time it is reached (what is shared counts as often as it is met; a slice's spare places count too). A statement '..UptoSaid' is the law's where the arguments, and the package variables that the reading takes, are together of bulk at most 1048576: NARROWER than '..Said'. Prove '..Said' where nothing that the law and all that it calls make is longer than what came in: it says more and counts as full. Else prove '..UptoSaid'. A law counts once. -/
mutual
def uptoBulk {H : Type} : DataW H → Nat
  | .lit (.string bytes) => bytes.length + 1
  | .lit _ => 1
  | .nil => 1
  | .ptr d => uptoBulk d + 1
  | .slice elems spare => uptoBulkAll elems + uptoBulkAll spare + 1
  | .agg parts => uptoBulkAll parts + 1
  | .iface _ d => uptoBulk d + 1
  | .map entries => uptoBulkEntries entries + 1
  | .held _ => 1
def uptoBulkAll {H : Type} : List (DataW H) → Nat
  | [] => 0
  | d :: r => uptoBulk d + uptoBulkAll r
def uptoBulkEntries {H : Type} : List (Lit × DataW H) → Nat
  | [] => 0
  | x :: r => uptoBulkEntry x + uptoBulkEntries r
def uptoBulkEntry {H : Type} : Lit × DataW H → Nat
  | (.string bytes, d) => bytes.length + uptoBulk d + 1
  | (_, d) => uptoBulk d + 1
 end
def uptoSmall : (H : Type) → List (DataW H) → Bool := fun _ ds => decide (uptoBulkAll ds ≤ 1048576)
def OpenSpec.upto (s : _root_.Go.ChangeSpec) : _root_.Go.OpenSpec := { _root_.Go.OpenSpec.ofChange s with cond := some uptoSmall }

/-- 'laws.FnByteIs', WHERE WHAT IT READS IS OF BULK AT MOST 1048576: true; the input reads as it did. -/
def fnByteIsUptoRow : OpenClaim := { program := "ytnbjmmmefnedhaa", sum := "91c5670880943d22f00f4216848791428ad13fe111eb3e8475e5fb74d2a2d191", func := "loop.example/pub-g03023/laws.FnByteIs", spec := "fnByteIs", unfollowed := true, recurses := true, apart := false, narrowed := true }
def FnByteIsUptoSaid : Prop := fnByteIsUptoRow.holds Try.pinned (OpenSpec.upto fnByteIsSpec)

/-- 'laws.FnSltSgtIs', WHERE WHAT IT READS IS OF BULK AT MOST 1048576: true; the input reads as it did. -/
def fnSltSgtIsUptoRow : OpenClaim := { program := "ytnbjmmmefnedhaa", sum := "91c5670880943d22f00f4216848791428ad13fe111eb3e8475e5fb74d2a2d191", func := "loop.example/pub-g03023/laws.FnSltSgtIs", spec := "fnSltSgtIs", inPlace := ["math/bits.Sub64"], apart := false, narrowed := true }
def FnSltSgtIsUptoSaid : Prop := fnSltSgtIsUptoRow.holds Try.pinned (OpenSpec.upto fnSltSgtIsSpec)

/-- 'laws.FnLshIs', WHERE WHAT IT READS IS OF BULK AT MOST 1048576: true; the input reads as it did. -/
def fnLshIsUptoRow : OpenClaim := { program := "ytnbjmmmefnedhaa", sum := "91c5670880943d22f00f4216848791428ad13fe111eb3e8475e5fb74d2a2d191", func := "loop.example/pub-g03023/laws.FnLshIs", spec := "fnLshIs", unfollowed := true, recurses := true, apart := false, narrowed := true }
def FnLshIsUptoSaid : Prop := fnLshIsUptoRow.holds Try.pinned (OpenSpec.upto fnLshIsSpec)

/-- 'laws.FnRshIs', WHERE WHAT IT READS IS OF BULK AT MOST 1048576: true; the input reads as it did. -/
def fnRshIsUptoRow : OpenClaim := { program := "ytnbjmmmefnedhaa", sum := "91c5670880943d22f00f4216848791428ad13fe111eb3e8475e5fb74d2a2d191", func := "loop.example/pub-g03023/laws.FnRshIs", spec := "fnRshIs", unfollowed := true, recurses := true, apart := false, narrowed := true }
def FnRshIsUptoSaid : Prop := fnRshIsUptoRow.holds Try.pinned (OpenSpec.upto fnRshIsSpec)

/-- 'laws.FnSRshIs', WHERE WHAT IT READS IS OF BULK AT MOST 1048576: true; the input reads as it did. -/
def fnSRshIsUptoRow : OpenClaim := { program := "ytnbjmmmefnedhaa", sum := "91c5670880943d22f00f4216848791428ad13fe111eb3e8475e5fb74d2a2d191", func := "loop.example/pub-g03023/laws.FnSRshIs", spec := "fnSRshIs", unfollowed := true, recurses := true, apart := false, narrowed := true }
def FnSRshIsUptoSaid : Prop := fnSRshIsUptoRow.holds Try.pinned (OpenSpec.upto fnSRshIsSpec)

/-- 'laws.FnExtendSignIs', WHERE WHAT IT READS IS OF BULK AT MOST 1048576: true; the input reads as it did. -/
def fnExtendSignIsUptoRow : OpenClaim := { program := "ytnbjmmmefnedhaa", sum := "91c5670880943d22f00f4216848791428ad13fe111eb3e8475e5fb74d2a2d191", func := "loop.example/pub-g03023/laws.FnExtendSignIs", spec := "fnExtendSignIs", unfollowed := true, recurses := true, apart := false, narrowed := true }
def FnExtendSignIsUptoSaid : Prop := fnExtendSignIsUptoRow.holds Try.pinned (OpenSpec.upto fnExtendSignIsSpec)

/-- 'laws.FnShiftTwice', WHERE WHAT IT READS IS OF BULK AT MOST 1048576: true; the input reads as it did. -/
def fnShiftTwiceUptoRow : OpenClaim := { program := "ytnbjmmmefnedhaa", sum := "91c5670880943d22f00f4216848791428ad13fe111eb3e8475e5fb74d2a2d191", func := "loop.example/pub-g03023/laws.FnShiftTwice", spec := "fnShiftTwice", unfollowed := true, recurses := true, apart := false, narrowed := true }
def FnShiftTwiceUptoSaid : Prop := fnShiftTwiceUptoRow.holds Try.pinned (OpenSpec.upto fnShiftTwiceSpec)

/-- 'laws.FnDeMorgan', WHERE WHAT IT READS IS OF BULK AT MOST 1048576: true; the input reads as it did. -/
def fnDeMorganUptoRow : OpenClaim := { program := "ytnbjmmmefnedhaa", sum := "91c5670880943d22f00f4216848791428ad13fe111eb3e8475e5fb74d2a2d191", func := "loop.example/pub-g03023/laws.FnDeMorgan", spec := "fnDeMorgan", inPlace := ["math/bits.Sub64"], unfollowed := true, recurses := true, apart := false, narrowed := true }
def FnDeMorganUptoSaid : Prop := fnDeMorganUptoRow.holds Try.pinned (OpenSpec.upto fnDeMorganSpec)

/-- 'laws.FnMulIs', WHERE WHAT IT READS IS OF BULK AT MOST 1048576: true; the input reads as it did. -/
def fnMulIsUptoRow : OpenClaim := { program := "ytnbjmmmefnedhaa", sum := "91c5670880943d22f00f4216848791428ad13fe111eb3e8475e5fb74d2a2d191", func := "loop.example/pub-g03023/laws.FnMulIs", spec := "fnMulIs", inPlace := ["math/bits.Add64"], unfollowed := true, recurses := true, apart := false, narrowed := true }
def FnMulIsUptoSaid : Prop := fnMulIsUptoRow.holds Try.pinned (OpenSpec.upto fnMulIsSpec)

/-- 'laws.FnMulCommutes', WHERE WHAT IT READS IS OF BULK AT MOST 1048576: true; the input reads as it did. -/
def fnMulCommutesUptoRow : OpenClaim := { program := "ytnbjmmmefnedhaa", sum := "91c5670880943d22f00f4216848791428ad13fe111eb3e8475e5fb74d2a2d191", func := "loop.example/pub-g03023/laws.FnMulCommutes", spec := "fnMulCommutes", inPlace := ["math/bits.Add64"], unfollowed := true, recurses := true, apart := false, narrowed := true }
def FnMulCommutesUptoSaid : Prop := fnMulCommutesUptoRow.holds Try.pinned (OpenSpec.upto fnMulCommutesSpec)

/-- 'laws.FnMulAssociates', WHERE WHAT IT READS IS OF BULK AT MOST 1048576: true; the input reads as it did. -/
def fnMulAssociatesUptoRow : OpenClaim := { program := "ytnbjmmmefnedhaa", sum := "91c5670880943d22f00f4216848791428ad13fe111eb3e8475e5fb74d2a2d191", func := "loop.example/pub-g03023/laws.FnMulAssociates", spec := "fnMulAssociates", inPlace := ["math/bits.Add64"], unfollowed := true, recurses := true, apart := false, narrowed := true }
def FnMulAssociatesUptoSaid : Prop := fnMulAssociatesUptoRow.holds Try.pinned (OpenSpec.upto fnMulAssociatesSpec)

/-- 'laws.FnDistributes', WHERE WHAT IT READS IS OF BULK AT MOST 1048576: true; the input reads as it did. -/
def fnDistributesUptoRow : OpenClaim := { program := "ytnbjmmmefnedhaa", sum := "91c5670880943d22f00f4216848791428ad13fe111eb3e8475e5fb74d2a2d191", func := "loop.example/pub-g03023/laws.FnDistributes", spec := "fnDistributes", inPlace := ["math/bits.Add64"], unfollowed := true, recurses := true, apart := false, narrowed := true }
def FnDistributesUptoSaid : Prop := fnDistributesUptoRow.holds Try.pinned (OpenSpec.upto fnDistributesSpec)

end Rows
end Go.Proofs.Ytnbjmmmefnedhaa
