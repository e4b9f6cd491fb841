/-
  No cell of these rows narrows 'for every input' (looked for: loops, veiled, ifaces, maps, wideKeys, modest, calm, conditions, laid).
  DERIVED. THE GIVEN ROWS OF THIS SEAT. 3 by the template 'for every input the law returns true; each argument reads behind the call as it read before'; 0 by the template 'total and deterministic' (their statements: YtpjljjajnfoccaaTotals.lean).
  GIVEN WITH THE SEED: the statements are not yours to turn. If you find one false, say at which input.
  Laid BY PROGRAM, IN A SANDBOX (cutbox-rows.mjs): the forced cells as the released guide's own fill.sh prints them over the translation acdd99696785e5c2… (all of the seat's roots in one cut). By AI agents, Wed Nov 11 2026. No macro, syntax, notation, axiom, sorry.
-/
import Derived.Test.YtpjljjajnfoccaaChecked
import GoSem.Claim
import GoSem.ClaimJoined
import GoSem.ClaimMapViews
import Derived.JoinedTies
import Derived.KernelRfl
namespace Go.Proofs.Ytpjljjajnfoccaa
/- THE CELL 'sum', in the pinned program and in every row, IS THE sha256 OF THE DUMP (.gsa) THAT YtpjljjajnfoccaaProg.lean LOADS. Nothing in Lean hashes anything: it is a label: what it is worth is what the hold of that sum in a sandbox is worth. -/
noncomputable def Try.pinned : Pinned := { name := "ytpjljjajnfoccaa", sum := "acdd99696785e5c28756ae2f3d060205117e6351e0c80538c77e09fd4e6856cd", checked := Try.checked }
namespace Rows
def none {H : Type} : Left H := { results := [], args := [] }

/-- 'laws.FnAddModIs': WHATEVER THE INPUT: true; the input reads as it did. -/
def fnAddModIsSpec : ChangeSpec := { name := "fnAddModIs", fn := fun _ => fun
  | [d1, d2] => { results := [.lit (.bool true)], args := [d1, d2] }
  | _ => none }
def fnAddModIsRow : OpenClaim := { program := "ytpjljjajnfoccaa", sum := "acdd99696785e5c28756ae2f3d060205117e6351e0c80538c77e09fd4e6856cd", func := "loop.example/pub-g03023/laws.FnAddModIs", spec := "fnAddModIs", inPlace := ["math/bits.Sub64", "math/bits.Add64"], unfollowed := true, recurses := true, apart := false }
def FnAddModIsSaid : Prop := fnAddModIsRow.holds Try.pinned (OpenSpec.ofChange fnAddModIsSpec)

/-- ITS FALSE NEIGHBOUR: 'it returns false'. Refute it at one input. -/
def fnAddModIsWrong : ChangeSpec := { name := "fnAddModIs", fn := fun _ => fun
  | [d1, d2] => { results := [.lit (.bool false)], args := [d1, d2] }
  | _ => none }
def FnAddModIsWrongFalsely : Prop := fnAddModIsRow.holds Try.pinned (OpenSpec.ofChange fnAddModIsWrong)

/-- 'laws.FnAddModRoads': WHATEVER THE INPUT: true; the input reads as it did. -/
def fnAddModRoadsSpec : ChangeSpec := { name := "fnAddModRoads", fn := fun _ => fun
  | [d1, d2, d3] => { results := [.lit (.bool true)], args := [d1, d2, d3] }
  | _ => none }
def fnAddModRoadsRow : OpenClaim := { program := "ytpjljjajnfoccaa", sum := "acdd99696785e5c28756ae2f3d060205117e6351e0c80538c77e09fd4e6856cd", func := "loop.example/pub-g03023/laws.FnAddModRoads", spec := "fnAddModRoads", inPlace := ["math/bits.Sub64", "math/bits.Add64"], unfollowed := true, recurses := true, apart := false }
def FnAddModRoadsSaid : Prop := fnAddModRoadsRow.holds Try.pinned (OpenSpec.ofChange fnAddModRoadsSpec)

/-- ITS FALSE NEIGHBOUR: 'it returns false'. Refute it at one input. -/
def fnAddModRoadsWrong : ChangeSpec := { name := "fnAddModRoads", fn := fun _ => fun
  | [d1, d2, d3] => { results := [.lit (.bool false)], args := [d1, d2, d3] }
  | _ => none }
def FnAddModRoadsWrongFalsely : Prop := fnAddModRoadsRow.holds Try.pinned (OpenSpec.ofChange fnAddModRoadsWrong)

/-- 'laws.FnFloat64Is': WHATEVER THE INPUT: true; the input reads as it did. -/
def fnFloat64IsSpec : ChangeSpec := { name := "fnFloat64Is", fn := fun _ => fun
  | [d] => { results := [.lit (.bool true)], args := [d] }
  | _ => none }
def fnFloat64IsRow : OpenClaim := { program := "ytpjljjajnfoccaa", sum := "acdd99696785e5c28756ae2f3d060205117e6351e0c80538c77e09fd4e6856cd", func := "loop.example/pub-g03023/laws.FnFloat64Is", spec := "fnFloat64Is", inPlace := ["math.Float64frombits"], apart := false }
def FnFloat64IsSaid : Prop := fnFloat64IsRow.holds Try.pinned (OpenSpec.ofChange fnFloat64IsSpec)

/-- ITS FALSE NEIGHBOUR: 'it returns false'. Refute it at one input. -/
def fnFloat64IsWrong : ChangeSpec := { name := "fnFloat64Is", fn := fun _ => fun
  | [d] => { results := [.lit (.bool false)], args := [d] }
  | _ => none }
def FnFloat64IsWrongFalsely : Prop := fnFloat64IsRow.holds Try.pinned (OpenSpec.ofChange fnFloat64IsWrong)

/- THE SECOND FORM. 'bulk': how many values and letters a reading holds, each counted each time it is reached (what is shared counts as often as it is met; a slice's spare places count too). A statement '..UptoSaid' is the law's where the arguments, and the package variables that the reading takes, are together of bulk at most 1048576: NARROWER than '..Said'. Prove '..Said' where nothing that the law and all that it calls make is longer than what came in: it says more and counts as full. Else prove '..UptoSaid'. A law counts once. -/
mutual
def uptoBulk {H : Type} : DataW H → Nat
  | .lit (.string bytes) => bytes.length + 1
  | .lit _ => 1
  | .nil => 1
  | .ptr d => uptoBulk d + 1
  | .slice elems spare => uptoBulkAll elems + uptoBulkAll spare + 1
  | .agg parts => uptoBulkAll parts + 1
  | .iface _ d => uptoBulk d + 1
  | .map entries => uptoBulkEntries entries + 1
  | .held _ => 1
def uptoBulkAll {H : Type} : List (DataW H) → Nat
  | [] => 0
  | d :: r => uptoBulk d + uptoBulkAll r
def uptoBulkEntries {H : Type} : List (Lit × DataW H) → Nat
  | [] => 0
  | x :: r => uptoBulkEntry x + uptoBulkEntries r
def uptoBulkEntry {H : Type} : Lit × DataW H → Nat
  | (.string bytes, d) => bytes.length + uptoBulk d + 1
  | (_, d) => uptoBulk d + 1
 end
def uptoSmall : (H : Type) → List (DataW H) → Bool := fun _ ds => decide (uptoBulkAll ds ≤ 1048576)
def OpenSpec.upto (s : _root_.Go.ChangeSpec) : _root_.Go.OpenSpec := { _root_.Go.OpenSpec.ofChange s with cond := some uptoSmall }

/-- 'laws.FnAddModIs', WHERE WHAT IT READS IS OF BULK AT MOST 1048576: true; the input reads as it did. -/
def fnAddModIsUptoRow : OpenClaim := { program := "ytpjljjajnfoccaa", sum := "acdd99696785e5c28756ae2f3d060205117e6351e0c80538c77e09fd4e6856cd", func := "loop.example/pub-g03023/laws.FnAddModIs", spec := "fnAddModIs", inPlace := ["math/bits.Sub64", "math/bits.Add64"], unfollowed := true, recurses := true, apart := false, narrowed := true }
def FnAddModIsUptoSaid : Prop := fnAddModIsUptoRow.holds Try.pinned (OpenSpec.upto fnAddModIsSpec)

/-- 'laws.FnAddModRoads', WHERE WHAT IT READS IS OF BULK AT MOST 1048576: true; the input reads as it did. -/
def fnAddModRoadsUptoRow : OpenClaim := { program := "ytpjljjajnfoccaa", sum := "acdd99696785e5c28756ae2f3d060205117e6351e0c80538c77e09fd4e6856cd", func := "loop.example/pub-g03023/laws.FnAddModRoads", spec := "fnAddModRoads", inPlace := ["math/bits.Sub64", "math/bits.Add64"], unfollowed := true, recurses := true, apart := false, narrowed := true }
def FnAddModRoadsUptoSaid : Prop := fnAddModRoadsUptoRow.holds Try.pinned (OpenSpec.upto fnAddModRoadsSpec)

/-- 'laws.FnFloat64Is', WHERE WHAT IT READS IS OF BULK AT MOST 1048576: true; the input reads as it did. -/
def fnFloat64IsUptoRow : OpenClaim := { program := "ytpjljjajnfoccaa", sum := "acdd99696785e5c28756ae2f3d060205117e6351e0c80538c77e09fd4e6856cd", func := "loop.example/pub-g03023/laws.FnFloat64Is", spec := "fnFloat64Is", inPlace := ["math.Float64frombits"], apart := false, narrowed := true }
def FnFloat64IsUptoSaid : Prop := fnFloat64IsUptoRow.holds Try.pinned (OpenSpec.upto fnFloat64IsSpec)

end Rows
end Go.Proofs.Ytpjljjajnfoccaa
