/-
  No cell of these rows narrows 'for every input' (looked for: loops, veiled, ifaces, maps, wideKeys, modest, calm, conditions, laid).
  DERIVED. THE GIVEN ROWS OF THIS SEAT. 12 by the template 'for every input the law returns true; each argument reads behind the call as it read before'; 0 by the template 'total and deterministic' (their statements: YtgcmcodkhcnkmaaTotals.lean).
  GIVEN WITH THE SEED: the statements are not yours to turn. If you find one false, say at which input.
  Laid BY PROGRAM, IN A SANDBOX (cutbox-rows.mjs): the forced cells as the released guide's own fill.sh prints them over the translation 1c88c6c4b9aff9df… (all of the seat's roots in one cut). By AI agents, Wed Nov 11 2026. No macro, syntax, notation, axiom, sorry.
-/
import Derived.Test.YtgcmcodkhcnkmaaChecked
import GoSem.Claim
import GoSem.ClaimJoined
import GoSem.ClaimMapViews
import Derived.JoinedTies
import Derived.KernelRfl
namespace Go.Proofs.Ytgcmcodkhcnkmaa
/- THE CELL 'sum', in the pinned program and in every row, IS THE sha256 OF THE DUMP (.gsa) THAT YtgcmcodkhcnkmaaProg.lean LOADS. Nothing in Lean hashes anything: it is a label: what it is worth is what the hold of that sum in a sandbox is worth. -/
noncomputable def Try.pinned : Pinned := { name := "ytgcmcodkhcnkmaa", sum := "1c88c6c4b9aff9dfb211b449143938b7bb42f2a5f11c20b2bf503ede69815a00", checked := Try.checked }
namespace Rows
def none {H : Type} : Left H := { results := [], args := [] }

/-- 'laws.FnEqLtGtIs': WHATEVER THE INPUT: true; the input reads as it did. -/
def fnEqLtGtIsSpec : ChangeSpec := { name := "fnEqLtGtIs", fn := fun _ => fun
  | [d1, d2] => { results := [.lit (.bool true)], args := [d1, d2] }
  | _ => none }
def fnEqLtGtIsRow : OpenClaim := { program := "ytgcmcodkhcnkmaa", sum := "1c88c6c4b9aff9dfb211b449143938b7bb42f2a5f11c20b2bf503ede69815a00", func := "loop.example/pub-g03023/laws.FnEqLtGtIs", spec := "fnEqLtGtIs", inPlace := ["math/bits.Sub64"], apart := false }
def FnEqLtGtIsSaid : Prop := fnEqLtGtIsRow.holds Try.pinned (OpenSpec.ofChange fnEqLtGtIsSpec)

/-- ITS FALSE NEIGHBOUR: 'it returns false'. Refute it at one input. -/
def fnEqLtGtIsWrong : ChangeSpec := { name := "fnEqLtGtIs", fn := fun _ => fun
  | [d1, d2] => { results := [.lit (.bool false)], args := [d1, d2] }
  | _ => none }
def FnEqLtGtIsWrongFalsely : Prop := fnEqLtGtIsRow.holds Try.pinned (OpenSpec.ofChange fnEqLtGtIsWrong)

/-- 'laws.FnSubIs': WHATEVER THE INPUT: true; the input reads as it did. -/
def fnSubIsSpec : ChangeSpec := { name := "fnSubIs", fn := fun _ => fun
  | [d1, d2] => { results := [.lit (.bool true)], args := [d1, d2] }
  | _ => none }
def fnSubIsRow : OpenClaim := { program := "ytgcmcodkhcnkmaa", sum := "1c88c6c4b9aff9dfb211b449143938b7bb42f2a5f11c20b2bf503ede69815a00", func := "loop.example/pub-g03023/laws.FnSubIs", spec := "fnSubIs", inPlace := ["math/bits.Sub64"], unfollowed := true, recurses := true, apart := false }
def FnSubIsSaid : Prop := fnSubIsRow.holds Try.pinned (OpenSpec.ofChange fnSubIsSpec)

/-- ITS FALSE NEIGHBOUR: 'it returns false'. Refute it at one input. -/
def fnSubIsWrong : ChangeSpec := { name := "fnSubIs", fn := fun _ => fun
  | [d1, d2] => { results := [.lit (.bool false)], args := [d1, d2] }
  | _ => none }
def FnSubIsWrongFalsely : Prop := fnSubIsRow.holds Try.pinned (OpenSpec.ofChange fnSubIsWrong)

/-- 'laws.FnSubOverflowIs': WHATEVER THE INPUT: true; the input reads as it did. -/
def fnSubOverflowIsSpec : ChangeSpec := { name := "fnSubOverflowIs", fn := fun _ => fun
  | [d1, d2] => { results := [.lit (.bool true)], args := [d1, d2] }
  | _ => none }
def fnSubOverflowIsRow : OpenClaim := { program := "ytgcmcodkhcnkmaa", sum := "1c88c6c4b9aff9dfb211b449143938b7bb42f2a5f11c20b2bf503ede69815a00", func := "loop.example/pub-g03023/laws.FnSubOverflowIs", spec := "fnSubOverflowIs", inPlace := ["math/bits.Sub64"], unfollowed := true, recurses := true, apart := false }
def FnSubOverflowIsSaid : Prop := fnSubOverflowIsRow.holds Try.pinned (OpenSpec.ofChange fnSubOverflowIsSpec)

/-- ITS FALSE NEIGHBOUR: 'it returns false'. Refute it at one input. -/
def fnSubOverflowIsWrong : ChangeSpec := { name := "fnSubOverflowIs", fn := fun _ => fun
  | [d1, d2] => { results := [.lit (.bool false)], args := [d1, d2] }
  | _ => none }
def FnSubOverflowIsWrongFalsely : Prop := fnSubOverflowIsRow.holds Try.pinned (OpenSpec.ofChange fnSubOverflowIsWrong)

/-- 'laws.FnSubUint64Is': WHATEVER THE INPUT: true; the input reads as it did. -/
def fnSubUint64IsSpec : ChangeSpec := { name := "fnSubUint64Is", fn := fun _ => fun
  | [d1, d2, d3] => { results := [.lit (.bool true)], args := [d1, d2, d3] }
  | _ => none }
def fnSubUint64IsRow : OpenClaim := { program := "ytgcmcodkhcnkmaa", sum := "1c88c6c4b9aff9dfb211b449143938b7bb42f2a5f11c20b2bf503ede69815a00", func := "loop.example/pub-g03023/laws.FnSubUint64Is", spec := "fnSubUint64Is", inPlace := ["math/bits.Sub64"], unfollowed := true, recurses := true, apart := false }
def FnSubUint64IsSaid : Prop := fnSubUint64IsRow.holds Try.pinned (OpenSpec.ofChange fnSubUint64IsSpec)

/-- ITS FALSE NEIGHBOUR: 'it returns false'. Refute it at one input. -/
def fnSubUint64IsWrong : ChangeSpec := { name := "fnSubUint64Is", fn := fun _ => fun
  | [d1, d2, d3] => { results := [.lit (.bool false)], args := [d1, d2, d3] }
  | _ => none }
def FnSubUint64IsWrongFalsely : Prop := fnSubUint64IsRow.holds Try.pinned (OpenSpec.ofChange fnSubUint64IsWrong)

/-- 'laws.FnAddAssociates': WHATEVER THE INPUT: true; the input reads as it did. -/
def fnAddAssociatesSpec : ChangeSpec := { name := "fnAddAssociates", fn := fun _ => fun
  | [d1, d2, d3] => { results := [.lit (.bool true)], args := [d1, d2, d3] }
  | _ => none }
def fnAddAssociatesRow : OpenClaim := { program := "ytgcmcodkhcnkmaa", sum := "1c88c6c4b9aff9dfb211b449143938b7bb42f2a5f11c20b2bf503ede69815a00", func := "loop.example/pub-g03023/laws.FnAddAssociates", spec := "fnAddAssociates", inPlace := ["math/bits.Add64"], unfollowed := true, recurses := true, apart := false }
def FnAddAssociatesSaid : Prop := fnAddAssociatesRow.holds Try.pinned (OpenSpec.ofChange fnAddAssociatesSpec)

/-- ITS FALSE NEIGHBOUR: 'it returns false'. Refute it at one input. -/
def fnAddAssociatesWrong : ChangeSpec := { name := "fnAddAssociates", fn := fun _ => fun
  | [d1, d2, d3] => { results := [.lit (.bool false)], args := [d1, d2, d3] }
  | _ => none }
def FnAddAssociatesWrongFalsely : Prop := fnAddAssociatesRow.holds Try.pinned (OpenSpec.ofChange fnAddAssociatesWrong)

/-- 'laws.FnAddCommutes': WHATEVER THE INPUT: true; the input reads as it did. -/
def fnAddCommutesSpec : ChangeSpec := { name := "fnAddCommutes", fn := fun _ => fun
  | [d1, d2] => { results := [.lit (.bool true)], args := [d1, d2] }
  | _ => none }
def fnAddCommutesRow : OpenClaim := { program := "ytgcmcodkhcnkmaa", sum := "1c88c6c4b9aff9dfb211b449143938b7bb42f2a5f11c20b2bf503ede69815a00", func := "loop.example/pub-g03023/laws.FnAddCommutes", spec := "fnAddCommutes", inPlace := ["math/bits.Add64"], unfollowed := true, recurses := true, apart := false }
def FnAddCommutesSaid : Prop := fnAddCommutesRow.holds Try.pinned (OpenSpec.ofChange fnAddCommutesSpec)

/-- ITS FALSE NEIGHBOUR: 'it returns false'. Refute it at one input. -/
def fnAddCommutesWrong : ChangeSpec := { name := "fnAddCommutes", fn := fun _ => fun
  | [d1, d2] => { results := [.lit (.bool false)], args := [d1, d2] }
  | _ => none }
def FnAddCommutesWrongFalsely : Prop := fnAddCommutesRow.holds Try.pinned (OpenSpec.ofChange fnAddCommutesWrong)

/-- 'laws.FnAddIs': WHATEVER THE INPUT: true; the input reads as it did. -/
def fnAddIsSpec : ChangeSpec := { name := "fnAddIs", fn := fun _ => fun
  | [d1, d2] => { results := [.lit (.bool true)], args := [d1, d2] }
  | _ => none }
def fnAddIsRow : OpenClaim := { program := "ytgcmcodkhcnkmaa", sum := "1c88c6c4b9aff9dfb211b449143938b7bb42f2a5f11c20b2bf503ede69815a00", func := "loop.example/pub-g03023/laws.FnAddIs", spec := "fnAddIs", inPlace := ["math/bits.Add64"], unfollowed := true, recurses := true, apart := false }
def FnAddIsSaid : Prop := fnAddIsRow.holds Try.pinned (OpenSpec.ofChange fnAddIsSpec)

/-- ITS FALSE NEIGHBOUR: 'it returns false'. Refute it at one input. -/
def fnAddIsWrong : ChangeSpec := { name := "fnAddIs", fn := fun _ => fun
  | [d1, d2] => { results := [.lit (.bool false)], args := [d1, d2] }
  | _ => none }
def FnAddIsWrongFalsely : Prop := fnAddIsRow.holds Try.pinned (OpenSpec.ofChange fnAddIsWrong)

/-- 'laws.FnAddOverflowIs': WHATEVER THE INPUT: true; the input reads as it did. -/
def fnAddOverflowIsSpec : ChangeSpec := { name := "fnAddOverflowIs", fn := fun _ => fun
  | [d1, d2] => { results := [.lit (.bool true)], args := [d1, d2] }
  | _ => none }
def fnAddOverflowIsRow : OpenClaim := { program := "ytgcmcodkhcnkmaa", sum := "1c88c6c4b9aff9dfb211b449143938b7bb42f2a5f11c20b2bf503ede69815a00", func := "loop.example/pub-g03023/laws.FnAddOverflowIs", spec := "fnAddOverflowIs", inPlace := ["math/bits.Add64"], unfollowed := true, recurses := true, apart := false }
def FnAddOverflowIsSaid : Prop := fnAddOverflowIsRow.holds Try.pinned (OpenSpec.ofChange fnAddOverflowIsSpec)

/-- ITS FALSE NEIGHBOUR: 'it returns false'. Refute it at one input. -/
def fnAddOverflowIsWrong : ChangeSpec := { name := "fnAddOverflowIs", fn := fun _ => fun
  | [d1, d2] => { results := [.lit (.bool false)], args := [d1, d2] }
  | _ => none }
def FnAddOverflowIsWrongFalsely : Prop := fnAddOverflowIsRow.holds Try.pinned (OpenSpec.ofChange fnAddOverflowIsWrong)

/-- 'laws.FnAddUint64Is': WHATEVER THE INPUT: true; the input reads as it did. -/
def fnAddUint64IsSpec : ChangeSpec := { name := "fnAddUint64Is", fn := fun _ => fun
  | [d1, d2, d3] => { results := [.lit (.bool true)], args := [d1, d2, d3] }
  | _ => none }
def fnAddUint64IsRow : OpenClaim := { program := "ytgcmcodkhcnkmaa", sum := "1c88c6c4b9aff9dfb211b449143938b7bb42f2a5f11c20b2bf503ede69815a00", func := "loop.example/pub-g03023/laws.FnAddUint64Is", spec := "fnAddUint64Is", inPlace := ["math/bits.Add64"], unfollowed := true, recurses := true, apart := false }
def FnAddUint64IsSaid : Prop := fnAddUint64IsRow.holds Try.pinned (OpenSpec.ofChange fnAddUint64IsSpec)

/-- ITS FALSE NEIGHBOUR: 'it returns false'. Refute it at one input. -/
def fnAddUint64IsWrong : ChangeSpec := { name := "fnAddUint64Is", fn := fun _ => fun
  | [d1, d2, d3] => { results := [.lit (.bool false)], args := [d1, d2, d3] }
  | _ => none }
def FnAddUint64IsWrongFalsely : Prop := fnAddUint64IsRow.holds Try.pinned (OpenSpec.ofChange fnAddUint64IsWrong)

/-- 'laws.FnNegIs': WHATEVER THE INPUT: true; the input reads as it did. -/
def fnNegIsSpec : ChangeSpec := { name := "fnNegIs", fn := fun _ => fun
  | [d1, d2] => { results := [.lit (.bool true)], args := [d1, d2] }
  | _ => none }
def fnNegIsRow : OpenClaim := { program := "ytgcmcodkhcnkmaa", sum := "1c88c6c4b9aff9dfb211b449143938b7bb42f2a5f11c20b2bf503ede69815a00", func := "loop.example/pub-g03023/laws.FnNegIs", spec := "fnNegIs", inPlace := ["math/bits.Sub64"], unfollowed := true, recurses := true, apart := false }
def FnNegIsSaid : Prop := fnNegIsRow.holds Try.pinned (OpenSpec.ofChange fnNegIsSpec)

/-- ITS FALSE NEIGHBOUR: 'it returns false'. Refute it at one input. -/
def fnNegIsWrong : ChangeSpec := { name := "fnNegIs", fn := fun _ => fun
  | [d1, d2] => { results := [.lit (.bool false)], args := [d1, d2] }
  | _ => none }
def FnNegIsWrongFalsely : Prop := fnNegIsRow.holds Try.pinned (OpenSpec.ofChange fnNegIsWrong)

/-- 'laws.FnAbsIs': WHATEVER THE INPUT: true; the input reads as it did. -/
def fnAbsIsSpec : ChangeSpec := { name := "fnAbsIs", fn := fun _ => fun
  | [d1, d2] => { results := [.lit (.bool true)], args := [d1, d2] }
  | _ => none }
def fnAbsIsRow : OpenClaim := { program := "ytgcmcodkhcnkmaa", sum := "1c88c6c4b9aff9dfb211b449143938b7bb42f2a5f11c20b2bf503ede69815a00", func := "loop.example/pub-g03023/laws.FnAbsIs", spec := "fnAbsIs", inPlace := ["math/bits.Sub64"], unfollowed := true, recurses := true, apart := false }
def FnAbsIsSaid : Prop := fnAbsIsRow.holds Try.pinned (OpenSpec.ofChange fnAbsIsSpec)

/-- ITS FALSE NEIGHBOUR: 'it returns false'. Refute it at one input. -/
def fnAbsIsWrong : ChangeSpec := { name := "fnAbsIs", fn := fun _ => fun
  | [d1, d2] => { results := [.lit (.bool false)], args := [d1, d2] }
  | _ => none }
def FnAbsIsWrongFalsely : Prop := fnAbsIsRow.holds Try.pinned (OpenSpec.ofChange fnAbsIsWrong)

/-- 'laws.FnSubAdds': WHATEVER THE INPUT: true; the input reads as it did. -/
def fnSubAddsSpec : ChangeSpec := { name := "fnSubAdds", fn := fun _ => fun
  | [d1, d2] => { results := [.lit (.bool true)], args := [d1, d2] }
  | _ => none }
def fnSubAddsRow : OpenClaim := { program := "ytgcmcodkhcnkmaa", sum := "1c88c6c4b9aff9dfb211b449143938b7bb42f2a5f11c20b2bf503ede69815a00", func := "loop.example/pub-g03023/laws.FnSubAdds", spec := "fnSubAdds", inPlace := ["math/bits.Sub64", "math/bits.Add64"], unfollowed := true, recurses := true, apart := false }
def FnSubAddsSaid : Prop := fnSubAddsRow.holds Try.pinned (OpenSpec.ofChange fnSubAddsSpec)

/-- ITS FALSE NEIGHBOUR: 'it returns false'. Refute it at one input. -/
def fnSubAddsWrong : ChangeSpec := { name := "fnSubAdds", fn := fun _ => fun
  | [d1, d2] => { results := [.lit (.bool false)], args := [d1, d2] }
  | _ => none }
def FnSubAddsWrongFalsely : Prop := fnSubAddsRow.holds Try.pinned (OpenSpec.ofChange fnSubAddsWrong)

/- THE SECOND FORM. 'bulk': how many values and letters a reading holds, each counted each time it is reached (what is shared counts as often as it is met; a slice's spare places count too). A statement '..UptoSaid' is the law's where the arguments, and the package variables that the reading takes, are together of bulk at most 1048576: NARROWER than '..Said'. Prove '..Said' where nothing that the law and all that it calls make is longer than what came in: it says more and counts as full. Else prove '..UptoSaid'. A law counts once. -/
mutual
def uptoBulk {H : Type} : DataW H → Nat
  | .lit (.string bytes) => bytes.length + 1
  | .lit _ => 1
  | .nil => 1
  | .ptr d => uptoBulk d + 1
  | .slice elems spare => uptoBulkAll elems + uptoBulkAll spare + 1
  | .agg parts => uptoBulkAll parts + 1
  | .iface _ d => uptoBulk d + 1
  | .map entries => uptoBulkEntries entries + 1
  | .held _ => 1
def uptoBulkAll {H : Type} : List (DataW H) → Nat
  | [] => 0
  | d :: r => uptoBulk d + uptoBulkAll r
def uptoBulkEntries {H : Type} : List (Lit × DataW H) → Nat
  | [] => 0
  | x :: r => uptoBulkEntry x + uptoBulkEntries r
def uptoBulkEntry {H : Type} : Lit × DataW H → Nat
  | (.string bytes, d) => bytes.length + uptoBulk d + 1
  | (_, d) => uptoBulk d + 1
 end
def uptoSmall : (H : Type) → List (DataW H) → Bool := fun _ ds => decide (uptoBulkAll ds ≤ 1048576)
def OpenSpec.upto (s : _root_.Go.ChangeSpec) : _root_.Go.OpenSpec := { _root_.Go.OpenSpec.ofChange s with cond := some uptoSmall }

/-- 'laws.FnEqLtGtIs', WHERE WHAT IT READS IS OF BULK AT MOST 1048576: true; the input reads as it did. -/
def fnEqLtGtIsUptoRow : OpenClaim := { program := "ytgcmcodkhcnkmaa", sum := "1c88c6c4b9aff9dfb211b449143938b7bb42f2a5f11c20b2bf503ede69815a00", func := "loop.example/pub-g03023/laws.FnEqLtGtIs", spec := "fnEqLtGtIs", inPlace := ["math/bits.Sub64"], apart := false, narrowed := true }
def FnEqLtGtIsUptoSaid : Prop := fnEqLtGtIsUptoRow.holds Try.pinned (OpenSpec.upto fnEqLtGtIsSpec)

/-- 'laws.FnSubIs', WHERE WHAT IT READS IS OF BULK AT MOST 1048576: true; the input reads as it did. -/
def fnSubIsUptoRow : OpenClaim := { program := "ytgcmcodkhcnkmaa", sum := "1c88c6c4b9aff9dfb211b449143938b7bb42f2a5f11c20b2bf503ede69815a00", func := "loop.example/pub-g03023/laws.FnSubIs", spec := "fnSubIs", inPlace := ["math/bits.Sub64"], unfollowed := true, recurses := true, apart := false, narrowed := true }
def FnSubIsUptoSaid : Prop := fnSubIsUptoRow.holds Try.pinned (OpenSpec.upto fnSubIsSpec)

/-- 'laws.FnSubOverflowIs', WHERE WHAT IT READS IS OF BULK AT MOST 1048576: true; the input reads as it did. -/
def fnSubOverflowIsUptoRow : OpenClaim := { program := "ytgcmcodkhcnkmaa", sum := "1c88c6c4b9aff9dfb211b449143938b7bb42f2a5f11c20b2bf503ede69815a00", func := "loop.example/pub-g03023/laws.FnSubOverflowIs", spec := "fnSubOverflowIs", inPlace := ["math/bits.Sub64"], unfollowed := true, recurses := true, apart := false, narrowed := true }
def FnSubOverflowIsUptoSaid : Prop := fnSubOverflowIsUptoRow.holds Try.pinned (OpenSpec.upto fnSubOverflowIsSpec)

/-- 'laws.FnSubUint64Is', WHERE WHAT IT READS IS OF BULK AT MOST 1048576: true; the input reads as it did. -/
def fnSubUint64IsUptoRow : OpenClaim := { program := "ytgcmcodkhcnkmaa", sum := "1c88c6c4b9aff9dfb211b449143938b7bb42f2a5f11c20b2bf503ede69815a00", func := "loop.example/pub-g03023/laws.FnSubUint64Is", spec := "fnSubUint64Is", inPlace := ["math/bits.Sub64"], unfollowed := true, recurses := true, apart := false, narrowed := true }
def FnSubUint64IsUptoSaid : Prop := fnSubUint64IsUptoRow.holds Try.pinned (OpenSpec.upto fnSubUint64IsSpec)

/-- 'laws.FnAddAssociates', WHERE WHAT IT READS IS OF BULK AT MOST 1048576: true; the input reads as it did. -/
def fnAddAssociatesUptoRow : OpenClaim := { program := "ytgcmcodkhcnkmaa", sum := "1c88c6c4b9aff9dfb211b449143938b7bb42f2a5f11c20b2bf503ede69815a00", func := "loop.example/pub-g03023/laws.FnAddAssociates", spec := "fnAddAssociates", inPlace := ["math/bits.Add64"], unfollowed := true, recurses := true, apart := false, narrowed := true }
def FnAddAssociatesUptoSaid : Prop := fnAddAssociatesUptoRow.holds Try.pinned (OpenSpec.upto fnAddAssociatesSpec)

/-- 'laws.FnAddCommutes', WHERE WHAT IT READS IS OF BULK AT MOST 1048576: true; the input reads as it did. -/
def fnAddCommutesUptoRow : OpenClaim := { program := "ytgcmcodkhcnkmaa", sum := "1c88c6c4b9aff9dfb211b449143938b7bb42f2a5f11c20b2bf503ede69815a00", func := "loop.example/pub-g03023/laws.FnAddCommutes", spec := "fnAddCommutes", inPlace := ["math/bits.Add64"], unfollowed := true, recurses := true, apart := false, narrowed := true }
def FnAddCommutesUptoSaid : Prop := fnAddCommutesUptoRow.holds Try.pinned (OpenSpec.upto fnAddCommutesSpec)

/-- 'laws.FnAddIs', WHERE WHAT IT READS IS OF BULK AT MOST 1048576: true; the input reads as it did. -/
def fnAddIsUptoRow : OpenClaim := { program := "ytgcmcodkhcnkmaa", sum := "1c88c6c4b9aff9dfb211b449143938b7bb42f2a5f11c20b2bf503ede69815a00", func := "loop.example/pub-g03023/laws.FnAddIs", spec := "fnAddIs", inPlace := ["math/bits.Add64"], unfollowed := true, recurses := true, apart := false, narrowed := true }
def FnAddIsUptoSaid : Prop := fnAddIsUptoRow.holds Try.pinned (OpenSpec.upto fnAddIsSpec)

/-- 'laws.FnAddOverflowIs', WHERE WHAT IT READS IS OF BULK AT MOST 1048576: true; the input reads as it did. -/
def fnAddOverflowIsUptoRow : OpenClaim := { program := "ytgcmcodkhcnkmaa", sum := "1c88c6c4b9aff9dfb211b449143938b7bb42f2a5f11c20b2bf503ede69815a00", func := "loop.example/pub-g03023/laws.FnAddOverflowIs", spec := "fnAddOverflowIs", inPlace := ["math/bits.Add64"], unfollowed := true, recurses := true, apart := false, narrowed := true }
def FnAddOverflowIsUptoSaid : Prop := fnAddOverflowIsUptoRow.holds Try.pinned (OpenSpec.upto fnAddOverflowIsSpec)

/-- 'laws.FnAddUint64Is', WHERE WHAT IT READS IS OF BULK AT MOST 1048576: true; the input reads as it did. -/
def fnAddUint64IsUptoRow : OpenClaim := { program := "ytgcmcodkhcnkmaa", sum := "1c88c6c4b9aff9dfb211b449143938b7bb42f2a5f11c20b2bf503ede69815a00", func := "loop.example/pub-g03023/laws.FnAddUint64Is", spec := "fnAddUint64Is", inPlace := ["math/bits.Add64"], unfollowed := true, recurses := true, apart := false, narrowed := true }
def FnAddUint64IsUptoSaid : Prop := fnAddUint64IsUptoRow.holds Try.pinned (OpenSpec.upto fnAddUint64IsSpec)

/-- 'laws.FnNegIs', WHERE WHAT IT READS IS OF BULK AT MOST 1048576: true; the input reads as it did. -/
def fnNegIsUptoRow : OpenClaim := { program := "ytgcmcodkhcnkmaa", sum := "1c88c6c4b9aff9dfb211b449143938b7bb42f2a5f11c20b2bf503ede69815a00", func := "loop.example/pub-g03023/laws.FnNegIs", spec := "fnNegIs", inPlace := ["math/bits.Sub64"], unfollowed := true, recurses := true, apart := false, narrowed := true }
def FnNegIsUptoSaid : Prop := fnNegIsUptoRow.holds Try.pinned (OpenSpec.upto fnNegIsSpec)

/-- 'laws.FnAbsIs', WHERE WHAT IT READS IS OF BULK AT MOST 1048576: true; the input reads as it did. -/
def fnAbsIsUptoRow : OpenClaim := { program := "ytgcmcodkhcnkmaa", sum := "1c88c6c4b9aff9dfb211b449143938b7bb42f2a5f11c20b2bf503ede69815a00", func := "loop.example/pub-g03023/laws.FnAbsIs", spec := "fnAbsIs", inPlace := ["math/bits.Sub64"], unfollowed := true, recurses := true, apart := false, narrowed := true }
def FnAbsIsUptoSaid : Prop := fnAbsIsUptoRow.holds Try.pinned (OpenSpec.upto fnAbsIsSpec)

/-- 'laws.FnSubAdds', WHERE WHAT IT READS IS OF BULK AT MOST 1048576: true; the input reads as it did. -/
def fnSubAddsUptoRow : OpenClaim := { program := "ytgcmcodkhcnkmaa", sum := "1c88c6c4b9aff9dfb211b449143938b7bb42f2a5f11c20b2bf503ede69815a00", func := "loop.example/pub-g03023/laws.FnSubAdds", spec := "fnSubAdds", inPlace := ["math/bits.Sub64", "math/bits.Add64"], unfollowed := true, recurses := true, apart := false, narrowed := true }
def FnSubAddsUptoSaid : Prop := fnSubAddsUptoRow.holds Try.pinned (OpenSpec.upto fnSubAddsSpec)

end Rows
end Go.Proofs.Ytgcmcodkhcnkmaa
