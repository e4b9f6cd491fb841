/-
  No cell of these rows narrows 'for every input' (looked for: loops, veiled, ifaces, maps, wideKeys, modest, calm, conditions, laid).
  DERIVED. THE GIVEN ROWS OF THIS SEAT. 9 by the template 'for every input the law returns true; each argument reads behind the call as it read before'; 0 by the template 'total and deterministic' (their statements: YtpmhkmcikjbncaaTotals.lean).
  GIVEN WITH THE SEED: the statements are not yours to turn. If you find one false, say at which input.
  Laid BY PROGRAM, IN A SANDBOX (cutbox-rows.mjs): the forced cells as the released guide's own fill.sh prints them over the translation f72835f8f39875fa… (all of the seat's roots in one cut). By AI agents, Wed Nov 11 2026. No macro, syntax, notation, axiom, sorry.
-/
import Derived.Test.YtpmhkmcikjbncaaChecked
import GoSem.Claim
import GoSem.ClaimJoined
import GoSem.ClaimMapViews
import Derived.JoinedTies
import Derived.KernelRfl
namespace Go.Proofs.Ytpmhkmcikjbncaa
/- THE CELL 'sum', in the pinned program and in every row, IS THE sha256 OF THE DUMP (.gsa) THAT YtpmhkmcikjbncaaProg.lean LOADS. Nothing in Lean hashes anything: it is a label: what it is worth is what the hold of that sum in a sandbox is worth. -/
noncomputable def Try.pinned : Pinned := { name := "ytpmhkmcikjbncaa", sum := "f72835f8f39875fac2564c65355cac3cd4b7dcc126b983f7082b6ae3946d4d7e", checked := Try.checked }
namespace Rows
def none {H : Type} : Left H := { results := [], args := [] }

/-- 'laws.FnPaddedBytesIs': WHATEVER THE INPUT: true; the input reads as it did. -/
def fnPaddedBytesIsSpec : ChangeSpec := { name := "fnPaddedBytesIs", fn := fun _ => fun
  | [d1, d2] => { results := [.lit (.bool true)], args := [d1, d2] }
  | _ => none }
def fnPaddedBytesIsRow : OpenClaim := { program := "ytpmhkmcikjbncaa", sum := "f72835f8f39875fac2564c65355cac3cd4b7dcc126b983f7082b6ae3946d4d7e", func := "loop.example/pub-g03023/laws.FnPaddedBytesIs", spec := "fnPaddedBytesIs", apart := false }
def FnPaddedBytesIsSaid : Prop := fnPaddedBytesIsRow.holds Try.pinned (OpenSpec.ofChange fnPaddedBytesIsSpec)

/-- ITS FALSE NEIGHBOUR: 'it returns false'. Refute it at one input. -/
def fnPaddedBytesIsWrong : ChangeSpec := { name := "fnPaddedBytesIs", fn := fun _ => fun
  | [d1, d2] => { results := [.lit (.bool false)], args := [d1, d2] }
  | _ => none }
def FnPaddedBytesIsWrongFalsely : Prop := fnPaddedBytesIsRow.holds Try.pinned (OpenSpec.ofChange fnPaddedBytesIsWrong)

/-- 'laws.FnWriteToSliceIs': WHATEVER THE INPUT: true; the input reads as it did. -/
def fnWriteToSliceIsSpec : ChangeSpec := { name := "fnWriteToSliceIs", fn := fun _ => fun
  | [d1, d2] => { results := [.lit (.bool true)], args := [d1, d2] }
  | _ => none }
def fnWriteToSliceIsRow : OpenClaim := { program := "ytpmhkmcikjbncaa", sum := "f72835f8f39875fac2564c65355cac3cd4b7dcc126b983f7082b6ae3946d4d7e", func := "loop.example/pub-g03023/laws.FnWriteToSliceIs", spec := "fnWriteToSliceIs", apart := false }
def FnWriteToSliceIsSaid : Prop := fnWriteToSliceIsRow.holds Try.pinned (OpenSpec.ofChange fnWriteToSliceIsSpec)

/-- ITS FALSE NEIGHBOUR: 'it returns false'. Refute it at one input. -/
def fnWriteToSliceIsWrong : ChangeSpec := { name := "fnWriteToSliceIs", fn := fun _ => fun
  | [d1, d2] => { results := [.lit (.bool false)], args := [d1, d2] }
  | _ => none }
def FnWriteToSliceIsWrongFalsely : Prop := fnWriteToSliceIsRow.holds Try.pinned (OpenSpec.ofChange fnWriteToSliceIsWrong)

/-- 'laws.FnPutUint256Is': WHATEVER THE INPUT: true; the input reads as it did. -/
def fnPutUint256IsSpec : ChangeSpec := { name := "fnPutUint256Is", fn := fun _ => fun
  | [d1, d2] => { results := [.lit (.bool true)], args := [d1, d2] }
  | _ => none }
def fnPutUint256IsRow : OpenClaim := { program := "ytpmhkmcikjbncaa", sum := "f72835f8f39875fac2564c65355cac3cd4b7dcc126b983f7082b6ae3946d4d7e", func := "loop.example/pub-g03023/laws.FnPutUint256Is", spec := "fnPutUint256Is", unfollowed := true, recurses := true, named := ["encoding/binary.BigEndian"], apart := false }
def FnPutUint256IsSaid : Prop := fnPutUint256IsRow.holds Try.pinned (OpenSpec.ofChange fnPutUint256IsSpec)

/-- ITS FALSE NEIGHBOUR: 'it returns false'. Refute it at one input. -/
def fnPutUint256IsWrong : ChangeSpec := { name := "fnPutUint256Is", fn := fun _ => fun
  | [d1, d2] => { results := [.lit (.bool false)], args := [d1, d2] }
  | _ => none }
def FnPutUint256IsWrongFalsely : Prop := fnPutUint256IsRow.holds Try.pinned (OpenSpec.ofChange fnPutUint256IsWrong)

/-- 'laws.FnSszIs': WHATEVER THE INPUT: true; the input reads as it did. -/
def fnSszIsSpec : ChangeSpec := { name := "fnSszIs", fn := fun _ => fun
  | [d1, d2] => { results := [.lit (.bool true)], args := [d1, d2] }
  | _ => none }
def fnSszIsRow : OpenClaim := { program := "ytpmhkmcikjbncaa", sum := "f72835f8f39875fac2564c65355cac3cd4b7dcc126b983f7082b6ae3946d4d7e", func := "loop.example/pub-g03023/laws.FnSszIs", spec := "fnSszIs", named := ["encoding/binary.LittleEndian"], apart := false }
def FnSszIsSaid : Prop := fnSszIsRow.holds Try.pinned (OpenSpec.ofChange fnSszIsSpec)

/-- ITS FALSE NEIGHBOUR: 'it returns false'. Refute it at one input. -/
def fnSszIsWrong : ChangeSpec := { name := "fnSszIs", fn := fun _ => fun
  | [d1, d2] => { results := [.lit (.bool false)], args := [d1, d2] }
  | _ => none }
def FnSszIsWrongFalsely : Prop := fnSszIsRow.holds Try.pinned (OpenSpec.ofChange fnSszIsWrong)

/-- 'laws.FnBytesAre': WHATEVER THE INPUT: true; the input reads as it did. -/
def fnBytesAreSpec : ChangeSpec := { name := "fnBytesAre", fn := fun _ => fun
  | [d] => { results := [.lit (.bool true)], args := [d] }
  | _ => none }
def fnBytesAreRow : OpenClaim := { program := "ytpmhkmcikjbncaa", sum := "f72835f8f39875fac2564c65355cac3cd4b7dcc126b983f7082b6ae3946d4d7e", func := "loop.example/pub-g03023/laws.FnBytesAre", spec := "fnBytesAre", named := ["encoding/binary.BigEndian"], apart := false }
def FnBytesAreSaid : Prop := fnBytesAreRow.holds Try.pinned (OpenSpec.ofChange fnBytesAreSpec)

/-- ITS FALSE NEIGHBOUR: 'it returns false'. Refute it at one input. -/
def fnBytesAreWrong : ChangeSpec := { name := "fnBytesAre", fn := fun _ => fun
  | [d] => { results := [.lit (.bool false)], args := [d] }
  | _ => none }
def FnBytesAreWrongFalsely : Prop := fnBytesAreRow.holds Try.pinned (OpenSpec.ofChange fnBytesAreWrong)

/-- 'laws.FnRlpIs': WHATEVER THE INPUT: true; the input reads as it did. -/
def fnRlpIsSpec : ChangeSpec := { name := "fnRlpIs", fn := fun _ => fun
  | [d] => { results := [.lit (.bool true)], args := [d] }
  | _ => none }
def fnRlpIsRow : OpenClaim := { program := "ytpmhkmcikjbncaa", sum := "f72835f8f39875fac2564c65355cac3cd4b7dcc126b983f7082b6ae3946d4d7e", func := "loop.example/pub-g03023/laws.FnRlpIs", spec := "fnRlpIs", unfollowed := true, recurses := true, named := ["encoding/binary.BigEndian"], apart := false }
def FnRlpIsSaid : Prop := fnRlpIsRow.holds Try.pinned (OpenSpec.ofChange fnRlpIsSpec)

/-- ITS FALSE NEIGHBOUR: 'it returns false'. Refute it at one input. -/
def fnRlpIsWrong : ChangeSpec := { name := "fnRlpIs", fn := fun _ => fun
  | [d] => { results := [.lit (.bool false)], args := [d] }
  | _ => none }
def FnRlpIsWrongFalsely : Prop := fnRlpIsRow.holds Try.pinned (OpenSpec.ofChange fnRlpIsWrong)

/-- 'laws.FnHexIs': WHATEVER THE INPUT: true; the input reads as it did. -/
def fnHexIsSpec : ChangeSpec := { name := "fnHexIs", fn := fun _ => fun
  | [d] => { results := [.lit (.bool true)], args := [d] }
  | _ => none }
def fnHexIsRow : OpenClaim := { program := "ytpmhkmcikjbncaa", sum := "f72835f8f39875fac2564c65355cac3cd4b7dcc126b983f7082b6ae3946d4d7e", func := "loop.example/pub-g03023/laws.FnHexIs", spec := "fnHexIs", apart := false }
def FnHexIsSaid : Prop := fnHexIsRow.holds Try.pinned (OpenSpec.ofChange fnHexIsSpec)

/-- ITS FALSE NEIGHBOUR: 'it returns false'. Refute it at one input. -/
def fnHexIsWrong : ChangeSpec := { name := "fnHexIs", fn := fun _ => fun
  | [d] => { results := [.lit (.bool false)], args := [d] }
  | _ => none }
def FnHexIsWrongFalsely : Prop := fnHexIsRow.holds Try.pinned (OpenSpec.ofChange fnHexIsWrong)

/-- 'laws.FnSetBytesIs': WHATEVER THE INPUT: true; the input reads as it did. -/
def fnSetBytesIsSpec : ChangeSpec := { name := "fnSetBytesIs", fn := fun _ => fun
  | [d1, d2] => { results := [.lit (.bool true)], args := [d1, d2] }
  | _ => none }
def fnSetBytesIsRow : OpenClaim := { program := "ytpmhkmcikjbncaa", sum := "f72835f8f39875fac2564c65355cac3cd4b7dcc126b983f7082b6ae3946d4d7e", func := "loop.example/pub-g03023/laws.FnSetBytesIs", spec := "fnSetBytesIs", named := ["encoding/binary.BigEndian"], apart := false }
def FnSetBytesIsSaid : Prop := fnSetBytesIsRow.holds Try.pinned (OpenSpec.ofChange fnSetBytesIsSpec)

/-- ITS FALSE NEIGHBOUR: 'it returns false'. Refute it at one input. -/
def fnSetBytesIsWrong : ChangeSpec := { name := "fnSetBytesIs", fn := fun _ => fun
  | [d1, d2] => { results := [.lit (.bool false)], args := [d1, d2] }
  | _ => none }
def FnSetBytesIsWrongFalsely : Prop := fnSetBytesIsRow.holds Try.pinned (OpenSpec.ofChange fnSetBytesIsWrong)

/-- 'laws.FnSetBytesOfIs': WHATEVER THE INPUT: true; the input reads as it did. -/
def fnSetBytesOfIsSpec : ChangeSpec := { name := "fnSetBytesOfIs", fn := fun _ => fun
  | [d1, d2, d3] => { results := [.lit (.bool true)], args := [d1, d2, d3] }
  | _ => none }
def fnSetBytesOfIsRow : OpenClaim := { program := "ytpmhkmcikjbncaa", sum := "f72835f8f39875fac2564c65355cac3cd4b7dcc126b983f7082b6ae3946d4d7e", func := "loop.example/pub-g03023/laws.FnSetBytesOfIs", spec := "fnSetBytesOfIs", unfollowed := true, recurses := true, named := ["encoding/binary.BigEndian"], apart := false }
def FnSetBytesOfIsSaid : Prop := fnSetBytesOfIsRow.holds Try.pinned (OpenSpec.ofChange fnSetBytesOfIsSpec)

/-- ITS FALSE NEIGHBOUR: 'it returns false'. Refute it at one input. -/
def fnSetBytesOfIsWrong : ChangeSpec := { name := "fnSetBytesOfIs", fn := fun _ => fun
  | [d1, d2, d3] => { results := [.lit (.bool false)], args := [d1, d2, d3] }
  | _ => none }
def FnSetBytesOfIsWrongFalsely : Prop := fnSetBytesOfIsRow.holds Try.pinned (OpenSpec.ofChange fnSetBytesOfIsWrong)

/- THE SECOND FORM. 'bulk': how many values and letters a reading holds, each counted each time it is reached (what is shared counts as often as it is met; a slice's spare places count too). A statement '..UptoSaid' is the law's where the arguments, and the package variables that the reading takes, are together of bulk at most 1048576: NARROWER than '..Said'. Prove '..Said' where nothing that the law and all that it calls make is longer than what came in: it says more and counts as full. Else prove '..UptoSaid'. A law counts once. -/
mutual
def uptoBulk {H : Type} : DataW H → Nat
  | .lit (.string bytes) => bytes.length + 1
  | .lit _ => 1
  | .nil => 1
  | .ptr d => uptoBulk d + 1
  | .slice elems spare => uptoBulkAll elems + uptoBulkAll spare + 1
  | .agg parts => uptoBulkAll parts + 1
  | .iface _ d => uptoBulk d + 1
  | .map entries => uptoBulkEntries entries + 1
  | .held _ => 1
def uptoBulkAll {H : Type} : List (DataW H) → Nat
  | [] => 0
  | d :: r => uptoBulk d + uptoBulkAll r
def uptoBulkEntries {H : Type} : List (Lit × DataW H) → Nat
  | [] => 0
  | x :: r => uptoBulkEntry x + uptoBulkEntries r
def uptoBulkEntry {H : Type} : Lit × DataW H → Nat
  | (.string bytes, d) => bytes.length + uptoBulk d + 1
  | (_, d) => uptoBulk d + 1
 end
def uptoSmall : (H : Type) → List (DataW H) → Bool := fun _ ds => decide (uptoBulkAll ds ≤ 1048576)
def OpenSpec.upto (s : _root_.Go.ChangeSpec) : _root_.Go.OpenSpec := { _root_.Go.OpenSpec.ofChange s with cond := some uptoSmall }

/-- 'laws.FnPaddedBytesIs', WHERE WHAT IT READS IS OF BULK AT MOST 1048576: true; the input reads as it did. -/
def fnPaddedBytesIsUptoRow : OpenClaim := { program := "ytpmhkmcikjbncaa", sum := "f72835f8f39875fac2564c65355cac3cd4b7dcc126b983f7082b6ae3946d4d7e", func := "loop.example/pub-g03023/laws.FnPaddedBytesIs", spec := "fnPaddedBytesIs", apart := false, narrowed := true }
def FnPaddedBytesIsUptoSaid : Prop := fnPaddedBytesIsUptoRow.holds Try.pinned (OpenSpec.upto fnPaddedBytesIsSpec)

/-- 'laws.FnWriteToSliceIs', WHERE WHAT IT READS IS OF BULK AT MOST 1048576: true; the input reads as it did. -/
def fnWriteToSliceIsUptoRow : OpenClaim := { program := "ytpmhkmcikjbncaa", sum := "f72835f8f39875fac2564c65355cac3cd4b7dcc126b983f7082b6ae3946d4d7e", func := "loop.example/pub-g03023/laws.FnWriteToSliceIs", spec := "fnWriteToSliceIs", apart := false, narrowed := true }
def FnWriteToSliceIsUptoSaid : Prop := fnWriteToSliceIsUptoRow.holds Try.pinned (OpenSpec.upto fnWriteToSliceIsSpec)

/-- 'laws.FnPutUint256Is', WHERE WHAT IT READS IS OF BULK AT MOST 1048576: true; the input reads as it did. -/
def fnPutUint256IsUptoRow : OpenClaim := { program := "ytpmhkmcikjbncaa", sum := "f72835f8f39875fac2564c65355cac3cd4b7dcc126b983f7082b6ae3946d4d7e", func := "loop.example/pub-g03023/laws.FnPutUint256Is", spec := "fnPutUint256Is", unfollowed := true, recurses := true, named := ["encoding/binary.BigEndian"], apart := false, narrowed := true }
def FnPutUint256IsUptoSaid : Prop := fnPutUint256IsUptoRow.holds Try.pinned (OpenSpec.upto fnPutUint256IsSpec)

/-- 'laws.FnSszIs', WHERE WHAT IT READS IS OF BULK AT MOST 1048576: true; the input reads as it did. -/
def fnSszIsUptoRow : OpenClaim := { program := "ytpmhkmcikjbncaa", sum := "f72835f8f39875fac2564c65355cac3cd4b7dcc126b983f7082b6ae3946d4d7e", func := "loop.example/pub-g03023/laws.FnSszIs", spec := "fnSszIs", named := ["encoding/binary.LittleEndian"], apart := false, narrowed := true }
def FnSszIsUptoSaid : Prop := fnSszIsUptoRow.holds Try.pinned (OpenSpec.upto fnSszIsSpec)

/-- 'laws.FnBytesAre', WHERE WHAT IT READS IS OF BULK AT MOST 1048576: true; the input reads as it did. -/
def fnBytesAreUptoRow : OpenClaim := { program := "ytpmhkmcikjbncaa", sum := "f72835f8f39875fac2564c65355cac3cd4b7dcc126b983f7082b6ae3946d4d7e", func := "loop.example/pub-g03023/laws.FnBytesAre", spec := "fnBytesAre", named := ["encoding/binary.BigEndian"], apart := false, narrowed := true }
def FnBytesAreUptoSaid : Prop := fnBytesAreUptoRow.holds Try.pinned (OpenSpec.upto fnBytesAreSpec)

/-- 'laws.FnRlpIs', WHERE WHAT IT READS IS OF BULK AT MOST 1048576: true; the input reads as it did. -/
def fnRlpIsUptoRow : OpenClaim := { program := "ytpmhkmcikjbncaa", sum := "f72835f8f39875fac2564c65355cac3cd4b7dcc126b983f7082b6ae3946d4d7e", func := "loop.example/pub-g03023/laws.FnRlpIs", spec := "fnRlpIs", unfollowed := true, recurses := true, named := ["encoding/binary.BigEndian"], apart := false, narrowed := true }
def FnRlpIsUptoSaid : Prop := fnRlpIsUptoRow.holds Try.pinned (OpenSpec.upto fnRlpIsSpec)

/-- 'laws.FnHexIs', WHERE WHAT IT READS IS OF BULK AT MOST 1048576: true; the input reads as it did. -/
def fnHexIsUptoRow : OpenClaim := { program := "ytpmhkmcikjbncaa", sum := "f72835f8f39875fac2564c65355cac3cd4b7dcc126b983f7082b6ae3946d4d7e", func := "loop.example/pub-g03023/laws.FnHexIs", spec := "fnHexIs", apart := false, narrowed := true }
def FnHexIsUptoSaid : Prop := fnHexIsUptoRow.holds Try.pinned (OpenSpec.upto fnHexIsSpec)

/-- 'laws.FnSetBytesIs', WHERE WHAT IT READS IS OF BULK AT MOST 1048576: true; the input reads as it did. -/
def fnSetBytesIsUptoRow : OpenClaim := { program := "ytpmhkmcikjbncaa", sum := "f72835f8f39875fac2564c65355cac3cd4b7dcc126b983f7082b6ae3946d4d7e", func := "loop.example/pub-g03023/laws.FnSetBytesIs", spec := "fnSetBytesIs", named := ["encoding/binary.BigEndian"], apart := false, narrowed := true }
def FnSetBytesIsUptoSaid : Prop := fnSetBytesIsUptoRow.holds Try.pinned (OpenSpec.upto fnSetBytesIsSpec)

/-- 'laws.FnSetBytesOfIs', WHERE WHAT IT READS IS OF BULK AT MOST 1048576: true; the input reads as it did. -/
def fnSetBytesOfIsUptoRow : OpenClaim := { program := "ytpmhkmcikjbncaa", sum := "f72835f8f39875fac2564c65355cac3cd4b7dcc126b983f7082b6ae3946d4d7e", func := "loop.example/pub-g03023/laws.FnSetBytesOfIs", spec := "fnSetBytesOfIs", unfollowed := true, recurses := true, named := ["encoding/binary.BigEndian"], apart := false, narrowed := true }
def FnSetBytesOfIsUptoSaid : Prop := fnSetBytesOfIsUptoRow.holds Try.pinned (OpenSpec.upto fnSetBytesOfIsSpec)

end Rows
end Go.Proofs.Ytpmhkmcikjbncaa
