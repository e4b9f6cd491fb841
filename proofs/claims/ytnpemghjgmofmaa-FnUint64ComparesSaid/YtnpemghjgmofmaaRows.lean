/-
  No cell of these rows narrows 'for every input' (looked for: loops, veiled, ifaces, maps, wideKeys, modest, calm, conditions, laid).
  DERIVED. THE GIVEN ROWS OF THIS SEAT. 12 by the template 'for every input the law returns true; each argument reads behind the call as it read before'; 0 by the template 'total and deterministic' (their statements: YtnpemghjgmofmaaTotals.lean).
  GIVEN WITH THE SEED: the statements are not yours to turn. If you find one false, say at which input.
  Laid BY PROGRAM, IN A SANDBOX (cutbox-rows.mjs): the forced cells as the released guide's own fill.sh prints them over the translation b37ca391ab437907… (all of the seat's roots in one cut). By AI agents, Wed Nov 11 2026. No macro, syntax, notation, axiom, sorry.
-/
import Derived.Test.YtnpemghjgmofmaaChecked
import GoSem.Claim
import GoSem.ClaimJoined
import GoSem.ClaimMapViews
import Derived.JoinedTies
import Derived.KernelRfl
namespace Go.Proofs.Ytnpemghjgmofmaa
/- THE CELL 'sum', in the pinned program and in every row, IS THE sha256 OF THE DUMP (.gsa) THAT YtnpemghjgmofmaaProg.lean LOADS. Nothing in Lean hashes anything: it is a label: what it is worth is what the hold of that sum in a sandbox is worth. -/
noncomputable def Try.pinned : Pinned := { name := "ytnpemghjgmofmaa", sum := "b37ca391ab4379070dfaa9588cc320bfca4c9eaec2afcd76ce1f446242cbfa76", checked := Try.checked }
namespace Rows
def none {H : Type} : Left H := { results := [], args := [] }

/-- 'laws.FnIsZeroIs': WHATEVER THE INPUT: true; the input reads as it did. -/
def fnIsZeroIsSpec : ChangeSpec := { name := "fnIsZeroIs", fn := fun _ => fun
  | [d] => { results := [.lit (.bool true)], args := [d] }
  | _ => none }
def fnIsZeroIsRow : OpenClaim := { program := "ytnpemghjgmofmaa", sum := "b37ca391ab4379070dfaa9588cc320bfca4c9eaec2afcd76ce1f446242cbfa76", func := "loop.example/pub-g03023/laws.FnIsZeroIs", spec := "fnIsZeroIs", apart := false }
def FnIsZeroIsSaid : Prop := fnIsZeroIsRow.holds Try.pinned (OpenSpec.ofChange fnIsZeroIsSpec)

/-- ITS FALSE NEIGHBOUR: 'it returns false'. Refute it at one input. -/
def fnIsZeroIsWrong : ChangeSpec := { name := "fnIsZeroIs", fn := fun _ => fun
  | [d] => { results := [.lit (.bool false)], args := [d] }
  | _ => none }
def FnIsZeroIsWrongFalsely : Prop := fnIsZeroIsRow.holds Try.pinned (OpenSpec.ofChange fnIsZeroIsWrong)

/-- 'laws.FnSignIs': WHATEVER THE INPUT: true; the input reads as it did. -/
def fnSignIsSpec : ChangeSpec := { name := "fnSignIs", fn := fun _ => fun
  | [d] => { results := [.lit (.bool true)], args := [d] }
  | _ => none }
def fnSignIsRow : OpenClaim := { program := "ytnpemghjgmofmaa", sum := "b37ca391ab4379070dfaa9588cc320bfca4c9eaec2afcd76ce1f446242cbfa76", func := "loop.example/pub-g03023/laws.FnSignIs", spec := "fnSignIs", apart := false }
def FnSignIsSaid : Prop := fnSignIsRow.holds Try.pinned (OpenSpec.ofChange fnSignIsSpec)

/-- ITS FALSE NEIGHBOUR: 'it returns false'. Refute it at one input. -/
def fnSignIsWrong : ChangeSpec := { name := "fnSignIs", fn := fun _ => fun
  | [d] => { results := [.lit (.bool false)], args := [d] }
  | _ => none }
def FnSignIsWrongFalsely : Prop := fnSignIsRow.holds Try.pinned (OpenSpec.ofChange fnSignIsWrong)

/-- 'laws.FnCmpIs': WHATEVER THE INPUT: true; the input reads as it did. -/
def fnCmpIsSpec : ChangeSpec := { name := "fnCmpIs", fn := fun _ => fun
  | [d1, d2] => { results := [.lit (.bool true)], args := [d1, d2] }
  | _ => none }
def fnCmpIsRow : OpenClaim := { program := "ytnpemghjgmofmaa", sum := "b37ca391ab4379070dfaa9588cc320bfca4c9eaec2afcd76ce1f446242cbfa76", func := "loop.example/pub-g03023/laws.FnCmpIs", spec := "fnCmpIs", inPlace := ["math/bits.Sub64"], apart := false }
def FnCmpIsSaid : Prop := fnCmpIsRow.holds Try.pinned (OpenSpec.ofChange fnCmpIsSpec)

/-- ITS FALSE NEIGHBOUR: 'it returns false'. Refute it at one input. -/
def fnCmpIsWrong : ChangeSpec := { name := "fnCmpIs", fn := fun _ => fun
  | [d1, d2] => { results := [.lit (.bool false)], args := [d1, d2] }
  | _ => none }
def FnCmpIsWrongFalsely : Prop := fnCmpIsRow.holds Try.pinned (OpenSpec.ofChange fnCmpIsWrong)

/-- 'laws.FnCmpOrders': WHATEVER THE INPUT: true; the input reads as it did. -/
def fnCmpOrdersSpec : ChangeSpec := { name := "fnCmpOrders", fn := fun _ => fun
  | [d1, d2, d3] => { results := [.lit (.bool true)], args := [d1, d2, d3] }
  | _ => none }
def fnCmpOrdersRow : OpenClaim := { program := "ytnpemghjgmofmaa", sum := "b37ca391ab4379070dfaa9588cc320bfca4c9eaec2afcd76ce1f446242cbfa76", func := "loop.example/pub-g03023/laws.FnCmpOrders", spec := "fnCmpOrders", inPlace := ["math/bits.Sub64"], apart := false }
def FnCmpOrdersSaid : Prop := fnCmpOrdersRow.holds Try.pinned (OpenSpec.ofChange fnCmpOrdersSpec)

/-- ITS FALSE NEIGHBOUR: 'it returns false'. Refute it at one input. -/
def fnCmpOrdersWrong : ChangeSpec := { name := "fnCmpOrders", fn := fun _ => fun
  | [d1, d2, d3] => { results := [.lit (.bool false)], args := [d1, d2, d3] }
  | _ => none }
def FnCmpOrdersWrongFalsely : Prop := fnCmpOrdersRow.holds Try.pinned (OpenSpec.ofChange fnCmpOrdersWrong)

/-- 'laws.FnNotIs': WHATEVER THE INPUT: true; the input reads as it did. -/
def fnNotIsSpec : ChangeSpec := { name := "fnNotIs", fn := fun _ => fun
  | [d1, d2] => { results := [.lit (.bool true)], args := [d1, d2] }
  | _ => none }
def fnNotIsRow : OpenClaim := { program := "ytnpemghjgmofmaa", sum := "b37ca391ab4379070dfaa9588cc320bfca4c9eaec2afcd76ce1f446242cbfa76", func := "loop.example/pub-g03023/laws.FnNotIs", spec := "fnNotIs", unfollowed := true, recurses := true, apart := false }
def FnNotIsSaid : Prop := fnNotIsRow.holds Try.pinned (OpenSpec.ofChange fnNotIsSpec)

/-- ITS FALSE NEIGHBOUR: 'it returns false'. Refute it at one input. -/
def fnNotIsWrong : ChangeSpec := { name := "fnNotIs", fn := fun _ => fun
  | [d1, d2] => { results := [.lit (.bool false)], args := [d1, d2] }
  | _ => none }
def FnNotIsWrongFalsely : Prop := fnNotIsRow.holds Try.pinned (OpenSpec.ofChange fnNotIsWrong)

/-- 'laws.FnSetIs': WHATEVER THE INPUT: true; the input reads as it did. -/
def fnSetIsSpec : ChangeSpec := { name := "fnSetIs", fn := fun _ => fun
  | [d1, d2] => { results := [.lit (.bool true)], args := [d1, d2] }
  | _ => none }
def fnSetIsRow : OpenClaim := { program := "ytnpemghjgmofmaa", sum := "b37ca391ab4379070dfaa9588cc320bfca4c9eaec2afcd76ce1f446242cbfa76", func := "loop.example/pub-g03023/laws.FnSetIs", spec := "fnSetIs", unfollowed := true, recurses := true, apart := false }
def FnSetIsSaid : Prop := fnSetIsRow.holds Try.pinned (OpenSpec.ofChange fnSetIsSpec)

/-- ITS FALSE NEIGHBOUR: 'it returns false'. Refute it at one input. -/
def fnSetIsWrong : ChangeSpec := { name := "fnSetIs", fn := fun _ => fun
  | [d1, d2] => { results := [.lit (.bool false)], args := [d1, d2] }
  | _ => none }
def FnSetIsWrongFalsely : Prop := fnSetIsRow.holds Try.pinned (OpenSpec.ofChange fnSetIsWrong)

/-- 'laws.FnOnesAre': WHATEVER THE INPUT: true; the input reads as it did. -/
def fnOnesAreSpec : ChangeSpec := { name := "fnOnesAre", fn := fun _ => fun
  | [d] => { results := [.lit (.bool true)], args := [d] }
  | _ => none }
def fnOnesAreRow : OpenClaim := { program := "ytnpemghjgmofmaa", sum := "b37ca391ab4379070dfaa9588cc320bfca4c9eaec2afcd76ce1f446242cbfa76", func := "loop.example/pub-g03023/laws.FnOnesAre", spec := "fnOnesAre", apart := false }
def FnOnesAreSaid : Prop := fnOnesAreRow.holds Try.pinned (OpenSpec.ofChange fnOnesAreSpec)

/-- ITS FALSE NEIGHBOUR: 'it returns false'. Refute it at one input. -/
def fnOnesAreWrong : ChangeSpec := { name := "fnOnesAre", fn := fun _ => fun
  | [d] => { results := [.lit (.bool false)], args := [d] }
  | _ => none }
def FnOnesAreWrongFalsely : Prop := fnOnesAreRow.holds Try.pinned (OpenSpec.ofChange fnOnesAreWrong)

/-- 'laws.FnUint64Compares': WHATEVER THE INPUT: true; the input reads as it did. -/
def fnUint64ComparesSpec : ChangeSpec := { name := "fnUint64Compares", fn := fun _ => fun
  | [d1, d2] => { results := [.lit (.bool true)], args := [d1, d2] }
  | _ => none }
def fnUint64ComparesRow : OpenClaim := { program := "ytnpemghjgmofmaa", sum := "b37ca391ab4379070dfaa9588cc320bfca4c9eaec2afcd76ce1f446242cbfa76", func := "loop.example/pub-g03023/laws.FnUint64Compares", spec := "fnUint64Compares", apart := false }
def FnUint64ComparesSaid : Prop := fnUint64ComparesRow.holds Try.pinned (OpenSpec.ofChange fnUint64ComparesSpec)

/-- ITS FALSE NEIGHBOUR: 'it returns false'. Refute it at one input. -/
def fnUint64ComparesWrong : ChangeSpec := { name := "fnUint64Compares", fn := fun _ => fun
  | [d1, d2] => { results := [.lit (.bool false)], args := [d1, d2] }
  | _ => none }
def FnUint64ComparesWrongFalsely : Prop := fnUint64ComparesRow.holds Try.pinned (OpenSpec.ofChange fnUint64ComparesWrong)

/-- 'laws.FnAndIs': WHATEVER THE INPUT: true; the input reads as it did. -/
def fnAndIsSpec : ChangeSpec := { name := "fnAndIs", fn := fun _ => fun
  | [d1, d2] => { results := [.lit (.bool true)], args := [d1, d2] }
  | _ => none }
def fnAndIsRow : OpenClaim := { program := "ytnpemghjgmofmaa", sum := "b37ca391ab4379070dfaa9588cc320bfca4c9eaec2afcd76ce1f446242cbfa76", func := "loop.example/pub-g03023/laws.FnAndIs", spec := "fnAndIs", unfollowed := true, recurses := true, apart := false }
def FnAndIsSaid : Prop := fnAndIsRow.holds Try.pinned (OpenSpec.ofChange fnAndIsSpec)

/-- ITS FALSE NEIGHBOUR: 'it returns false'. Refute it at one input. -/
def fnAndIsWrong : ChangeSpec := { name := "fnAndIs", fn := fun _ => fun
  | [d1, d2] => { results := [.lit (.bool false)], args := [d1, d2] }
  | _ => none }
def FnAndIsWrongFalsely : Prop := fnAndIsRow.holds Try.pinned (OpenSpec.ofChange fnAndIsWrong)

/-- 'laws.FnOrIs': WHATEVER THE INPUT: true; the input reads as it did. -/
def fnOrIsSpec : ChangeSpec := { name := "fnOrIs", fn := fun _ => fun
  | [d1, d2] => { results := [.lit (.bool true)], args := [d1, d2] }
  | _ => none }
def fnOrIsRow : OpenClaim := { program := "ytnpemghjgmofmaa", sum := "b37ca391ab4379070dfaa9588cc320bfca4c9eaec2afcd76ce1f446242cbfa76", func := "loop.example/pub-g03023/laws.FnOrIs", spec := "fnOrIs", unfollowed := true, recurses := true, apart := false }
def FnOrIsSaid : Prop := fnOrIsRow.holds Try.pinned (OpenSpec.ofChange fnOrIsSpec)

/-- ITS FALSE NEIGHBOUR: 'it returns false'. Refute it at one input. -/
def fnOrIsWrong : ChangeSpec := { name := "fnOrIs", fn := fun _ => fun
  | [d1, d2] => { results := [.lit (.bool false)], args := [d1, d2] }
  | _ => none }
def FnOrIsWrongFalsely : Prop := fnOrIsRow.holds Try.pinned (OpenSpec.ofChange fnOrIsWrong)

/-- 'laws.FnXorIs': WHATEVER THE INPUT: true; the input reads as it did. -/
def fnXorIsSpec : ChangeSpec := { name := "fnXorIs", fn := fun _ => fun
  | [d1, d2] => { results := [.lit (.bool true)], args := [d1, d2] }
  | _ => none }
def fnXorIsRow : OpenClaim := { program := "ytnpemghjgmofmaa", sum := "b37ca391ab4379070dfaa9588cc320bfca4c9eaec2afcd76ce1f446242cbfa76", func := "loop.example/pub-g03023/laws.FnXorIs", spec := "fnXorIs", unfollowed := true, recurses := true, apart := false }
def FnXorIsSaid : Prop := fnXorIsRow.holds Try.pinned (OpenSpec.ofChange fnXorIsSpec)

/-- ITS FALSE NEIGHBOUR: 'it returns false'. Refute it at one input. -/
def fnXorIsWrong : ChangeSpec := { name := "fnXorIs", fn := fun _ => fun
  | [d1, d2] => { results := [.lit (.bool false)], args := [d1, d2] }
  | _ => none }
def FnXorIsWrongFalsely : Prop := fnXorIsRow.holds Try.pinned (OpenSpec.ofChange fnXorIsWrong)

/-- 'laws.FnUint64Is': WHATEVER THE INPUT: true; the input reads as it did. -/
def fnUint64IsSpec : ChangeSpec := { name := "fnUint64Is", fn := fun _ => fun
  | [d1, d2] => { results := [.lit (.bool true)], args := [d1, d2] }
  | _ => none }
def fnUint64IsRow : OpenClaim := { program := "ytnpemghjgmofmaa", sum := "b37ca391ab4379070dfaa9588cc320bfca4c9eaec2afcd76ce1f446242cbfa76", func := "loop.example/pub-g03023/laws.FnUint64Is", spec := "fnUint64Is", apart := false }
def FnUint64IsSaid : Prop := fnUint64IsRow.holds Try.pinned (OpenSpec.ofChange fnUint64IsSpec)

/-- ITS FALSE NEIGHBOUR: 'it returns false'. Refute it at one input. -/
def fnUint64IsWrong : ChangeSpec := { name := "fnUint64Is", fn := fun _ => fun
  | [d1, d2] => { results := [.lit (.bool false)], args := [d1, d2] }
  | _ => none }
def FnUint64IsWrongFalsely : Prop := fnUint64IsRow.holds Try.pinned (OpenSpec.ofChange fnUint64IsWrong)

/- THE SECOND FORM. 'bulk': how many values and letters a reading holds, each counted each time it is reached (what is shared counts as often as it is met; a slice's spare places count too). A statement '..UptoSaid' is the law's where the arguments, and the package variables that the reading takes, are together of bulk at most 1048576: NARROWER than '..Said'. Prove '..Said' where nothing that the law and all that it calls make is longer than what came in: it says more and counts as full. Else prove '..UptoSaid'. A law counts once. -/
mutual
def uptoBulk {H : Type} : DataW H → Nat
  | .lit (.string bytes) => bytes.length + 1
  | .lit _ => 1
  | .nil => 1
  | .ptr d => uptoBulk d + 1
  | .slice elems spare => uptoBulkAll elems + uptoBulkAll spare + 1
  | .agg parts => uptoBulkAll parts + 1
  | .iface _ d => uptoBulk d + 1
  | .map entries => uptoBulkEntries entries + 1
  | .held _ => 1
def uptoBulkAll {H : Type} : List (DataW H) → Nat
  | [] => 0
  | d :: r => uptoBulk d + uptoBulkAll r
def uptoBulkEntries {H : Type} : List (Lit × DataW H) → Nat
  | [] => 0
  | x :: r => uptoBulkEntry x + uptoBulkEntries r
def uptoBulkEntry {H : Type} : Lit × DataW H → Nat
  | (.string bytes, d) => bytes.length + uptoBulk d + 1
  | (_, d) => uptoBulk d + 1
 end
def uptoSmall : (H : Type) → List (DataW H) → Bool := fun _ ds => decide (uptoBulkAll ds ≤ 1048576)
def OpenSpec.upto (s : _root_.Go.ChangeSpec) : _root_.Go.OpenSpec := { _root_.Go.OpenSpec.ofChange s with cond := some uptoSmall }

/-- 'laws.FnIsZeroIs', WHERE WHAT IT READS IS OF BULK AT MOST 1048576: true; the input reads as it did. -/
def fnIsZeroIsUptoRow : OpenClaim := { program := "ytnpemghjgmofmaa", sum := "b37ca391ab4379070dfaa9588cc320bfca4c9eaec2afcd76ce1f446242cbfa76", func := "loop.example/pub-g03023/laws.FnIsZeroIs", spec := "fnIsZeroIs", apart := false, narrowed := true }
def FnIsZeroIsUptoSaid : Prop := fnIsZeroIsUptoRow.holds Try.pinned (OpenSpec.upto fnIsZeroIsSpec)

/-- 'laws.FnSignIs', WHERE WHAT IT READS IS OF BULK AT MOST 1048576: true; the input reads as it did. -/
def fnSignIsUptoRow : OpenClaim := { program := "ytnpemghjgmofmaa", sum := "b37ca391ab4379070dfaa9588cc320bfca4c9eaec2afcd76ce1f446242cbfa76", func := "loop.example/pub-g03023/laws.FnSignIs", spec := "fnSignIs", apart := false, narrowed := true }
def FnSignIsUptoSaid : Prop := fnSignIsUptoRow.holds Try.pinned (OpenSpec.upto fnSignIsSpec)

/-- 'laws.FnCmpIs', WHERE WHAT IT READS IS OF BULK AT MOST 1048576: true; the input reads as it did. -/
def fnCmpIsUptoRow : OpenClaim := { program := "ytnpemghjgmofmaa", sum := "b37ca391ab4379070dfaa9588cc320bfca4c9eaec2afcd76ce1f446242cbfa76", func := "loop.example/pub-g03023/laws.FnCmpIs", spec := "fnCmpIs", inPlace := ["math/bits.Sub64"], apart := false, narrowed := true }
def FnCmpIsUptoSaid : Prop := fnCmpIsUptoRow.holds Try.pinned (OpenSpec.upto fnCmpIsSpec)

/-- 'laws.FnCmpOrders', WHERE WHAT IT READS IS OF BULK AT MOST 1048576: true; the input reads as it did. -/
def fnCmpOrdersUptoRow : OpenClaim := { program := "ytnpemghjgmofmaa", sum := "b37ca391ab4379070dfaa9588cc320bfca4c9eaec2afcd76ce1f446242cbfa76", func := "loop.example/pub-g03023/laws.FnCmpOrders", spec := "fnCmpOrders", inPlace := ["math/bits.Sub64"], apart := false, narrowed := true }
def FnCmpOrdersUptoSaid : Prop := fnCmpOrdersUptoRow.holds Try.pinned (OpenSpec.upto fnCmpOrdersSpec)

/-- 'laws.FnNotIs', WHERE WHAT IT READS IS OF BULK AT MOST 1048576: true; the input reads as it did. -/
def fnNotIsUptoRow : OpenClaim := { program := "ytnpemghjgmofmaa", sum := "b37ca391ab4379070dfaa9588cc320bfca4c9eaec2afcd76ce1f446242cbfa76", func := "loop.example/pub-g03023/laws.FnNotIs", spec := "fnNotIs", unfollowed := true, recurses := true, apart := false, narrowed := true }
def FnNotIsUptoSaid : Prop := fnNotIsUptoRow.holds Try.pinned (OpenSpec.upto fnNotIsSpec)

/-- 'laws.FnSetIs', WHERE WHAT IT READS IS OF BULK AT MOST 1048576: true; the input reads as it did. -/
def fnSetIsUptoRow : OpenClaim := { program := "ytnpemghjgmofmaa", sum := "b37ca391ab4379070dfaa9588cc320bfca4c9eaec2afcd76ce1f446242cbfa76", func := "loop.example/pub-g03023/laws.FnSetIs", spec := "fnSetIs", unfollowed := true, recurses := true, apart := false, narrowed := true }
def FnSetIsUptoSaid : Prop := fnSetIsUptoRow.holds Try.pinned (OpenSpec.upto fnSetIsSpec)

/-- 'laws.FnOnesAre', WHERE WHAT IT READS IS OF BULK AT MOST 1048576: true; the input reads as it did. -/
def fnOnesAreUptoRow : OpenClaim := { program := "ytnpemghjgmofmaa", sum := "b37ca391ab4379070dfaa9588cc320bfca4c9eaec2afcd76ce1f446242cbfa76", func := "loop.example/pub-g03023/laws.FnOnesAre", spec := "fnOnesAre", apart := false, narrowed := true }
def FnOnesAreUptoSaid : Prop := fnOnesAreUptoRow.holds Try.pinned (OpenSpec.upto fnOnesAreSpec)

/-- 'laws.FnUint64Compares', WHERE WHAT IT READS IS OF BULK AT MOST 1048576: true; the input reads as it did. -/
def fnUint64ComparesUptoRow : OpenClaim := { program := "ytnpemghjgmofmaa", sum := "b37ca391ab4379070dfaa9588cc320bfca4c9eaec2afcd76ce1f446242cbfa76", func := "loop.example/pub-g03023/laws.FnUint64Compares", spec := "fnUint64Compares", apart := false, narrowed := true }
def FnUint64ComparesUptoSaid : Prop := fnUint64ComparesUptoRow.holds Try.pinned (OpenSpec.upto fnUint64ComparesSpec)

/-- 'laws.FnAndIs', WHERE WHAT IT READS IS OF BULK AT MOST 1048576: true; the input reads as it did. -/
def fnAndIsUptoRow : OpenClaim := { program := "ytnpemghjgmofmaa", sum := "b37ca391ab4379070dfaa9588cc320bfca4c9eaec2afcd76ce1f446242cbfa76", func := "loop.example/pub-g03023/laws.FnAndIs", spec := "fnAndIs", unfollowed := true, recurses := true, apart := false, narrowed := true }
def FnAndIsUptoSaid : Prop := fnAndIsUptoRow.holds Try.pinned (OpenSpec.upto fnAndIsSpec)

/-- 'laws.FnOrIs', WHERE WHAT IT READS IS OF BULK AT MOST 1048576: true; the input reads as it did. -/
def fnOrIsUptoRow : OpenClaim := { program := "ytnpemghjgmofmaa", sum := "b37ca391ab4379070dfaa9588cc320bfca4c9eaec2afcd76ce1f446242cbfa76", func := "loop.example/pub-g03023/laws.FnOrIs", spec := "fnOrIs", unfollowed := true, recurses := true, apart := false, narrowed := true }
def FnOrIsUptoSaid : Prop := fnOrIsUptoRow.holds Try.pinned (OpenSpec.upto fnOrIsSpec)

/-- 'laws.FnXorIs', WHERE WHAT IT READS IS OF BULK AT MOST 1048576: true; the input reads as it did. -/
def fnXorIsUptoRow : OpenClaim := { program := "ytnpemghjgmofmaa", sum := "b37ca391ab4379070dfaa9588cc320bfca4c9eaec2afcd76ce1f446242cbfa76", func := "loop.example/pub-g03023/laws.FnXorIs", spec := "fnXorIs", unfollowed := true, recurses := true, apart := false, narrowed := true }
def FnXorIsUptoSaid : Prop := fnXorIsUptoRow.holds Try.pinned (OpenSpec.upto fnXorIsSpec)

/-- 'laws.FnUint64Is', WHERE WHAT IT READS IS OF BULK AT MOST 1048576: true; the input reads as it did. -/
def fnUint64IsUptoRow : OpenClaim := { program := "ytnpemghjgmofmaa", sum := "b37ca391ab4379070dfaa9588cc320bfca4c9eaec2afcd76ce1f446242cbfa76", func := "loop.example/pub-g03023/laws.FnUint64Is", spec := "fnUint64Is", apart := false, narrowed := true }
def FnUint64IsUptoSaid : Prop := fnUint64IsUptoRow.holds Try.pinned (OpenSpec.upto fnUint64IsSpec)

end Rows
end Go.Proofs.Ytnpemghjgmofmaa
