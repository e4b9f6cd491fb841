/-
  NARROWER THAN 'FOR EVERY INPUT', by the rows' own cells (each row's printed sentence says how): FnReadSszIs: ifaces, laid · FnBytesBack: ifaces, laid.
  DERIVED. THE GIVEN ROWS OF THIS SEAT. 2 by the template 'for every input the law returns true; each argument reads behind the call as it read before'; 0 by the template 'total and deterministic' (their statements: YtpmhkmcikjbncaaFmtTotals.lean).
  GIVEN WITH THE SEED: the statements are not yours to turn. If you find one false, say at which input.
  Laid BY PROGRAM, IN A SANDBOX (cutbox-rows.mjs): the forced cells as the released guide's own fill.sh prints them over the translation 2d58ab8263e91c8c… (all of the seat's roots in one cut). By AI agents, Wed Nov 11 2026. No macro, syntax, notation, axiom, sorry.
-/
import Derived.Test.YtpmhkmcikjbncaaFmtChecked
import GoSem.Claim
import GoSem.ClaimJoined
import GoSem.ClaimMapViews
import Derived.JoinedTies
import Derived.KernelRfl
namespace Go.Proofs.YtpmhkmcikjbncaaFmt
/- THE CELL 'sum', in the pinned program and in every row, IS THE sha256 OF THE DUMP (.gsa) THAT YtpmhkmcikjbncaaFmtProg.lean LOADS. Nothing in Lean hashes anything: it is a label: what it is worth is what the hold of that sum in a sandbox is worth. -/
noncomputable def Tryf.pinned : Pinned := { name := "ytpmhkmcikjbncaafmt", sum := "2d58ab8263e91c8c39fece3543530a14d8bb062bb080728745fbe2903f39e699", checked := Tryf.checked }
namespace Rows
def none {H : Type} : Left H := { results := [], args := [] }

/- WHAT THE LISTED PACKAGE-LEVEL VARIABLES READ AS WHEN THE CALL BEGINS. Each datum BY PROGRAM (the guide's laid-datum.mjs) off the statement by which the dump's own 'gosem.cut.vars' lays the variable. In a bare row this is a premise. The card (YtpmhkmcikjbncaaFmtCards.lean) ties it to the program's text. -/
def laid_loop_example_pub_g03023_pub_uint256_ErrBadEncodedLength {H : Type} : DataW H := .iface "*errors.errorString" (.ptr (.agg [.lit (.string [98, 97, 100, 32, 115, 115, 122, 32, 101, 110, 99, 111, 100, 101, 100, 32, 108, 101, 110, 103, 116, 104])]))

/-- 'laws.FnReadSszIs': WHATEVER THE INPUT: true; the input reads as it did. -/
def fnReadSszIsSpec : ChangeSpec := { name := "fnReadSszIs", vars := ["loop.example/pub-g03023/pub/uint256.ErrBadEncodedLength"], fn := fun _ => fun
  | [d, g1] => { results := [.lit (.bool true)], args := [d], vars := [g1] }
  | _ => none }
def fnReadSszIsRow : OpenClaim := { program := "ytpmhkmcikjbncaafmt", sum := "2d58ab8263e91c8c39fece3543530a14d8bb062bb080728745fbe2903f39e699", func := "loop.example/pub-g03023/laws.FnReadSszIs", spec := "fnReadSszIs", stops := ["fmt.errorf"], inPlace := ["fmt.errorf"], named := ["loop.example/pub-g03023/pub/uint256.ErrBadEncodedLength", "encoding/binary.LittleEndian"], ifaces := true, apart := false, laid := [("loop.example/pub-g03023/pub/uint256.ErrBadEncodedLength", laid_loop_example_pub_g03023_pub_uint256_ErrBadEncodedLength)] }
/-- NO THEOREM (fmt's text is open here; it may be false): for the released tool's asking of the row's closed facts alone. THE STATEMENT IS 'FnReadSszIsToldSaid' (YtpmhkmcikjbncaaFmtCards.lean). -/
def FnReadSszIsFormAsk : Prop := fnReadSszIsRow.holds Tryf.pinned (OpenSpec.ofChange fnReadSszIsSpec)

/-- ITS FALSE NEIGHBOUR: 'it returns false'. Refute it at one input. -/
def fnReadSszIsWrong : ChangeSpec := { name := "fnReadSszIs", vars := ["loop.example/pub-g03023/pub/uint256.ErrBadEncodedLength"], fn := fun _ => fun
  | [d, g1] => { results := [.lit (.bool false)], args := [d], vars := [g1] }
  | _ => none }
def FnReadSszIsWrongFormAsk : Prop := fnReadSszIsRow.holds Tryf.pinned (OpenSpec.ofChange fnReadSszIsWrong)

/-- 'laws.FnBytesBack': WHATEVER THE INPUT: true; the input reads as it did. -/
def fnBytesBackSpec : ChangeSpec := { name := "fnBytesBack", vars := ["loop.example/pub-g03023/pub/uint256.ErrBadEncodedLength"], fn := fun _ => fun
  | [d, g1] => { results := [.lit (.bool true)], args := [d], vars := [g1] }
  | _ => none }
def fnBytesBackRow : OpenClaim := { program := "ytpmhkmcikjbncaafmt", sum := "2d58ab8263e91c8c39fece3543530a14d8bb062bb080728745fbe2903f39e699", func := "loop.example/pub-g03023/laws.FnBytesBack", spec := "fnBytesBack", stops := ["fmt.errorf"], inPlace := ["fmt.errorf"], named := ["encoding/binary.LittleEndian", "loop.example/pub-g03023/pub/uint256.ErrBadEncodedLength", "encoding/binary.BigEndian"], ifaces := true, apart := false, laid := [("loop.example/pub-g03023/pub/uint256.ErrBadEncodedLength", laid_loop_example_pub_g03023_pub_uint256_ErrBadEncodedLength)] }
/-- NO THEOREM (fmt's text is open here; it may be false): for the released tool's asking of the row's closed facts alone. THE STATEMENT IS 'FnBytesBackToldSaid' (YtpmhkmcikjbncaaFmtCards.lean). -/
def FnBytesBackFormAsk : Prop := fnBytesBackRow.holds Tryf.pinned (OpenSpec.ofChange fnBytesBackSpec)

/-- ITS FALSE NEIGHBOUR: 'it returns false'. Refute it at one input. -/
def fnBytesBackWrong : ChangeSpec := { name := "fnBytesBack", vars := ["loop.example/pub-g03023/pub/uint256.ErrBadEncodedLength"], fn := fun _ => fun
  | [d, g1] => { results := [.lit (.bool false)], args := [d], vars := [g1] }
  | _ => none }
def FnBytesBackWrongFormAsk : Prop := fnBytesBackRow.holds Tryf.pinned (OpenSpec.ofChange fnBytesBackWrong)

end Rows
end Go.Proofs.YtpmhkmcikjbncaaFmt
