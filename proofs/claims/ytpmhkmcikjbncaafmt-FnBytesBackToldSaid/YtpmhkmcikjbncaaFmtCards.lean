/-
  DERIVED. GIVEN WITH THE SEED: THE CARDS: each row of YtpmhkmcikjbncaaFmtRows.lean that lists a variable, with what it lists TIED to the program's text (the seventh form; the later family's looks); each row that meets fmt, with fmt's text TOLD by the authors' own Lean function (tested against real Go, not proved from fmt's source: count such statements apart). THE CARD IS WHAT COUNTS. Prove the row's statement (the work); the ties are given (YtpmhkmcikjbncaaFmtTie.lean); close each card by the builder's one call (the guide's Derived/Test/ToyasCard.lean, 'card_holds'). Laid BY PROGRAM, IN A SANDBOX (cutbox-door.mjs). By AI agents, Wed Nov 11 2026. No macro, syntax, notation, axiom, sorry.
-/
import Derived.Test.YtpmhkmcikjbncaaFmtRows
import GoSem.ClaimSeven
namespace Go.Proofs.YtpmhkmcikjbncaaFmt
namespace Rows

/-- THE TOLD AND TIED CARD OF 'laws.FnReadSszIs'. -/
def fnReadSszIsCard : Claim7 := { stood := { row := fnReadSszIsRow, standIns := [], harness := (true, "7b437f2950155bc6042f571edb293e124fe084e0fc72fa36901e1ad1d91c4f93"), looks := false }, told := true, laidByText := true, laidKinds := [.sentinel], laidTests := true, laidLooks := .later, goes := false }
def FnReadSszIsToldSaid : Prop := Claim7.holds Tryf.pinned (.plain (OpenSpec.ofChange fnReadSszIsSpec)) fnReadSszIsCard
/-- ITS FALSE NEIGHBOUR. Refute it at one input. -/
def FnReadSszIsToldWrongFalsely : Prop := Claim7.holds Tryf.pinned (.plain (OpenSpec.ofChange fnReadSszIsWrong)) fnReadSszIsCard

/-- THE TOLD AND TIED CARD OF 'laws.FnBytesBack'. -/
def fnBytesBackCard : Claim7 := { stood := { row := fnBytesBackRow, standIns := [], harness := (true, "7b437f2950155bc6042f571edb293e124fe084e0fc72fa36901e1ad1d91c4f93"), looks := false }, told := true, laidByText := true, laidKinds := [.sentinel], laidTests := true, laidLooks := .later, goes := false }
def FnBytesBackToldSaid : Prop := Claim7.holds Tryf.pinned (.plain (OpenSpec.ofChange fnBytesBackSpec)) fnBytesBackCard
/-- ITS FALSE NEIGHBOUR. Refute it at one input. -/
def FnBytesBackToldWrongFalsely : Prop := Claim7.holds Tryf.pinned (.plain (OpenSpec.ofChange fnBytesBackWrong)) fnBytesBackCard
end Rows
end Go.Proofs.YtpmhkmcikjbncaaFmt
