/-
  DERIVED. GIVEN WITH THE SEED: THE CARDS: each row of YtfaocjcpnjmfiaaGreatDoorRows.lean that lists a variable, with what it lists TIED to the program's text (the seventh form; the later family's looks); each row that meets fmt, with fmt's text TOLD by the authors' own Lean function (tested against real Go, not proved from fmt's source: count such statements apart). THE CARD IS WHAT COUNTS. Prove the row's statement (the work); the ties are given (YtfaocjcpnjmfiaaGreatDoorTie.lean); close each card by the builder's one call (the guide's Derived/Test/ToyasCard.lean, 'card_holds'). Laid BY PROGRAM, IN A SANDBOX (cutbox-door.mjs). By AI agents, Wed Nov 11 2026. No macro, syntax, notation, axiom, sorry.
-/
import Derived.Test.YtfaocjcpnjmfiaaGreatDoorRows
import GoSem.ClaimSeven
namespace Go.Proofs.YtfaocjcpnjmfiaaGreatDoor
namespace Rows

/-- THE TIED CARD OF 'laws.FnTextsBack'. -/
def fnTextsBackCard : Claim7 := { stood := { row := fnTextsBackRow, standIns := [], harness := (true, "8e85a9bb8ff84ffe2cb31cf6d2c2146786be90ac6983911bb3218c8068f7f3f8"), looks := true }, kinds := [], alts := [], laidByText := true, laidKinds := [.data, .data, .data, .sentinel, .sentinel, .sentinel, .sentinel, .sentinel, .sentinel, .sentinel, .sentinel, .sentinel, .widerDeep], laidTests := true, laidLooks := .later }
def FnTextsBackCardSaid : Prop := Claim7.holds Tryz.pinned (.plain (OpenSpec.ofChange fnTextsBackSpec)) fnTextsBackCard

/-- THE SECOND FORM's CARD OF 'laws.FnTextsBack'. -/
def fnTextsBackUptoCard : Claim7 := { stood := { row := fnTextsBackUptoRow, standIns := [], harness := (true, "8e85a9bb8ff84ffe2cb31cf6d2c2146786be90ac6983911bb3218c8068f7f3f8"), looks := true }, kinds := [], alts := [], laidByText := true, laidKinds := [.data, .data, .data, .sentinel, .sentinel, .sentinel, .sentinel, .sentinel, .sentinel, .sentinel, .sentinel, .sentinel, .widerDeep], laidTests := true, laidLooks := .later }
def FnTextsBackUptoCardSaid : Prop := Claim7.holds Tryz.pinned (.plain (OpenSpec.upto fnTextsBackSpec)) fnTextsBackUptoCard
end Rows
end Go.Proofs.YtfaocjcpnjmfiaaGreatDoor
