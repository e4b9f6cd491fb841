/-
  DERIVED. GIVEN WITH THE SEED: THE CARDS: each row of YtfaocjcpnjmfiaaDoorRows.lean that lists a variable, with what it lists TIED to the program's text (the seventh form; the later family's looks); each row that meets fmt, with fmt's text TOLD by the authors' own Lean function (tested against real Go, not proved from fmt's source: count such statements apart). THE CARD IS WHAT COUNTS. Prove the row's statement (the work); the ties are given (YtfaocjcpnjmfiaaDoorTie.lean); close each card by the builder's one call (the guide's Derived/Test/ToyasCard.lean, 'card_holds'). Laid BY PROGRAM, IN A SANDBOX (cutbox-door.mjs). By AI agents, Wed Nov 11 2026. No macro, syntax, notation, axiom, sorry.
-/
import Derived.Test.YtfaocjcpnjmfiaaDoorRows
import GoSem.ClaimSeven
namespace Go.Proofs.YtfaocjcpnjmfiaaDoor
namespace Rows

/-- THE TIED CARD OF 'laws.FnFromDecimalIs'. -/
def fnFromDecimalIsCard : Claim7 := { stood := { row := fnFromDecimalIsRow, standIns := [], harness := (true, "0b43b50641abba26055fc8302779291019c5213f9a026f4e964c565599ecc5b3"), looks := true }, kinds := [], alts := [], laidByText := true, laidKinds := [.data, .data, .data, .sentinel, .sentinel, .sentinel, .sentinel, .widerDeep], laidTests := true, laidLooks := .later }
def FnFromDecimalIsCardSaid : Prop := Claim7.holds Tryd.pinned (.plain (OpenSpec.ofChange fnFromDecimalIsSpec)) fnFromDecimalIsCard

/-- THE TIED CARD OF 'laws.FnReadTextIs'. -/
def fnReadTextIsCard : Claim7 := { stood := { row := fnReadTextIsRow, standIns := [], harness := (true, "0b43b50641abba26055fc8302779291019c5213f9a026f4e964c565599ecc5b3"), looks := true }, kinds := [], alts := [], laidByText := true, laidKinds := [.data, .data, .data, .sentinel, .sentinel, .sentinel, .sentinel, .sentinel, .sentinel, .sentinel, .sentinel, .sentinel, .widerDeep], laidTests := true, laidLooks := .later }
def FnReadTextIsCardSaid : Prop := Claim7.holds Tryd.pinned (.plain (OpenSpec.ofChange fnReadTextIsSpec)) fnReadTextIsCard

/-- THE TIED CARD OF 'laws.FnReadJsonPlain'. -/
def fnReadJsonPlainCard : Claim7 := { stood := { row := fnReadJsonPlainRow, standIns := [], harness := (true, "0b43b50641abba26055fc8302779291019c5213f9a026f4e964c565599ecc5b3"), looks := true }, kinds := [], alts := [], laidByText := true, laidKinds := [.data, .data, .data, .sentinel, .sentinel, .sentinel, .sentinel, .sentinel, .sentinel, .sentinel, .sentinel, .sentinel, .widerDeep], laidTests := true, laidLooks := .later }
def FnReadJsonPlainCardSaid : Prop := Claim7.holds Tryd.pinned (.plain (OpenSpec.ofChange fnReadJsonPlainSpec)) fnReadJsonPlainCard

/-- THE TIED CARD OF 'laws.FnReadJsonQuoted'. -/
def fnReadJsonQuotedCard : Claim7 := { stood := { row := fnReadJsonQuotedRow, standIns := [], harness := (true, "0b43b50641abba26055fc8302779291019c5213f9a026f4e964c565599ecc5b3"), looks := true }, kinds := [], alts := [], laidByText := true, laidKinds := [.data, .data, .data, .sentinel, .sentinel, .sentinel, .sentinel, .sentinel, .sentinel, .sentinel, .sentinel, .sentinel, .widerDeep], laidTests := true, laidLooks := .later }
def FnReadJsonQuotedCardSaid : Prop := Claim7.holds Tryd.pinned (.plain (OpenSpec.ofChange fnReadJsonQuotedSpec)) fnReadJsonQuotedCard

/-- THE SECOND FORM's CARD OF 'laws.FnFromDecimalIs'. -/
def fnFromDecimalIsUptoCard : Claim7 := { stood := { row := fnFromDecimalIsUptoRow, standIns := [], harness := (true, "0b43b50641abba26055fc8302779291019c5213f9a026f4e964c565599ecc5b3"), looks := true }, kinds := [], alts := [], laidByText := true, laidKinds := [.data, .data, .data, .sentinel, .sentinel, .sentinel, .sentinel, .widerDeep], laidTests := true, laidLooks := .later }
def FnFromDecimalIsUptoCardSaid : Prop := Claim7.holds Tryd.pinned (.plain (OpenSpec.upto fnFromDecimalIsSpec)) fnFromDecimalIsUptoCard

/-- THE SECOND FORM's CARD OF 'laws.FnReadTextIs'. -/
def fnReadTextIsUptoCard : Claim7 := { stood := { row := fnReadTextIsUptoRow, standIns := [], harness := (true, "0b43b50641abba26055fc8302779291019c5213f9a026f4e964c565599ecc5b3"), looks := true }, kinds := [], alts := [], laidByText := true, laidKinds := [.data, .data, .data, .sentinel, .sentinel, .sentinel, .sentinel, .sentinel, .sentinel, .sentinel, .sentinel, .sentinel, .widerDeep], laidTests := true, laidLooks := .later }
def FnReadTextIsUptoCardSaid : Prop := Claim7.holds Tryd.pinned (.plain (OpenSpec.upto fnReadTextIsSpec)) fnReadTextIsUptoCard

/-- THE SECOND FORM's CARD OF 'laws.FnReadJsonPlain'. -/
def fnReadJsonPlainUptoCard : Claim7 := { stood := { row := fnReadJsonPlainUptoRow, standIns := [], harness := (true, "0b43b50641abba26055fc8302779291019c5213f9a026f4e964c565599ecc5b3"), looks := true }, kinds := [], alts := [], laidByText := true, laidKinds := [.data, .data, .data, .sentinel, .sentinel, .sentinel, .sentinel, .sentinel, .sentinel, .sentinel, .sentinel, .sentinel, .widerDeep], laidTests := true, laidLooks := .later }
def FnReadJsonPlainUptoCardSaid : Prop := Claim7.holds Tryd.pinned (.plain (OpenSpec.upto fnReadJsonPlainSpec)) fnReadJsonPlainUptoCard

/-- THE SECOND FORM's CARD OF 'laws.FnReadJsonQuoted'. -/
def fnReadJsonQuotedUptoCard : Claim7 := { stood := { row := fnReadJsonQuotedUptoRow, standIns := [], harness := (true, "0b43b50641abba26055fc8302779291019c5213f9a026f4e964c565599ecc5b3"), looks := true }, kinds := [], alts := [], laidByText := true, laidKinds := [.data, .data, .data, .sentinel, .sentinel, .sentinel, .sentinel, .sentinel, .sentinel, .sentinel, .sentinel, .sentinel, .widerDeep], laidTests := true, laidLooks := .later }
def FnReadJsonQuotedUptoCardSaid : Prop := Claim7.holds Tryd.pinned (.plain (OpenSpec.upto fnReadJsonQuotedSpec)) fnReadJsonQuotedUptoCard
end Rows
end Go.Proofs.YtfaocjcpnjmfiaaDoor
