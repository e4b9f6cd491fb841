/-
  DERIVED. GIVEN WITH THE SEED: THE CARDS: each row of YtbgmeppidedfbaaDoorRows.lean that lists a variable, with what it lists TIED to the program's text (the seventh form; the later family's looks); each row that meets fmt, with fmt's text TOLD by the authors' own Lean function (tested against real Go, not proved from fmt's source: count such statements apart). THE CARD IS WHAT COUNTS. Prove the row's statement (the work); the ties are given (YtbgmeppidedfbaaDoorTie.lean); close each card by the builder's one call (the guide's Derived/Test/ToyasCard.lean, 'card_holds'). Laid BY PROGRAM, IN A SANDBOX (cutbox-door.mjs). By AI agents, Wed Nov 11 2026. No macro, syntax, notation, axiom, sorry.
-/
import Derived.Test.YtbgmeppidedfbaaDoorRows
import GoSem.ClaimSeven
namespace Go.Proofs.YtbgmeppidedfbaaDoor
namespace Rows

/-- THE TIED CARD OF 'laws.FnFromHexIs'. -/
def fnFromHexIsCard : Claim7 := { stood := { row := fnFromHexIsRow, standIns := [], harness := (true, "a143f77888fb3566c3eae083ea29a392a7e3237d001717ef5ca7e3c9c7157c89"), looks := true }, kinds := [], alts := [], laidByText := true, laidKinds := [.sentinel, .sentinel, .sentinel, .sentinel, .sentinel, .sentinel], laidTests := true, laidLooks := .later }
def FnFromHexIsCardSaid : Prop := Claim7.holds Tryd.pinned (.plain (OpenSpec.ofChange fnFromHexIsSpec)) fnFromHexIsCard

/-- THE TIED CARD OF 'laws.FnPrettyDecIs'. -/
def fnPrettyDecIsCard : Claim7 := { stood := { row := fnPrettyDecIsRow, standIns := [], harness := (true, "a143f77888fb3566c3eae083ea29a392a7e3237d001717ef5ca7e3c9c7157c89"), looks := true }, kinds := [], alts := [], laidByText := true, laidKinds := [.data, .data, .data], laidTests := true, laidLooks := .later }
def FnPrettyDecIsCardSaid : Prop := Claim7.holds Tryd.pinned (.plain (OpenSpec.ofChange fnPrettyDecIsSpec)) fnPrettyDecIsCard

/-- THE TIED CARD OF 'laws.FnJsonIs'. -/
def fnJsonIsCard : Claim7 := { stood := { row := fnJsonIsRow, standIns := [], harness := (true, "a143f77888fb3566c3eae083ea29a392a7e3237d001717ef5ca7e3c9c7157c89"), looks := true }, kinds := [], alts := [], laidByText := true, laidKinds := [.data, .data, .data], laidTests := true, laidLooks := .later }
def FnJsonIsCardSaid : Prop := Claim7.holds Tryd.pinned (.plain (OpenSpec.ofChange fnJsonIsSpec)) fnJsonIsCard

/-- THE TIED CARD OF 'laws.FnDecIs'. -/
def fnDecIsCard : Claim7 := { stood := { row := fnDecIsRow, standIns := [], harness := (true, "a143f77888fb3566c3eae083ea29a392a7e3237d001717ef5ca7e3c9c7157c89"), looks := true }, kinds := [], alts := [], laidByText := true, laidKinds := [.data, .data, .data], laidTests := true, laidLooks := .later }
def FnDecIsCardSaid : Prop := Claim7.holds Tryd.pinned (.plain (OpenSpec.ofChange fnDecIsSpec)) fnDecIsCard

/-- THE TIED CARD OF 'laws.FnFromDecimalIs'. -/
def fnFromDecimalIsCard : Claim7 := { stood := { row := fnFromDecimalIsRow, standIns := [], harness := (true, "a143f77888fb3566c3eae083ea29a392a7e3237d001717ef5ca7e3c9c7157c89"), looks := true }, kinds := [], alts := [], laidByText := true, laidKinds := [.data, .data, .data, .sentinel, .sentinel, .sentinel, .sentinel, .widerDeep], laidTests := true, laidLooks := .later }
def FnFromDecimalIsCardSaid : Prop := Claim7.holds Tryd.pinned (.plain (OpenSpec.ofChange fnFromDecimalIsSpec)) fnFromDecimalIsCard

/-- THE TIED CARD OF 'laws.FnReadTextIs'. -/
def fnReadTextIsCard : Claim7 := { stood := { row := fnReadTextIsRow, standIns := [], harness := (true, "a143f77888fb3566c3eae083ea29a392a7e3237d001717ef5ca7e3c9c7157c89"), looks := true }, kinds := [], alts := [], laidByText := true, laidKinds := [.data, .data, .data, .sentinel, .sentinel, .sentinel, .sentinel, .sentinel, .sentinel, .sentinel, .sentinel, .sentinel, .widerDeep], laidTests := true, laidLooks := .later }
def FnReadTextIsCardSaid : Prop := Claim7.holds Tryd.pinned (.plain (OpenSpec.ofChange fnReadTextIsSpec)) fnReadTextIsCard

/-- THE TIED CARD OF 'laws.FnReadJsonPlain'. -/
def fnReadJsonPlainCard : Claim7 := { stood := { row := fnReadJsonPlainRow, standIns := [], harness := (true, "a143f77888fb3566c3eae083ea29a392a7e3237d001717ef5ca7e3c9c7157c89"), looks := true }, kinds := [], alts := [], laidByText := true, laidKinds := [.data, .data, .data, .sentinel, .sentinel, .sentinel, .sentinel, .sentinel, .sentinel, .sentinel, .sentinel, .sentinel, .widerDeep], laidTests := true, laidLooks := .later }
def FnReadJsonPlainCardSaid : Prop := Claim7.holds Tryd.pinned (.plain (OpenSpec.ofChange fnReadJsonPlainSpec)) fnReadJsonPlainCard

/-- THE TIED CARD OF 'laws.FnReadJsonQuoted'. -/
def fnReadJsonQuotedCard : Claim7 := { stood := { row := fnReadJsonQuotedRow, standIns := [], harness := (true, "a143f77888fb3566c3eae083ea29a392a7e3237d001717ef5ca7e3c9c7157c89"), looks := true }, kinds := [], alts := [], laidByText := true, laidKinds := [.data, .data, .data, .sentinel, .sentinel, .sentinel, .sentinel, .sentinel, .sentinel, .sentinel, .sentinel, .sentinel, .widerDeep], laidTests := true, laidLooks := .later }
def FnReadJsonQuotedCardSaid : Prop := Claim7.holds Tryd.pinned (.plain (OpenSpec.ofChange fnReadJsonQuotedSpec)) fnReadJsonQuotedCard

/-- THE SECOND FORM's CARD OF 'laws.FnFromHexIs'. -/
def fnFromHexIsUptoCard : Claim7 := { stood := { row := fnFromHexIsUptoRow, standIns := [], harness := (true, "a143f77888fb3566c3eae083ea29a392a7e3237d001717ef5ca7e3c9c7157c89"), looks := true }, kinds := [], alts := [], laidByText := true, laidKinds := [.sentinel, .sentinel, .sentinel, .sentinel, .sentinel, .sentinel], laidTests := true, laidLooks := .later }
def FnFromHexIsUptoCardSaid : Prop := Claim7.holds Tryd.pinned (.plain (OpenSpec.upto fnFromHexIsSpec)) fnFromHexIsUptoCard

/-- THE SECOND FORM's CARD OF 'laws.FnPrettyDecIs'. -/
def fnPrettyDecIsUptoCard : Claim7 := { stood := { row := fnPrettyDecIsUptoRow, standIns := [], harness := (true, "a143f77888fb3566c3eae083ea29a392a7e3237d001717ef5ca7e3c9c7157c89"), looks := true }, kinds := [], alts := [], laidByText := true, laidKinds := [.data, .data, .data], laidTests := true, laidLooks := .later }
def FnPrettyDecIsUptoCardSaid : Prop := Claim7.holds Tryd.pinned (.plain (OpenSpec.upto fnPrettyDecIsSpec)) fnPrettyDecIsUptoCard

/-- THE SECOND FORM's CARD OF 'laws.FnJsonIs'. -/
def fnJsonIsUptoCard : Claim7 := { stood := { row := fnJsonIsUptoRow, standIns := [], harness := (true, "a143f77888fb3566c3eae083ea29a392a7e3237d001717ef5ca7e3c9c7157c89"), looks := true }, kinds := [], alts := [], laidByText := true, laidKinds := [.data, .data, .data], laidTests := true, laidLooks := .later }
def FnJsonIsUptoCardSaid : Prop := Claim7.holds Tryd.pinned (.plain (OpenSpec.upto fnJsonIsSpec)) fnJsonIsUptoCard

/-- THE SECOND FORM's CARD OF 'laws.FnDecIs'. -/
def fnDecIsUptoCard : Claim7 := { stood := { row := fnDecIsUptoRow, standIns := [], harness := (true, "a143f77888fb3566c3eae083ea29a392a7e3237d001717ef5ca7e3c9c7157c89"), looks := true }, kinds := [], alts := [], laidByText := true, laidKinds := [.data, .data, .data], laidTests := true, laidLooks := .later }
def FnDecIsUptoCardSaid : Prop := Claim7.holds Tryd.pinned (.plain (OpenSpec.upto fnDecIsSpec)) fnDecIsUptoCard

/-- THE SECOND FORM's CARD OF 'laws.FnFromDecimalIs'. -/
def fnFromDecimalIsUptoCard : Claim7 := { stood := { row := fnFromDecimalIsUptoRow, standIns := [], harness := (true, "a143f77888fb3566c3eae083ea29a392a7e3237d001717ef5ca7e3c9c7157c89"), looks := true }, kinds := [], alts := [], laidByText := true, laidKinds := [.data, .data, .data, .sentinel, .sentinel, .sentinel, .sentinel, .widerDeep], laidTests := true, laidLooks := .later }
def FnFromDecimalIsUptoCardSaid : Prop := Claim7.holds Tryd.pinned (.plain (OpenSpec.upto fnFromDecimalIsSpec)) fnFromDecimalIsUptoCard

/-- THE SECOND FORM's CARD OF 'laws.FnReadTextIs'. -/
def fnReadTextIsUptoCard : Claim7 := { stood := { row := fnReadTextIsUptoRow, standIns := [], harness := (true, "a143f77888fb3566c3eae083ea29a392a7e3237d001717ef5ca7e3c9c7157c89"), looks := true }, kinds := [], alts := [], laidByText := true, laidKinds := [.data, .data, .data, .sentinel, .sentinel, .sentinel, .sentinel, .sentinel, .sentinel, .sentinel, .sentinel, .sentinel, .widerDeep], laidTests := true, laidLooks := .later }
def FnReadTextIsUptoCardSaid : Prop := Claim7.holds Tryd.pinned (.plain (OpenSpec.upto fnReadTextIsSpec)) fnReadTextIsUptoCard

/-- THE SECOND FORM's CARD OF 'laws.FnReadJsonPlain'. -/
def fnReadJsonPlainUptoCard : Claim7 := { stood := { row := fnReadJsonPlainUptoRow, standIns := [], harness := (true, "a143f77888fb3566c3eae083ea29a392a7e3237d001717ef5ca7e3c9c7157c89"), looks := true }, kinds := [], alts := [], laidByText := true, laidKinds := [.data, .data, .data, .sentinel, .sentinel, .sentinel, .sentinel, .sentinel, .sentinel, .sentinel, .sentinel, .sentinel, .widerDeep], laidTests := true, laidLooks := .later }
def FnReadJsonPlainUptoCardSaid : Prop := Claim7.holds Tryd.pinned (.plain (OpenSpec.upto fnReadJsonPlainSpec)) fnReadJsonPlainUptoCard

/-- THE SECOND FORM's CARD OF 'laws.FnReadJsonQuoted'. -/
def fnReadJsonQuotedUptoCard : Claim7 := { stood := { row := fnReadJsonQuotedUptoRow, standIns := [], harness := (true, "a143f77888fb3566c3eae083ea29a392a7e3237d001717ef5ca7e3c9c7157c89"), looks := true }, kinds := [], alts := [], laidByText := true, laidKinds := [.data, .data, .data, .sentinel, .sentinel, .sentinel, .sentinel, .sentinel, .sentinel, .sentinel, .sentinel, .sentinel, .widerDeep], laidTests := true, laidLooks := .later }
def FnReadJsonQuotedUptoCardSaid : Prop := Claim7.holds Tryd.pinned (.plain (OpenSpec.upto fnReadJsonQuotedSpec)) fnReadJsonQuotedUptoCard
end Rows
end Go.Proofs.YtbgmeppidedfbaaDoor
