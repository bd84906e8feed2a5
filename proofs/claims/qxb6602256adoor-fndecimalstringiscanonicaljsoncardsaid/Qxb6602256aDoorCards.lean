/-
  DERIVED. GIVEN WITH THE SEED: THE CARDS: each row of Qxb6602256aDoorRows.lean that lists a variable, with what it lists TIED to the program's text (the seventh form; the later family's looks); each row that meets fmt, with fmt's text TOLD by the authors' own Lean function (tested against real Go, not proved from fmt's source: count such statements apart). THE CARD IS WHAT COUNTS. Prove the row's statement (the work); the ties are given (Qxb6602256aDoorTie.lean); close each card by the builder's one call (the guide's Derived/Test/ToyasCard.lean, 'card_holds'). Laid BY PROGRAM, IN A SANDBOX (cutbox-door.mjs). By AI agents, Wed Nov 11 2026. No macro, syntax, notation, axiom, sorry.
-/
import Derived.Test.Qxb6602256aDoorRows
import GoSem.ClaimSeven
namespace Go.Proofs.Qxb6602256aDoor
namespace Rows

/-- THE TIED CARD OF 'zzlaws_internal_attrs_b1.FnAddIntegerMatchesChunkModel'. -/
def fnAddIntegerMatchesChunkModelCard : Claim7 := { stood := { row := fnAddIntegerMatchesChunkModelRow, standIns := [], harness := (true, "b5b8802b9dbc80fb1b0622aa99d61d8067b29090262cdb1fdaca05ab6b858fd4"), looks := true }, kinds := [], alts := [], laidByText := true, laidKinds := [.data, .pinned], laidTests := true, laidLooks := .later }
def FnAddIntegerMatchesChunkModelCardSaid : Prop := Claim7.holds Tryd.pinned (.plain (OpenSpec.ofChange fnAddIntegerMatchesChunkModelSpec)) fnAddIntegerMatchesChunkModelCard

/-- THE TIED CARD OF 'zzlaws_internal_attrs_b1.FnAddIntegerUndoneByNegation'. -/
def fnAddIntegerUndoneByNegationCard : Claim7 := { stood := { row := fnAddIntegerUndoneByNegationRow, standIns := [], harness := (true, "b5b8802b9dbc80fb1b0622aa99d61d8067b29090262cdb1fdaca05ab6b858fd4"), looks := true }, kinds := [], alts := [], laidByText := true, laidKinds := [.data, .pinned], laidTests := true, laidLooks := .later }
def FnAddIntegerUndoneByNegationCardSaid : Prop := Claim7.holds Tryd.pinned (.plain (OpenSpec.ofChange fnAddIntegerUndoneByNegationSpec)) fnAddIntegerUndoneByNegationCard

/-- THE TIED CARD OF 'zzlaws_internal_attrs_b1.FnParseDecimalMatchesScanModel'. -/
def fnParseDecimalMatchesScanModelCard : Claim7 := { stood := { row := fnParseDecimalMatchesScanModelRow, standIns := [], harness := (true, "b5b8802b9dbc80fb1b0622aa99d61d8067b29090262cdb1fdaca05ab6b858fd4"), looks := true }, kinds := [], alts := [], laidByText := true, laidKinds := [.data, .data, .data, .data, .sentinel, .sentinel, .pinned], laidTests := true, laidLooks := .later }
def FnParseDecimalMatchesScanModelCardSaid : Prop := Claim7.holds Tryd.pinned (.plain (OpenSpec.ofChange fnParseDecimalMatchesScanModelSpec)) fnParseDecimalMatchesScanModelCard

/-- THE TIED CARD OF 'zzlaws_internal_attrs_b1.FnParseDecimalStringRoundTrip'. -/
def fnParseDecimalStringRoundTripCard : Claim7 := { stood := { row := fnParseDecimalStringRoundTripRow, standIns := [], harness := (true, "b5b8802b9dbc80fb1b0622aa99d61d8067b29090262cdb1fdaca05ab6b858fd4"), looks := true }, kinds := [], alts := [], laidByText := true, laidKinds := [.data, .data, .data, .data, .sentinel, .sentinel, .pinned], laidTests := true, laidLooks := .later }
def FnParseDecimalStringRoundTripCardSaid : Prop := Claim7.holds Tryd.pinned (.plain (OpenSpec.ofChange fnParseDecimalStringRoundTripSpec)) fnParseDecimalStringRoundTripCard

/-- THE TIED CARD OF 'zzlaws_internal_attrs_b1.FnDecimalStringIsCanonicalJSON'. -/
def fnDecimalStringIsCanonicalJSONCard : Claim7 := { stood := { row := fnDecimalStringIsCanonicalJSONRow, standIns := [], harness := (true, "b5b8802b9dbc80fb1b0622aa99d61d8067b29090262cdb1fdaca05ab6b858fd4"), looks := true }, kinds := [], alts := [], laidByText := true, laidKinds := [.data, .data, .data, .data, .sentinel, .sentinel, .pinned], laidTests := true, laidLooks := .later }
def FnDecimalStringIsCanonicalJSONCardSaid : Prop := Claim7.holds Tryd.pinned (.plain (OpenSpec.ofChange fnDecimalStringIsCanonicalJSONSpec)) fnDecimalStringIsCanonicalJSONCard
end Rows
end Go.Proofs.Qxb6602256aDoor
