/-
  DERIVED. GIVEN WITH THE SEED: THE CARDS: each row of Qxb6602280aDoorRows.lean that lists a variable, with what it lists TIED to the program's text (the seventh form; the later family's looks); each row that meets fmt, with fmt's text TOLD by the authors' own Lean function (tested against real Go, not proved from fmt's source: count such statements apart). THE CARD IS WHAT COUNTS. Prove the row's statement (the work); the ties are given (Qxb6602280aDoorTie.lean); close each card by the builder's one call (the guide's Derived/Test/ToyasCard.lean, 'card_holds'). Laid BY PROGRAM, IN A SANDBOX (cutbox-door.mjs). By AI agents, Wed Nov 11 2026. No macro, syntax, notation, axiom, sorry.
-/
import Derived.Test.Qxb6602280aDoorRows
import GoSem.ClaimSeven
namespace Go.Proofs.Qxb6602280aDoor
namespace Rows

/-- THE TIED CARD OF 'zzlaws_procfs_b1.FnUnescapeUndoesOctalEscaping'. -/
def fnUnescapeUndoesOctalEscapingCard : Claim7 := { stood := { row := fnUnescapeUndoesOctalEscapingRow, standIns := [], harness := (true, "7fe41d7a53baa884b646af3ade860d84a36ed2b9282307a96bd7b568e814cad1"), looks := true }, kinds := [], alts := [], laidByText := true, laidKinds := [.data, .data, .data, .sentinel, .sentinel], laidTests := true, laidLooks := .later }
def FnUnescapeUndoesOctalEscapingCardSaid : Prop := Claim7.holds Tryd.pinned (.plain (OpenSpec.ofChange fnUnescapeUndoesOctalEscapingSpec)) fnUnescapeUndoesOctalEscapingCard

/-- THE TIED CARD OF 'zzlaws_procfs_b1.FnUnescapeSplitsWhereNoEscapeIsCut'. -/
def fnUnescapeSplitsWhereNoEscapeIsCutCard : Claim7 := { stood := { row := fnUnescapeSplitsWhereNoEscapeIsCutRow, standIns := [], harness := (true, "7fe41d7a53baa884b646af3ade860d84a36ed2b9282307a96bd7b568e814cad1"), looks := true }, kinds := [], alts := [], laidByText := true, laidKinds := [.data, .data, .data, .sentinel, .sentinel], laidTests := true, laidLooks := .later }
def FnUnescapeSplitsWhereNoEscapeIsCutCardSaid : Prop := Claim7.holds Tryd.pinned (.plain (OpenSpec.ofChange fnUnescapeSplitsWhereNoEscapeIsCutSpec)) fnUnescapeSplitsWhereNoEscapeIsCutCard

/-- THE TIED CARD OF 'zzlaws_procfs_b1.FnCutFieldWalksEveryLine'. -/
def fnCutFieldWalksEveryLineCard : Claim7 := { stood := { row := fnCutFieldWalksEveryLineRow, standIns := [], harness := (true, "7fe41d7a53baa884b646af3ade860d84a36ed2b9282307a96bd7b568e814cad1"), looks := true }, kinds := [], alts := [], laidByText := true, laidKinds := [.data, .listed, .data, .pinned], laidTests := true, laidLooks := .later }
def FnCutFieldWalksEveryLineCardSaid : Prop := Claim7.holds Tryd.pinned (.plain (OpenSpec.ofChange fnCutFieldWalksEveryLineSpec)) fnCutFieldWalksEveryLineCard

/-- THE TIED CARD OF 'zzlaws_procfs_b1.FnCutFieldReadsBackAWrittenField'. -/
def fnCutFieldReadsBackAWrittenFieldCard : Claim7 := { stood := { row := fnCutFieldReadsBackAWrittenFieldRow, standIns := [], harness := (true, "7fe41d7a53baa884b646af3ade860d84a36ed2b9282307a96bd7b568e814cad1"), looks := true }, kinds := [], alts := [], laidByText := true, laidKinds := [.data, .listed, .data, .pinned], laidTests := true, laidLooks := .later }
def FnCutFieldReadsBackAWrittenFieldCardSaid : Prop := Claim7.holds Tryd.pinned (.plain (OpenSpec.ofChange fnCutFieldReadsBackAWrittenFieldSpec)) fnCutFieldReadsBackAWrittenFieldCard
end Rows
end Go.Proofs.Qxb6602280aDoor
