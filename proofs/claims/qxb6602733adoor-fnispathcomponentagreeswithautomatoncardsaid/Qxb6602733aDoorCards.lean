/-
  DERIVED. GIVEN WITH THE SEED: THE CARDS: each row of Qxb6602733aDoorRows.lean that lists a variable, with what it lists TIED to the program's text (the seventh form; the later family's looks); each row that meets fmt, with fmt's text TOLD by the authors' own Lean function (tested against real Go, not proved from fmt's source: count such statements apart). THE CARD IS WHAT COUNTS. Prove the row's statement (the work); the ties are given (Qxb6602733aDoorTie.lean); close each card by the builder's one call (the guide's Derived/Test/ToyasCard.lean, 'card_holds'). Laid BY PROGRAM, IN A SANDBOX (cutbox-door.mjs). By AI agents, Wed Nov 11 2026. No macro, syntax, notation, axiom, sorry.
-/
import Derived.Test.Qxb6602733aDoorRows
import GoSem.ClaimSeven
namespace Go.Proofs.Qxb6602733aDoor
namespace Rows

/-- THE TIED CARD OF 'zzlaws_internal_imageref_b1.FnIsPathComponentAgreesWithAutomaton'. -/
def fnIsPathComponentAgreesWithAutomatonCard : Claim7 := { stood := { row := fnIsPathComponentAgreesWithAutomatonRow, standIns := [], harness := (true, "9f5bf2346e4407191a0b79a27f18a36e8164c7e1491b019a935231cf8f6275cc"), looks := false }, kinds := [], alts := [], laidByText := true, laidKinds := [.data, .pinned], laidTests := true, laidLooks := .later }
def FnIsPathComponentAgreesWithAutomatonCardSaid : Prop := Claim7.holds Tryd.pinned (.plain (OpenSpec.ofChange fnIsPathComponentAgreesWithAutomatonSpec)) fnIsPathComponentAgreesWithAutomatonCard

/-- THE TIED CARD OF 'zzlaws_internal_imageref_b1.FnIsPathComponentSplitsAtDot'. -/
def fnIsPathComponentSplitsAtDotCard : Claim7 := { stood := { row := fnIsPathComponentSplitsAtDotRow, standIns := [], harness := (true, "9f5bf2346e4407191a0b79a27f18a36e8164c7e1491b019a935231cf8f6275cc"), looks := false }, kinds := [], alts := [], laidByText := true, laidKinds := [.data, .pinned], laidTests := true, laidLooks := .later }
def FnIsPathComponentSplitsAtDotCardSaid : Prop := Claim7.holds Tryd.pinned (.plain (OpenSpec.ofChange fnIsPathComponentSplitsAtDotSpec)) fnIsPathComponentSplitsAtDotCard

/-- THE TIED CARD OF 'zzlaws_internal_imageref_b1.FnIsAlgorithmAgreesWithIsPathComponentOnLettersAndDots'. -/
def fnIsAlgorithmAgreesWithIsPathComponentOnLettersAndDotsCard : Claim7 := { stood := { row := fnIsAlgorithmAgreesWithIsPathComponentOnLettersAndDotsRow, standIns := [], harness := (true, "9f5bf2346e4407191a0b79a27f18a36e8164c7e1491b019a935231cf8f6275cc"), looks := false }, kinds := [], alts := [], laidByText := true, laidKinds := [.data, .pinned], laidTests := true, laidLooks := .later }
def FnIsAlgorithmAgreesWithIsPathComponentOnLettersAndDotsCardSaid : Prop := Claim7.holds Tryd.pinned (.plain (OpenSpec.ofChange fnIsAlgorithmAgreesWithIsPathComponentOnLettersAndDotsSpec)) fnIsAlgorithmAgreesWithIsPathComponentOnLettersAndDotsCard
end Rows
end Go.Proofs.Qxb6602733aDoor
