/-
  NARROWER THAN 'FOR EVERY INPUT', by the rows' own cells (each row's printed sentence says how): FnIsPathComponentAgreesWithAutomaton: laid · FnIsPathComponentSplitsAtDot: laid · FnIsAlgorithmAgreesWithIsPathComponentOnLettersAndDots: laid.
  DERIVED. THE GIVEN ROWS OF THIS SEAT. 3 by the template 'for every input the law returns true; each argument reads behind the call as it read before'; 0 by the template 'total and deterministic' (their statements: Qxb6602733aDoorTotals.lean).
  GIVEN WITH THE SEED: the statements are not yours to turn. If you find one false, say at which input.
  Laid BY PROGRAM, IN A SANDBOX (cutbox-rows.mjs): the forced cells as the released guide's own fill.sh prints them over the translation 0d362b016a9d10a8… (all of the seat's roots in one cut). By AI agents, Wed Nov 11 2026. No macro, syntax, notation, axiom, sorry.
-/
import Derived.Test.Qxb6602733aDoorChecked
import GoSem.PinnedTables
import GoSem.Claim
import GoSem.ClaimJoined
import GoSem.ClaimMapViews
import Derived.JoinedTies
import Derived.KernelRfl
namespace Go.Proofs.Qxb6602733aDoor
/- THE CELL 'sum', in the pinned program and in every row, IS THE sha256 OF THE DUMP (.gsa) THAT Qxb6602733aDoorProg.lean LOADS. Nothing in Lean hashes anything: it is a label: what it is worth is what the hold of that sum in a sandbox is worth. -/
noncomputable def Tryd.pinned : Pinned := { name := "qxb6602733adoor", sum := "0d362b016a9d10a8eb3a2027bb8a03f172b593734f90874c383ff1193a48153c", checked := Tryd.checked }
namespace Rows
def none {H : Type} : Left H := { results := [], args := [] }

/- WHAT THE LISTED PACKAGE-LEVEL VARIABLES READ AS WHEN THE CALL BEGINS. Each datum BY PROGRAM (the guide's laid-datum.mjs) off the statement by which the dump's own 'gosem.cut.vars' lays the variable. In a bare row this is a premise. The card (Qxb6602733aDoorCards.lean) ties it to the program's text. -/
def laid_unicode_utf8_acceptRanges {H : Type} : DataW H := .agg [.agg [.lit (.int .u8 128), .lit (.int .u8 191)], .agg [.lit (.int .u8 160), .lit (.int .u8 191)], .agg [.lit (.int .u8 128), .lit (.int .u8 159)], .agg [.lit (.int .u8 144), .lit (.int .u8 191)], .agg [.lit (.int .u8 128), .lit (.int .u8 143)], .agg [.lit (.int .u8 0), .lit (.int .u8 0)], .agg [.lit (.int .u8 0), .lit (.int .u8 0)], .agg [.lit (.int .u8 0), .lit (.int .u8 0)], .agg [.lit (.int .u8 0), .lit (.int .u8 0)], .agg [.lit (.int .u8 0), .lit (.int .u8 0)], .agg [.lit (.int .u8 0), .lit (.int .u8 0)], .agg [.lit (.int .u8 0), .lit (.int .u8 0)], .agg [.lit (.int .u8 0), .lit (.int .u8 0)], .agg [.lit (.int .u8 0), .lit (.int .u8 0)], .agg [.lit (.int .u8 0), .lit (.int .u8 0)], .agg [.lit (.int .u8 0), .lit (.int .u8 0)]]
/-- One of Go's own tables, pinned by name: the form's constant. -/
def laid_unicode_utf8_first : DataW Unit := Go.Pinned.utf8First

/-- 'zzlaws_internal_imageref_b1.FnIsPathComponentAgreesWithAutomaton': WHATEVER THE INPUT: true; the input reads as it did. -/
def fnIsPathComponentAgreesWithAutomatonSpec : ChangeSpec := { name := "fnIsPathComponentAgreesWithAutomaton", fn := fun _ => fun
  | [d] => { results := [.lit (.bool true)], args := [d] }
  | _ => none }
def fnIsPathComponentAgreesWithAutomatonRow : OpenClaim := { program := "qxb6602733adoor", sum := "0d362b016a9d10a8eb3a2027bb8a03f172b593734f90874c383ff1193a48153c", func := "example.com/admission-patch-policies/admission-patch-policies/zzlaws_internal_imageref_b1.FnIsPathComponentAgreesWithAutomaton", spec := "fnIsPathComponentAgreesWithAutomaton", inPlace := ["internal/bytealg.IndexByteString", "internal/bytealg.IndexString"], named := ["unicode/utf8.first", "unicode/utf8.acceptRanges", "internal/bytealg.MaxLen"], apart := false, laid := [("unicode/utf8.acceptRanges", laid_unicode_utf8_acceptRanges), ("unicode/utf8.first", laid_unicode_utf8_first)] }
def FnIsPathComponentAgreesWithAutomatonSaid : Prop := fnIsPathComponentAgreesWithAutomatonRow.holds Tryd.pinned (OpenSpec.ofChange fnIsPathComponentAgreesWithAutomatonSpec)

/-- ITS FALSE NEIGHBOUR: 'it returns false'. Refute it at one input. -/
def fnIsPathComponentAgreesWithAutomatonWrong : ChangeSpec := { name := "fnIsPathComponentAgreesWithAutomaton", fn := fun _ => fun
  | [d] => { results := [.lit (.bool false)], args := [d] }
  | _ => none }
def FnIsPathComponentAgreesWithAutomatonWrongFalsely : Prop := fnIsPathComponentAgreesWithAutomatonRow.holds Tryd.pinned (OpenSpec.ofChange fnIsPathComponentAgreesWithAutomatonWrong)

/-- 'zzlaws_internal_imageref_b1.FnIsPathComponentSplitsAtDot': WHATEVER THE INPUT: true; the input reads as it did. -/
def fnIsPathComponentSplitsAtDotSpec : ChangeSpec := { name := "fnIsPathComponentSplitsAtDot", fn := fun _ => fun
  | [d1, d2] => { results := [.lit (.bool true)], args := [d1, d2] }
  | _ => none }
def fnIsPathComponentSplitsAtDotRow : OpenClaim := { program := "qxb6602733adoor", sum := "0d362b016a9d10a8eb3a2027bb8a03f172b593734f90874c383ff1193a48153c", func := "example.com/admission-patch-policies/admission-patch-policies/zzlaws_internal_imageref_b1.FnIsPathComponentSplitsAtDot", spec := "fnIsPathComponentSplitsAtDot", inPlace := ["internal/bytealg.IndexByteString", "internal/bytealg.IndexString"], named := ["unicode/utf8.first", "unicode/utf8.acceptRanges", "internal/bytealg.MaxLen"], apart := false, laid := [("unicode/utf8.acceptRanges", laid_unicode_utf8_acceptRanges), ("unicode/utf8.first", laid_unicode_utf8_first)] }
def FnIsPathComponentSplitsAtDotSaid : Prop := fnIsPathComponentSplitsAtDotRow.holds Tryd.pinned (OpenSpec.ofChange fnIsPathComponentSplitsAtDotSpec)

/-- ITS FALSE NEIGHBOUR: 'it returns false'. Refute it at one input. -/
def fnIsPathComponentSplitsAtDotWrong : ChangeSpec := { name := "fnIsPathComponentSplitsAtDot", fn := fun _ => fun
  | [d1, d2] => { results := [.lit (.bool false)], args := [d1, d2] }
  | _ => none }
def FnIsPathComponentSplitsAtDotWrongFalsely : Prop := fnIsPathComponentSplitsAtDotRow.holds Tryd.pinned (OpenSpec.ofChange fnIsPathComponentSplitsAtDotWrong)

/-- 'zzlaws_internal_imageref_b1.FnIsAlgorithmAgreesWithIsPathComponentOnLettersAndDots': WHATEVER THE INPUT: true; the input reads as it did. -/
def fnIsAlgorithmAgreesWithIsPathComponentOnLettersAndDotsSpec : ChangeSpec := { name := "fnIsAlgorithmAgreesWithIsPathComponentOnLettersAndDots", fn := fun _ => fun
  | [d] => { results := [.lit (.bool true)], args := [d] }
  | _ => none }
def fnIsAlgorithmAgreesWithIsPathComponentOnLettersAndDotsRow : OpenClaim := { program := "qxb6602733adoor", sum := "0d362b016a9d10a8eb3a2027bb8a03f172b593734f90874c383ff1193a48153c", func := "example.com/admission-patch-policies/admission-patch-policies/zzlaws_internal_imageref_b1.FnIsAlgorithmAgreesWithIsPathComponentOnLettersAndDots", spec := "fnIsAlgorithmAgreesWithIsPathComponentOnLettersAndDots", inPlace := ["internal/bytealg.IndexByteString", "internal/bytealg.IndexString"], named := ["unicode/utf8.first", "unicode/utf8.acceptRanges", "internal/bytealg.MaxLen"], apart := false, laid := [("unicode/utf8.acceptRanges", laid_unicode_utf8_acceptRanges), ("unicode/utf8.first", laid_unicode_utf8_first)] }
def FnIsAlgorithmAgreesWithIsPathComponentOnLettersAndDotsSaid : Prop := fnIsAlgorithmAgreesWithIsPathComponentOnLettersAndDotsRow.holds Tryd.pinned (OpenSpec.ofChange fnIsAlgorithmAgreesWithIsPathComponentOnLettersAndDotsSpec)

/-- ITS FALSE NEIGHBOUR: 'it returns false'. Refute it at one input. -/
def fnIsAlgorithmAgreesWithIsPathComponentOnLettersAndDotsWrong : ChangeSpec := { name := "fnIsAlgorithmAgreesWithIsPathComponentOnLettersAndDots", fn := fun _ => fun
  | [d] => { results := [.lit (.bool false)], args := [d] }
  | _ => none }
def FnIsAlgorithmAgreesWithIsPathComponentOnLettersAndDotsWrongFalsely : Prop := fnIsAlgorithmAgreesWithIsPathComponentOnLettersAndDotsRow.holds Tryd.pinned (OpenSpec.ofChange fnIsAlgorithmAgreesWithIsPathComponentOnLettersAndDotsWrong)

end Rows
end Go.Proofs.Qxb6602733aDoor
