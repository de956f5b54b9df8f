/-
  NARROWER THAN 'FOR EVERY INPUT', by the rows' own cells (each row's printed sentence says how): FnPortVerdictIsNonDigitInPort: laid · FnUnbracketedColonHostNeverReports: laid.
  DERIVED. THE GIVEN ROWS OF THIS SEAT. 2 by the template 'for every input the law returns true; each argument reads behind the call as it read before'; 0 by the template 'total and deterministic' (their statements: Qxb6003650aDoorTotals.lean).
  GIVEN WITH THE SEED: the statements are not yours to turn. If you find one false, say at which input.
  Laid BY PROGRAM, IN A SANDBOX (cutbox-rows.mjs): the forced cells as the released guide's own fill.sh prints them over the translation dd671b0e6b67210e… (all of the seat's roots in one cut). By AI agents, Wed Nov 11 2026. No macro, syntax, notation, axiom, sorry.
-/
import Derived.Test.Qxb6003650aDoorChecked
import GoSem.PinnedTables
import GoSem.Claim
import GoSem.ClaimJoined
import GoSem.ClaimMapViews
import Derived.JoinedTies
import Derived.KernelRfl
namespace Go.Proofs.Qxb6003650aDoor
/- THE CELL 'sum', in the pinned program and in every row, IS THE sha256 OF THE DUMP (.gsa) THAT Qxb6003650aDoorProg.lean LOADS. Nothing in Lean hashes anything: it is a label: what it is worth is what the hold of that sum in a sandbox is worth. -/
noncomputable def Tryd.pinned : Pinned := { name := "qxb6003650adoor", sum := "dd671b0e6b67210ef127460913e2f9352aa8f9f7a570c7a1a83e69a42cdf8ff9", checked := Tryd.checked }
namespace Rows
def none {H : Type} : Left H := { results := [], args := [] }

/- WHAT THE LISTED PACKAGE-LEVEL VARIABLES READ AS WHEN THE CALL BEGINS. Each datum BY PROGRAM (the guide's laid-datum.mjs) off the statement by which the dump's own 'gosem.cut.vars' lays the variable. In a bare row this is a premise. The card (Qxb6003650aDoorCards.lean) ties it to the program's text. -/
def laid_unicode_utf8_acceptRanges {H : Type} : DataW H := .agg [.agg [.lit (.int .u8 128), .lit (.int .u8 191)], .agg [.lit (.int .u8 160), .lit (.int .u8 191)], .agg [.lit (.int .u8 128), .lit (.int .u8 159)], .agg [.lit (.int .u8 144), .lit (.int .u8 191)], .agg [.lit (.int .u8 128), .lit (.int .u8 143)], .agg [.lit (.int .u8 0), .lit (.int .u8 0)], .agg [.lit (.int .u8 0), .lit (.int .u8 0)], .agg [.lit (.int .u8 0), .lit (.int .u8 0)], .agg [.lit (.int .u8 0), .lit (.int .u8 0)], .agg [.lit (.int .u8 0), .lit (.int .u8 0)], .agg [.lit (.int .u8 0), .lit (.int .u8 0)], .agg [.lit (.int .u8 0), .lit (.int .u8 0)], .agg [.lit (.int .u8 0), .lit (.int .u8 0)], .agg [.lit (.int .u8 0), .lit (.int .u8 0)], .agg [.lit (.int .u8 0), .lit (.int .u8 0)], .agg [.lit (.int .u8 0), .lit (.int .u8 0)]]
/-- One of Go's own tables, pinned by name: the form's constant. -/
def laid_unicode_utf8_first : DataW Unit := Go.Pinned.utf8First

/-- 'zzlaws_internal_hostport_b1.FnPortVerdictIsNonDigitInPort': WHATEVER THE INPUT: true; the input reads as it did. -/
def fnPortVerdictIsNonDigitInPortSpec : ChangeSpec := { name := "fnPortVerdictIsNonDigitInPort", fn := fun _ => fun
  | [d1, d2, d3, d4] => { results := [.lit (.bool true)], args := [d1, d2, d3, d4] }
  | _ => none }
def fnPortVerdictIsNonDigitInPortRow : OpenClaim := { program := "qxb6003650adoor", sum := "dd671b0e6b67210ef127460913e2f9352aa8f9f7a570c7a1a83e69a42cdf8ff9", func := "example.com/holdfast/holdfast/zzlaws_internal_hostport_b1.FnPortVerdictIsNonDigitInPort", spec := "fnPortVerdictIsNonDigitInPort", inPlace := ["internal/bytealg.IndexByteString", "internal/bytealg.IndexString"], named := ["internal/bytealg.MaxLen", "unicode/utf8.first", "unicode/utf8.acceptRanges"], apart := false, laid := [("unicode/utf8.acceptRanges", laid_unicode_utf8_acceptRanges), ("unicode/utf8.first", laid_unicode_utf8_first)] }
def FnPortVerdictIsNonDigitInPortSaid : Prop := fnPortVerdictIsNonDigitInPortRow.holds Tryd.pinned (OpenSpec.ofChange fnPortVerdictIsNonDigitInPortSpec)

/-- ITS FALSE NEIGHBOUR: 'it returns false'. Refute it at one input. -/
def fnPortVerdictIsNonDigitInPortWrong : ChangeSpec := { name := "fnPortVerdictIsNonDigitInPort", fn := fun _ => fun
  | [d1, d2, d3, d4] => { results := [.lit (.bool false)], args := [d1, d2, d3, d4] }
  | _ => none }
def FnPortVerdictIsNonDigitInPortWrongFalsely : Prop := fnPortVerdictIsNonDigitInPortRow.holds Tryd.pinned (OpenSpec.ofChange fnPortVerdictIsNonDigitInPortWrong)

/-- 'zzlaws_internal_hostport_b1.FnUnbracketedColonHostNeverReports': WHATEVER THE INPUT: true; the input reads as it did. -/
def fnUnbracketedColonHostNeverReportsSpec : ChangeSpec := { name := "fnUnbracketedColonHostNeverReports", fn := fun _ => fun
  | [d1, d2, d3] => { results := [.lit (.bool true)], args := [d1, d2, d3] }
  | _ => none }
def fnUnbracketedColonHostNeverReportsRow : OpenClaim := { program := "qxb6003650adoor", sum := "dd671b0e6b67210ef127460913e2f9352aa8f9f7a570c7a1a83e69a42cdf8ff9", func := "example.com/holdfast/holdfast/zzlaws_internal_hostport_b1.FnUnbracketedColonHostNeverReports", spec := "fnUnbracketedColonHostNeverReports", inPlace := ["internal/bytealg.IndexByteString", "internal/bytealg.IndexString"], named := ["internal/bytealg.MaxLen", "unicode/utf8.first", "unicode/utf8.acceptRanges"], apart := false, laid := [("unicode/utf8.acceptRanges", laid_unicode_utf8_acceptRanges), ("unicode/utf8.first", laid_unicode_utf8_first)] }
def FnUnbracketedColonHostNeverReportsSaid : Prop := fnUnbracketedColonHostNeverReportsRow.holds Tryd.pinned (OpenSpec.ofChange fnUnbracketedColonHostNeverReportsSpec)

/-- ITS FALSE NEIGHBOUR: 'it returns false'. Refute it at one input. -/
def fnUnbracketedColonHostNeverReportsWrong : ChangeSpec := { name := "fnUnbracketedColonHostNeverReports", fn := fun _ => fun
  | [d1, d2, d3] => { results := [.lit (.bool false)], args := [d1, d2, d3] }
  | _ => none }
def FnUnbracketedColonHostNeverReportsWrongFalsely : Prop := fnUnbracketedColonHostNeverReportsRow.holds Tryd.pinned (OpenSpec.ofChange fnUnbracketedColonHostNeverReportsWrong)

end Rows
end Go.Proofs.Qxb6003650aDoor
