/-
  NARROWER THAN 'FOR EVERY INPUT', by the rows' own cells (each row's printed sentence says how): FnAllFlattensAtAnyCut: laid · FnAllBlankTextKeepsItsConditionsAnyPlace: laid.
  DERIVED. THE GIVEN ROWS OF THIS SEAT. 2 by the template 'for every input the law returns true; each argument reads behind the call as it read before'; 0 by the template 'total and deterministic' (their statements: Qxb6615015aDoorTotals.lean).
  GIVEN WITH THE SEED: the statements are not yours to turn. If you find one false, say at which input.
  Laid BY PROGRAM, IN A SANDBOX (cutbox-rows.mjs): the forced cells as the released guide's own fill.sh prints them over the translation f4cdbf677e0b7979… (all of the seat's roots in one cut). By AI agents, Wed Nov 11 2026. No macro, syntax, notation, axiom, sorry.
-/
import Derived.Test.Qxb6615015aDoorChecked
import GoSem.PinnedTables
import GoSem.Claim
import GoSem.ClaimJoined
import GoSem.ClaimMapViews
import Derived.JoinedTies
import Derived.KernelRfl
namespace Go.Proofs.Qxb6615015aDoor
/- THE CELL 'sum', in the pinned program and in every row, IS THE sha256 OF THE DUMP (.gsa) THAT Qxb6615015aDoorProg.lean LOADS. Nothing in Lean hashes anything: it is a label: what it is worth is what the hold of that sum in a sandbox is worth. -/
noncomputable def Tryd.pinned : Pinned := { name := "qxb6615015adoor", sum := "f4cdbf677e0b797953cd74607d9e083d7c037b5f44e362ea41c08ab37a18aa04", checked := Tryd.checked }
namespace Rows
def none {H : Type} : Left H := { results := [], args := [] }

/- WHAT THE LISTED PACKAGE-LEVEL VARIABLES READ AS WHEN THE CALL BEGINS. Each datum BY PROGRAM (the guide's laid-datum.mjs) off the statement by which the dump's own 'gosem.cut.vars' lays the variable. In a bare row this is a premise. The card (Qxb6615015aDoorCards.lean) ties it to the program's text. -/
def laid_unicode_utf8_acceptRanges {H : Type} : DataW H := .agg [.agg [.lit (.int .u8 128), .lit (.int .u8 191)], .agg [.lit (.int .u8 160), .lit (.int .u8 191)], .agg [.lit (.int .u8 128), .lit (.int .u8 159)], .agg [.lit (.int .u8 144), .lit (.int .u8 191)], .agg [.lit (.int .u8 128), .lit (.int .u8 143)], .agg [.lit (.int .u8 0), .lit (.int .u8 0)], .agg [.lit (.int .u8 0), .lit (.int .u8 0)], .agg [.lit (.int .u8 0), .lit (.int .u8 0)], .agg [.lit (.int .u8 0), .lit (.int .u8 0)], .agg [.lit (.int .u8 0), .lit (.int .u8 0)], .agg [.lit (.int .u8 0), .lit (.int .u8 0)], .agg [.lit (.int .u8 0), .lit (.int .u8 0)], .agg [.lit (.int .u8 0), .lit (.int .u8 0)], .agg [.lit (.int .u8 0), .lit (.int .u8 0)], .agg [.lit (.int .u8 0), .lit (.int .u8 0)], .agg [.lit (.int .u8 0), .lit (.int .u8 0)]]
/-- One of Go's own tables, pinned by name: the form's constant. -/
def laid_unicode_utf8_first : DataW Unit := Go.Pinned.utf8First

/-- 'zzlaws_pkg_version_b1.FnAllFlattensAtAnyCut': WHATEVER THE INPUT: true; the input reads as it did. -/
def fnAllFlattensAtAnyCutSpec : ChangeSpec := { name := "fnAllFlattensAtAnyCut", fn := fun _ => fun
  | [d1, d2] => { results := [.lit (.bool true)], args := [d1, d2] }
  | _ => none }
def fnAllFlattensAtAnyCutRow : OpenClaim := { program := "qxb6615015adoor", sum := "f4cdbf677e0b797953cd74607d9e083d7c037b5f44e362ea41c08ab37a18aa04", func := "example.com/provender/provender/zzlaws_pkg_version_b1.FnAllFlattensAtAnyCut", spec := "fnAllFlattensAtAnyCut", inPlace := ["internal/bytealg.IndexByteString", "internal/bytealg.IndexString", "internal/abi.NoEscape", "internal/bytealg.MakeNoZero"], named := ["unicode/utf8.first", "unicode/utf8.acceptRanges", "internal/bytealg.MaxLen"], apart := false, laid := [("unicode/utf8.acceptRanges", laid_unicode_utf8_acceptRanges), ("unicode/utf8.first", laid_unicode_utf8_first)] }
def FnAllFlattensAtAnyCutSaid : Prop := fnAllFlattensAtAnyCutRow.holds Tryd.pinned (OpenSpec.ofChange fnAllFlattensAtAnyCutSpec)

/-- ITS FALSE NEIGHBOUR: 'it returns false'. Refute it at one input. -/
def fnAllFlattensAtAnyCutWrong : ChangeSpec := { name := "fnAllFlattensAtAnyCut", fn := fun _ => fun
  | [d1, d2] => { results := [.lit (.bool false)], args := [d1, d2] }
  | _ => none }
def FnAllFlattensAtAnyCutWrongFalsely : Prop := fnAllFlattensAtAnyCutRow.holds Tryd.pinned (OpenSpec.ofChange fnAllFlattensAtAnyCutWrong)

/-- 'zzlaws_pkg_version_b1.FnAllBlankTextKeepsItsConditionsAnyPlace': WHATEVER THE INPUT: true; the input reads as it did. -/
def fnAllBlankTextKeepsItsConditionsAnyPlaceSpec : ChangeSpec := { name := "fnAllBlankTextKeepsItsConditionsAnyPlace", fn := fun _ => fun
  | [d1, d2, d3] => { results := [.lit (.bool true)], args := [d1, d2, d3] }
  | _ => none }
def fnAllBlankTextKeepsItsConditionsAnyPlaceRow : OpenClaim := { program := "qxb6615015adoor", sum := "f4cdbf677e0b797953cd74607d9e083d7c037b5f44e362ea41c08ab37a18aa04", func := "example.com/provender/provender/zzlaws_pkg_version_b1.FnAllBlankTextKeepsItsConditionsAnyPlace", spec := "fnAllBlankTextKeepsItsConditionsAnyPlace", inPlace := ["internal/bytealg.IndexByteString", "internal/bytealg.IndexString", "internal/abi.NoEscape", "internal/bytealg.MakeNoZero"], named := ["unicode/utf8.first", "unicode/utf8.acceptRanges", "internal/bytealg.MaxLen"], apart := false, laid := [("unicode/utf8.acceptRanges", laid_unicode_utf8_acceptRanges), ("unicode/utf8.first", laid_unicode_utf8_first)] }
def FnAllBlankTextKeepsItsConditionsAnyPlaceSaid : Prop := fnAllBlankTextKeepsItsConditionsAnyPlaceRow.holds Tryd.pinned (OpenSpec.ofChange fnAllBlankTextKeepsItsConditionsAnyPlaceSpec)

/-- ITS FALSE NEIGHBOUR: 'it returns false'. Refute it at one input. -/
def fnAllBlankTextKeepsItsConditionsAnyPlaceWrong : ChangeSpec := { name := "fnAllBlankTextKeepsItsConditionsAnyPlace", fn := fun _ => fun
  | [d1, d2, d3] => { results := [.lit (.bool false)], args := [d1, d2, d3] }
  | _ => none }
def FnAllBlankTextKeepsItsConditionsAnyPlaceWrongFalsely : Prop := fnAllBlankTextKeepsItsConditionsAnyPlaceRow.holds Tryd.pinned (OpenSpec.ofChange fnAllBlankTextKeepsItsConditionsAnyPlaceWrong)

end Rows
end Go.Proofs.Qxb6615015aDoor
