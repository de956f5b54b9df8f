/-
  DERIVED. GIVEN WITH THE SEED: THE CARDS: each row of Qxb6615015aDoorRows.lean that lists a variable, with what it lists TIED to the program's text (the seventh form; the later family's looks); each row that meets fmt, with fmt's text TOLD by the authors' own Lean function (tested against real Go, not proved from fmt's source: count such statements apart). THE CARD IS WHAT COUNTS. Prove the row's statement (the work); the ties are given (Qxb6615015aDoorTie.lean); close each card by the builder's one call (the guide's Derived/Test/ToyasCard.lean, 'card_holds'). Laid BY PROGRAM, IN A SANDBOX (cutbox-door.mjs). By AI agents, Wed Nov 11 2026. No macro, syntax, notation, axiom, sorry.
-/
import Derived.Test.Qxb6615015aDoorRows
import GoSem.ClaimSeven
namespace Go.Proofs.Qxb6615015aDoor
namespace Rows

/-- THE TIED CARD OF 'zzlaws_pkg_version_b1.FnAllFlattensAtAnyCut'. -/
def fnAllFlattensAtAnyCutCard : Claim7 := { stood := { row := fnAllFlattensAtAnyCutRow, standIns := [], harness := (true, "85b4c85d883f8415519e450521f7e1f2d16a42323db3c01775cd5916a977ff22"), looks := false }, kinds := [], alts := [], laidByText := true, laidKinds := [.data, .pinned], laidTests := true, laidLooks := .later }
def FnAllFlattensAtAnyCutCardSaid : Prop := Claim7.holds Tryd.pinned (.plain (OpenSpec.ofChange fnAllFlattensAtAnyCutSpec)) fnAllFlattensAtAnyCutCard

/-- THE TIED CARD OF 'zzlaws_pkg_version_b1.FnAllBlankTextKeepsItsConditionsAnyPlace'. -/
def fnAllBlankTextKeepsItsConditionsAnyPlaceCard : Claim7 := { stood := { row := fnAllBlankTextKeepsItsConditionsAnyPlaceRow, standIns := [], harness := (true, "85b4c85d883f8415519e450521f7e1f2d16a42323db3c01775cd5916a977ff22"), looks := false }, kinds := [], alts := [], laidByText := true, laidKinds := [.data, .pinned], laidTests := true, laidLooks := .later }
def FnAllBlankTextKeepsItsConditionsAnyPlaceCardSaid : Prop := Claim7.holds Tryd.pinned (.plain (OpenSpec.ofChange fnAllBlankTextKeepsItsConditionsAnyPlaceSpec)) fnAllBlankTextKeepsItsConditionsAnyPlaceCard
end Rows
end Go.Proofs.Qxb6615015aDoor
