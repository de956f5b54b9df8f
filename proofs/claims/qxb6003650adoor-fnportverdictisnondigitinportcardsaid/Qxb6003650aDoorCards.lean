/-
  DERIVED. GIVEN WITH THE SEED: THE CARDS: each row of Qxb6003650aDoorRows.lean that lists a variable, with what it lists TIED to the program's text (the seventh form; the later family's looks); each row that meets fmt, with fmt's text TOLD by the authors' own Lean function (tested against real Go, not proved from fmt's source: count such statements apart). THE CARD IS WHAT COUNTS. Prove the row's statement (the work); the ties are given (Qxb6003650aDoorTie.lean); close each card by the builder's one call (the guide's Derived/Test/ToyasCard.lean, 'card_holds'). Laid BY PROGRAM, IN A SANDBOX (cutbox-door.mjs). By AI agents, Wed Nov 11 2026. No macro, syntax, notation, axiom, sorry.
-/
import Derived.Test.Qxb6003650aDoorRows
import GoSem.ClaimSeven
namespace Go.Proofs.Qxb6003650aDoor
namespace Rows

/-- THE TIED CARD OF 'zzlaws_internal_hostport_b1.FnPortVerdictIsNonDigitInPort'. -/
def fnPortVerdictIsNonDigitInPortCard : Claim7 := { stood := { row := fnPortVerdictIsNonDigitInPortRow, standIns := [], harness := (true, "2fda58f451f951e2332cf547337c15a4d2e9302906ca6cf6d61ab49bad8c4aa6"), looks := false }, kinds := [], alts := [], laidByText := true, laidKinds := [.data, .pinned], laidTests := true, laidLooks := .later }
def FnPortVerdictIsNonDigitInPortCardSaid : Prop := Claim7.holds Tryd.pinned (.plain (OpenSpec.ofChange fnPortVerdictIsNonDigitInPortSpec)) fnPortVerdictIsNonDigitInPortCard

/-- THE TIED CARD OF 'zzlaws_internal_hostport_b1.FnUnbracketedColonHostNeverReports'. -/
def fnUnbracketedColonHostNeverReportsCard : Claim7 := { stood := { row := fnUnbracketedColonHostNeverReportsRow, standIns := [], harness := (true, "2fda58f451f951e2332cf547337c15a4d2e9302906ca6cf6d61ab49bad8c4aa6"), looks := false }, kinds := [], alts := [], laidByText := true, laidKinds := [.data, .pinned], laidTests := true, laidLooks := .later }
def FnUnbracketedColonHostNeverReportsCardSaid : Prop := Claim7.holds Tryd.pinned (.plain (OpenSpec.ofChange fnUnbracketedColonHostNeverReportsSpec)) fnUnbracketedColonHostNeverReportsCard
end Rows
end Go.Proofs.Qxb6003650aDoor
