/-
  DERIVED. GIVEN WITH THE SEED: THE CARDS: each row of Qxb6614453aFmtRows.lean that lists a variable, with what it lists TIED to the program's text (the seventh form; the later family's looks); each row that meets fmt, with fmt's text TOLD by the authors' own Lean function (tested against real Go, not proved from fmt's source: count such statements apart). THE CARD IS WHAT COUNTS. Prove the row's statement (the work); the ties are given (Qxb6614453aFmtTie.lean); close each card by the builder's one call (the guide's Derived/Test/ToyasCard.lean, 'card_holds'). Laid BY PROGRAM, IN A SANDBOX (cutbox-door.mjs). By AI agents, Wed Nov 11 2026. No macro, syntax, notation, axiom, sorry.
-/
import Derived.Test.Qxb6614453aFmtRows
import GoSem.ClaimSeven
namespace Go.Proofs.Qxb6614453aFmt
namespace Rows

/-- THE TOLD CARD OF 'zzlaws_internal_script_b1.FnReleasedLineCountReadsBack'. -/
def fnReleasedLineCountReadsBackCard : Claim7 := { stood := { row := fnReleasedLineCountReadsBackRow, standIns := [], harness := (true, "09fc5f01206a38ab1a612fbf56a9e336805fe1cde9dfc0f6f2b188da5bba5314"), looks := true }, told := true, goes := false }
def FnReleasedLineCountReadsBackToldSaid : Prop := Claim7.holds Tryf.pinned (.plain (OpenSpec.ofChange fnReleasedLineCountReadsBackSpec)) fnReleasedLineCountReadsBackCard
/-- ITS FALSE NEIGHBOUR. Refute it at one input. -/
def FnReleasedLineCountReadsBackToldWrongFalsely : Prop := Claim7.holds Tryf.pinned (.plain (OpenSpec.ofChange fnReleasedLineCountReadsBackWrong)) fnReleasedLineCountReadsBackCard

/-- THE TOLD AND TIED CARD OF 'zzlaws_internal_script_b1.FnCutBoundPrefixFree'. -/
def fnCutBoundPrefixFreeCard : Claim7 := { stood := { row := fnCutBoundPrefixFreeRow, standIns := [], harness := (true, "09fc5f01206a38ab1a612fbf56a9e336805fe1cde9dfc0f6f2b188da5bba5314"), looks := true }, told := true, laidByText := true, laidKinds := [.data, .data, .data, .data, .sentinel, .sentinel, .pinned], laidTests := true, laidLooks := .later, goes := false }
def FnCutBoundPrefixFreeToldSaid : Prop := Claim7.holds Tryf.pinned (.plain (OpenSpec.ofChange fnCutBoundPrefixFreeSpec)) fnCutBoundPrefixFreeCard
/-- ITS FALSE NEIGHBOUR. Refute it at one input. -/
def FnCutBoundPrefixFreeToldWrongFalsely : Prop := Claim7.holds Tryf.pinned (.plain (OpenSpec.ofChange fnCutBoundPrefixFreeWrong)) fnCutBoundPrefixFreeCard

/-- THE TOLD AND TIED CARD OF 'zzlaws_internal_script_b1.FnCutBoundLastField'. -/
def fnCutBoundLastFieldCard : Claim7 := { stood := { row := fnCutBoundLastFieldRow, standIns := [], harness := (true, "09fc5f01206a38ab1a612fbf56a9e336805fe1cde9dfc0f6f2b188da5bba5314"), looks := true }, told := true, laidByText := true, laidKinds := [.data, .data, .data, .data, .sentinel, .sentinel, .pinned], laidTests := true, laidLooks := .later, goes := false }
def FnCutBoundLastFieldToldSaid : Prop := Claim7.holds Tryf.pinned (.plain (OpenSpec.ofChange fnCutBoundLastFieldSpec)) fnCutBoundLastFieldCard
/-- ITS FALSE NEIGHBOUR. Refute it at one input. -/
def FnCutBoundLastFieldToldWrongFalsely : Prop := Claim7.holds Tryf.pinned (.plain (OpenSpec.ofChange fnCutBoundLastFieldWrong)) fnCutBoundLastFieldCard
end Rows
end Go.Proofs.Qxb6614453aFmt
