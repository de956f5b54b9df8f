/-
  DERIVED. GIVEN WITH THE SEED: THE CARDS: each row of Qxb6003914aDoorRows.lean that lists a variable, with what it lists TIED to the program's text (the seventh form; the later family's looks); each row that meets fmt, with fmt's text TOLD by the authors' own Lean function (tested against real Go, not proved from fmt's source: count such statements apart). THE CARD IS WHAT COUNTS. Prove the row's statement (the work); the ties are given (Qxb6003914aDoorTie.lean); close each card by the builder's one call (the guide's Derived/Test/ToyasCard.lean, 'card_holds'). Laid BY PROGRAM, IN A SANDBOX (cutbox-door.mjs). By AI agents, Wed Nov 11 2026. No macro, syntax, notation, axiom, sorry.
-/
import Derived.Test.Qxb6003914aDoorRows
import GoSem.ClaimSeven
namespace Go.Proofs.Qxb6003914aDoor
namespace Rows

/-- THE TIED CARD OF 'zzlaws_root_g1.FnParseDecimalSpellingsAgree'. -/
def fnParseDecimalSpellingsAgreeCard : Claim7 := { stood := { row := fnParseDecimalSpellingsAgreeRow, standIns := [], harness := (true, "6f9a8d6ac1c0d925e3447f6bb44146a0308313c7810f0efec48be930254bff13"), looks := false }, kinds := [], alts := [], laidByText := true, laidKinds := [.data, .pinned], laidTests := true, laidLooks := .later }
def FnParseDecimalSpellingsAgreeCardSaid : Prop := Claim7.holds Tryd.pinned (.plain (OpenSpec.ofChange fnParseDecimalSpellingsAgreeSpec)) fnParseDecimalSpellingsAgreeCard

/-- THE TIED CARD OF 'zzlaws_root_g1.FnParseDecimalOrdersAsScaledIntegers'. -/
def fnParseDecimalOrdersAsScaledIntegersCard : Claim7 := { stood := { row := fnParseDecimalOrdersAsScaledIntegersRow, standIns := [], harness := (true, "6f9a8d6ac1c0d925e3447f6bb44146a0308313c7810f0efec48be930254bff13"), looks := false }, kinds := [], alts := [], laidByText := true, laidKinds := [.data, .pinned], laidTests := true, laidLooks := .later }
def FnParseDecimalOrdersAsScaledIntegersCardSaid : Prop := Claim7.holds Tryd.pinned (.plain (OpenSpec.ofChange fnParseDecimalOrdersAsScaledIntegersSpec)) fnParseDecimalOrdersAsScaledIntegersCard

/-- THE TIED CARD OF 'zzlaws_root_g1.FnParseDecimalAcceptsExactlyTheGrammar'. -/
def fnParseDecimalAcceptsExactlyTheGrammarCard : Claim7 := { stood := { row := fnParseDecimalAcceptsExactlyTheGrammarRow, standIns := [], harness := (true, "6f9a8d6ac1c0d925e3447f6bb44146a0308313c7810f0efec48be930254bff13"), looks := false }, kinds := [], alts := [], laidByText := true, laidKinds := [.data, .pinned], laidTests := true, laidLooks := .later }
def FnParseDecimalAcceptsExactlyTheGrammarCardSaid : Prop := Claim7.holds Tryd.pinned (.plain (OpenSpec.ofChange fnParseDecimalAcceptsExactlyTheGrammarSpec)) fnParseDecimalAcceptsExactlyTheGrammarCard
end Rows
end Go.Proofs.Qxb6003914aDoor
