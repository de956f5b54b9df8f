/-
  NARROWER THAN 'FOR EVERY INPUT', by the rows' own cells (each row's printed sentence says how): FnParseDecimalSpellingsAgree: laid · FnParseDecimalOrdersAsScaledIntegers: laid · FnParseDecimalAcceptsExactlyTheGrammar: laid.
  DERIVED. THE GIVEN ROWS OF THIS SEAT. 3 by the template 'for every input the law returns true; each argument reads behind the call as it read before'; 0 by the template 'total and deterministic' (their statements: Qxb6003914aDoorTotals.lean).
  GIVEN WITH THE SEED: the statements are not yours to turn. If you find one false, say at which input.
  Laid BY PROGRAM, IN A SANDBOX (cutbox-rows.mjs): the forced cells as the released guide's own fill.sh prints them over the translation d0d1f7ac2ddb5de4… (all of the seat's roots in one cut). By AI agents, Wed Nov 11 2026. No macro, syntax, notation, axiom, sorry.
-/
import Derived.Test.Qxb6003914aDoorChecked
import GoSem.PinnedTables
import GoSem.Claim
import GoSem.ClaimJoined
import GoSem.ClaimMapViews
import Derived.JoinedTies
import Derived.KernelRfl
namespace Go.Proofs.Qxb6003914aDoor
/- THE CELL 'sum', in the pinned program and in every row, IS THE sha256 OF THE DUMP (.gsa) THAT Qxb6003914aDoorProg.lean LOADS. Nothing in Lean hashes anything: it is a label: what it is worth is what the hold of that sum in a sandbox is worth. -/
noncomputable def Tryd.pinned : Pinned := { name := "qxb6003914adoor", sum := "d0d1f7ac2ddb5de47820a069faa1021d13822ff88606865c2f89ad219a0ee947", checked := Tryd.checked }
namespace Rows
def none {H : Type} : Left H := { results := [], args := [] }

/- WHAT THE LISTED PACKAGE-LEVEL VARIABLES READ AS WHEN THE CALL BEGINS. Each datum BY PROGRAM (the guide's laid-datum.mjs) off the statement by which the dump's own 'gosem.cut.vars' lays the variable. In a bare row this is a premise. The card (Qxb6003914aDoorCards.lean) ties it to the program's text. -/
def laid_unicode_utf8_acceptRanges {H : Type} : DataW H := .agg [.agg [.lit (.int .u8 128), .lit (.int .u8 191)], .agg [.lit (.int .u8 160), .lit (.int .u8 191)], .agg [.lit (.int .u8 128), .lit (.int .u8 159)], .agg [.lit (.int .u8 144), .lit (.int .u8 191)], .agg [.lit (.int .u8 128), .lit (.int .u8 143)], .agg [.lit (.int .u8 0), .lit (.int .u8 0)], .agg [.lit (.int .u8 0), .lit (.int .u8 0)], .agg [.lit (.int .u8 0), .lit (.int .u8 0)], .agg [.lit (.int .u8 0), .lit (.int .u8 0)], .agg [.lit (.int .u8 0), .lit (.int .u8 0)], .agg [.lit (.int .u8 0), .lit (.int .u8 0)], .agg [.lit (.int .u8 0), .lit (.int .u8 0)], .agg [.lit (.int .u8 0), .lit (.int .u8 0)], .agg [.lit (.int .u8 0), .lit (.int .u8 0)], .agg [.lit (.int .u8 0), .lit (.int .u8 0)], .agg [.lit (.int .u8 0), .lit (.int .u8 0)]]
/-- One of Go's own tables, pinned by name: the form's constant. -/
def laid_unicode_utf8_first : DataW Unit := Go.Pinned.utf8First

/-- 'zzlaws_root_g1.FnParseDecimalSpellingsAgree': WHATEVER THE INPUT: true; the input reads as it did. -/
def fnParseDecimalSpellingsAgreeSpec : ChangeSpec := { name := "fnParseDecimalSpellingsAgree", fn := fun _ => fun
  | [d1, d2, d3, d4, d5, d6] => { results := [.lit (.bool true)], args := [d1, d2, d3, d4, d5, d6] }
  | _ => none }
def fnParseDecimalSpellingsAgreeRow : OpenClaim := { program := "qxb6003914adoor", sum := "d0d1f7ac2ddb5de47820a069faa1021d13822ff88606865c2f89ad219a0ee947", func := "example.com/fieldsieve/fieldsieve/zzlaws_root_g1.FnParseDecimalSpellingsAgree", spec := "fnParseDecimalSpellingsAgree", inPlace := ["internal/bytealg.IndexByteString", "internal/bytealg.IndexString"], named := ["unicode/utf8.first", "unicode/utf8.acceptRanges", "internal/bytealg.MaxLen"], apart := false, laid := [("unicode/utf8.acceptRanges", laid_unicode_utf8_acceptRanges), ("unicode/utf8.first", laid_unicode_utf8_first)] }
def FnParseDecimalSpellingsAgreeSaid : Prop := fnParseDecimalSpellingsAgreeRow.holds Tryd.pinned (OpenSpec.ofChange fnParseDecimalSpellingsAgreeSpec)

/-- ITS FALSE NEIGHBOUR: 'it returns false'. Refute it at one input. -/
def fnParseDecimalSpellingsAgreeWrong : ChangeSpec := { name := "fnParseDecimalSpellingsAgree", fn := fun _ => fun
  | [d1, d2, d3, d4, d5, d6] => { results := [.lit (.bool false)], args := [d1, d2, d3, d4, d5, d6] }
  | _ => none }
def FnParseDecimalSpellingsAgreeWrongFalsely : Prop := fnParseDecimalSpellingsAgreeRow.holds Tryd.pinned (OpenSpec.ofChange fnParseDecimalSpellingsAgreeWrong)

/-- 'zzlaws_root_g1.FnParseDecimalOrdersAsScaledIntegers': WHATEVER THE INPUT: true; the input reads as it did. -/
def fnParseDecimalOrdersAsScaledIntegersSpec : ChangeSpec := { name := "fnParseDecimalOrdersAsScaledIntegers", fn := fun _ => fun
  | [d1, d2, d3, d4] => { results := [.lit (.bool true)], args := [d1, d2, d3, d4] }
  | _ => none }
def fnParseDecimalOrdersAsScaledIntegersRow : OpenClaim := { program := "qxb6003914adoor", sum := "d0d1f7ac2ddb5de47820a069faa1021d13822ff88606865c2f89ad219a0ee947", func := "example.com/fieldsieve/fieldsieve/zzlaws_root_g1.FnParseDecimalOrdersAsScaledIntegers", spec := "fnParseDecimalOrdersAsScaledIntegers", inPlace := ["internal/bytealg.IndexByteString", "internal/bytealg.IndexString"], named := ["unicode/utf8.first", "unicode/utf8.acceptRanges", "internal/bytealg.MaxLen"], apart := false, laid := [("unicode/utf8.acceptRanges", laid_unicode_utf8_acceptRanges), ("unicode/utf8.first", laid_unicode_utf8_first)] }
def FnParseDecimalOrdersAsScaledIntegersSaid : Prop := fnParseDecimalOrdersAsScaledIntegersRow.holds Tryd.pinned (OpenSpec.ofChange fnParseDecimalOrdersAsScaledIntegersSpec)

/-- ITS FALSE NEIGHBOUR: 'it returns false'. Refute it at one input. -/
def fnParseDecimalOrdersAsScaledIntegersWrong : ChangeSpec := { name := "fnParseDecimalOrdersAsScaledIntegers", fn := fun _ => fun
  | [d1, d2, d3, d4] => { results := [.lit (.bool false)], args := [d1, d2, d3, d4] }
  | _ => none }
def FnParseDecimalOrdersAsScaledIntegersWrongFalsely : Prop := fnParseDecimalOrdersAsScaledIntegersRow.holds Tryd.pinned (OpenSpec.ofChange fnParseDecimalOrdersAsScaledIntegersWrong)

/-- 'zzlaws_root_g1.FnParseDecimalAcceptsExactlyTheGrammar': WHATEVER THE INPUT: true; the input reads as it did. -/
def fnParseDecimalAcceptsExactlyTheGrammarSpec : ChangeSpec := { name := "fnParseDecimalAcceptsExactlyTheGrammar", fn := fun _ => fun
  | [d] => { results := [.lit (.bool true)], args := [d] }
  | _ => none }
def fnParseDecimalAcceptsExactlyTheGrammarRow : OpenClaim := { program := "qxb6003914adoor", sum := "d0d1f7ac2ddb5de47820a069faa1021d13822ff88606865c2f89ad219a0ee947", func := "example.com/fieldsieve/fieldsieve/zzlaws_root_g1.FnParseDecimalAcceptsExactlyTheGrammar", spec := "fnParseDecimalAcceptsExactlyTheGrammar", inPlace := ["internal/bytealg.IndexByteString", "internal/bytealg.IndexString"], named := ["unicode/utf8.first", "unicode/utf8.acceptRanges", "internal/bytealg.MaxLen"], apart := false, laid := [("unicode/utf8.acceptRanges", laid_unicode_utf8_acceptRanges), ("unicode/utf8.first", laid_unicode_utf8_first)] }
def FnParseDecimalAcceptsExactlyTheGrammarSaid : Prop := fnParseDecimalAcceptsExactlyTheGrammarRow.holds Tryd.pinned (OpenSpec.ofChange fnParseDecimalAcceptsExactlyTheGrammarSpec)

/-- ITS FALSE NEIGHBOUR: 'it returns false'. Refute it at one input. -/
def fnParseDecimalAcceptsExactlyTheGrammarWrong : ChangeSpec := { name := "fnParseDecimalAcceptsExactlyTheGrammar", fn := fun _ => fun
  | [d] => { results := [.lit (.bool false)], args := [d] }
  | _ => none }
def FnParseDecimalAcceptsExactlyTheGrammarWrongFalsely : Prop := fnParseDecimalAcceptsExactlyTheGrammarRow.holds Tryd.pinned (OpenSpec.ofChange fnParseDecimalAcceptsExactlyTheGrammarWrong)

end Rows
end Go.Proofs.Qxb6003914aDoor
