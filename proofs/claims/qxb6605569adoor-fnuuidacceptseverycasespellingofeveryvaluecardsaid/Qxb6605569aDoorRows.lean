/-
  NARROWER THAN 'FOR EVERY INPUT', by the rows' own cells (each row's printed sentence says how): FnUUIDMatchesGroupModel: laid · FnUUIDAcceptsEveryCaseSpellingOfEveryValue: laid.
  DERIVED. THE GIVEN ROWS OF THIS SEAT. 2 by the template 'for every input the law returns true; each argument reads behind the call as it read before'; 0 by the template 'total and deterministic' (their statements: Qxb6605569aDoorTotals.lean).
  GIVEN WITH THE SEED: the statements are not yours to turn. If you find one false, say at which input.
  Laid BY PROGRAM, IN A SANDBOX (cutbox-rows.mjs): the forced cells as the released guide's own fill.sh prints them over the translation 6bccd78abf2d7090… (all of the seat's roots in one cut). By AI agents, Wed Nov 11 2026. No macro, syntax, notation, axiom, sorry.
-/
import Derived.Test.Qxb6605569aDoorChecked
import GoSem.PinnedTables
import GoSem.Claim
import GoSem.ClaimJoined
import GoSem.ClaimMapViews
import Derived.JoinedTies
import Derived.KernelRfl
namespace Go.Proofs.Qxb6605569aDoor
/- THE CELL 'sum', in the pinned program and in every row, IS THE sha256 OF THE DUMP (.gsa) THAT Qxb6605569aDoorProg.lean LOADS. Nothing in Lean hashes anything: it is a label: what it is worth is what the hold of that sum in a sandbox is worth. -/
noncomputable def Tryd.pinned : Pinned := { name := "qxb6605569adoor", sum := "6bccd78abf2d7090d5049c30f05e2f1c12d0f893a1927b4e9981cc3e2e53c8e3", checked := Tryd.checked }
namespace Rows
def none {H : Type} : Left H := { results := [], args := [] }

/- WHAT THE LISTED PACKAGE-LEVEL VARIABLES READ AS WHEN THE CALL BEGINS. Each datum BY PROGRAM (the guide's laid-datum.mjs) off the statement by which the dump's own 'gosem.cut.vars' lays the variable. In a bare row this is a premise. The card (Qxb6605569aDoorCards.lean) ties it to the program's text. -/
def laid_unicode_utf8_acceptRanges {H : Type} : DataW H := .agg [.agg [.lit (.int .u8 128), .lit (.int .u8 191)], .agg [.lit (.int .u8 160), .lit (.int .u8 191)], .agg [.lit (.int .u8 128), .lit (.int .u8 159)], .agg [.lit (.int .u8 144), .lit (.int .u8 191)], .agg [.lit (.int .u8 128), .lit (.int .u8 143)], .agg [.lit (.int .u8 0), .lit (.int .u8 0)], .agg [.lit (.int .u8 0), .lit (.int .u8 0)], .agg [.lit (.int .u8 0), .lit (.int .u8 0)], .agg [.lit (.int .u8 0), .lit (.int .u8 0)], .agg [.lit (.int .u8 0), .lit (.int .u8 0)], .agg [.lit (.int .u8 0), .lit (.int .u8 0)], .agg [.lit (.int .u8 0), .lit (.int .u8 0)], .agg [.lit (.int .u8 0), .lit (.int .u8 0)], .agg [.lit (.int .u8 0), .lit (.int .u8 0)], .agg [.lit (.int .u8 0), .lit (.int .u8 0)], .agg [.lit (.int .u8 0), .lit (.int .u8 0)]]
/-- One of Go's own tables, pinned by name: the form's constant. -/
def laid_unicode_CaseRanges : DataW Unit := Go.Pinned.caseRanges
/-- One of Go's own tables, pinned by name: the form's constant. -/
def laid_unicode_utf8_first : DataW Unit := Go.Pinned.utf8First

/-- 'zzlaws_internal_parse_b1.FnUUIDMatchesGroupModel': WHATEVER THE INPUT: true; the input reads as it did. -/
def fnUUIDMatchesGroupModelSpec : ChangeSpec := { name := "fnUUIDMatchesGroupModel", fn := fun _ => fun
  | [d] => { results := [.lit (.bool true)], args := [d] }
  | _ => none }
def fnUUIDMatchesGroupModelRow : OpenClaim := { program := "qxb6605569adoor", sum := "6bccd78abf2d7090d5049c30f05e2f1c12d0f893a1927b4e9981cc3e2e53c8e3", func := "example.com/kapu/kapu/zzlaws_internal_parse_b1.FnUUIDMatchesGroupModel", spec := "fnUUIDMatchesGroupModel", inPlace := ["internal/abi.NoEscape", "internal/bytealg.MakeNoZero"], unfollowed := true, recurses := true, named := ["unicode/utf8.first", "unicode/utf8.acceptRanges", "unicode.CaseRanges"], apart := false, laid := [("unicode/utf8.acceptRanges", laid_unicode_utf8_acceptRanges), ("unicode.CaseRanges", laid_unicode_CaseRanges), ("unicode/utf8.first", laid_unicode_utf8_first)] }
def FnUUIDMatchesGroupModelSaid : Prop := fnUUIDMatchesGroupModelRow.holds Tryd.pinned (OpenSpec.ofChange fnUUIDMatchesGroupModelSpec)

/-- ITS FALSE NEIGHBOUR: 'it returns false'. Refute it at one input. -/
def fnUUIDMatchesGroupModelWrong : ChangeSpec := { name := "fnUUIDMatchesGroupModel", fn := fun _ => fun
  | [d] => { results := [.lit (.bool false)], args := [d] }
  | _ => none }
def FnUUIDMatchesGroupModelWrongFalsely : Prop := fnUUIDMatchesGroupModelRow.holds Tryd.pinned (OpenSpec.ofChange fnUUIDMatchesGroupModelWrong)

/-- 'zzlaws_internal_parse_b1.FnUUIDAcceptsEveryCaseSpellingOfEveryValue': WHATEVER THE INPUT: true; the input reads as it did. -/
def fnUUIDAcceptsEveryCaseSpellingOfEveryValueSpec : ChangeSpec := { name := "fnUUIDAcceptsEveryCaseSpellingOfEveryValue", fn := fun _ => fun
  | [d1, d2] => { results := [.lit (.bool true)], args := [d1, d2] }
  | _ => none }
def fnUUIDAcceptsEveryCaseSpellingOfEveryValueRow : OpenClaim := { program := "qxb6605569adoor", sum := "6bccd78abf2d7090d5049c30f05e2f1c12d0f893a1927b4e9981cc3e2e53c8e3", func := "example.com/kapu/kapu/zzlaws_internal_parse_b1.FnUUIDAcceptsEveryCaseSpellingOfEveryValue", spec := "fnUUIDAcceptsEveryCaseSpellingOfEveryValue", inPlace := ["internal/abi.NoEscape", "internal/bytealg.MakeNoZero"], unfollowed := true, recurses := true, named := ["unicode/utf8.first", "unicode/utf8.acceptRanges", "unicode.CaseRanges"], apart := false, laid := [("unicode/utf8.acceptRanges", laid_unicode_utf8_acceptRanges), ("unicode.CaseRanges", laid_unicode_CaseRanges), ("unicode/utf8.first", laid_unicode_utf8_first)] }
def FnUUIDAcceptsEveryCaseSpellingOfEveryValueSaid : Prop := fnUUIDAcceptsEveryCaseSpellingOfEveryValueRow.holds Tryd.pinned (OpenSpec.ofChange fnUUIDAcceptsEveryCaseSpellingOfEveryValueSpec)

/-- ITS FALSE NEIGHBOUR: 'it returns false'. Refute it at one input. -/
def fnUUIDAcceptsEveryCaseSpellingOfEveryValueWrong : ChangeSpec := { name := "fnUUIDAcceptsEveryCaseSpellingOfEveryValue", fn := fun _ => fun
  | [d1, d2] => { results := [.lit (.bool false)], args := [d1, d2] }
  | _ => none }
def FnUUIDAcceptsEveryCaseSpellingOfEveryValueWrongFalsely : Prop := fnUUIDAcceptsEveryCaseSpellingOfEveryValueRow.holds Tryd.pinned (OpenSpec.ofChange fnUUIDAcceptsEveryCaseSpellingOfEveryValueWrong)

end Rows
end Go.Proofs.Qxb6605569aDoor
