/-
  DERIVED. GIVEN WITH THE SEED: THE CARDS: each row of Qxb6605569aDoorRows.lean that lists a variable, with what it lists TIED to the program's text (the seventh form; the later family's looks); each row that meets fmt, with fmt's text TOLD by the authors' own Lean function (tested against real Go, not proved from fmt's source: count such statements apart). THE CARD IS WHAT COUNTS. Prove the row's statement (the work); the ties are given (Qxb6605569aDoorTie.lean); close each card by the builder's one call (the guide's Derived/Test/ToyasCard.lean, 'card_holds'). Laid BY PROGRAM, IN A SANDBOX (cutbox-door.mjs). By AI agents, Wed Nov 11 2026. No macro, syntax, notation, axiom, sorry.
-/
import Derived.Test.Qxb6605569aDoorRows
import GoSem.ClaimSeven
namespace Go.Proofs.Qxb6605569aDoor
namespace Rows

/-- THE TIED CARD OF 'zzlaws_internal_parse_b1.FnUUIDMatchesGroupModel'. -/
def fnUUIDMatchesGroupModelCard : Claim7 := { stood := { row := fnUUIDMatchesGroupModelRow, standIns := [], harness := (true, "ff8251dce769b7934342fb24de00e805f121b1114f3b5ac1db0315ead43f4700"), looks := false }, kinds := [], alts := [], laidByText := true, laidKinds := [.data, .pinned, .pinned], laidTests := true, laidLooks := .later }
def FnUUIDMatchesGroupModelCardSaid : Prop := Claim7.holds Tryd.pinned (.plain (OpenSpec.ofChange fnUUIDMatchesGroupModelSpec)) fnUUIDMatchesGroupModelCard

/-- THE TIED CARD OF 'zzlaws_internal_parse_b1.FnUUIDAcceptsEveryCaseSpellingOfEveryValue'. -/
def fnUUIDAcceptsEveryCaseSpellingOfEveryValueCard : Claim7 := { stood := { row := fnUUIDAcceptsEveryCaseSpellingOfEveryValueRow, standIns := [], harness := (true, "ff8251dce769b7934342fb24de00e805f121b1114f3b5ac1db0315ead43f4700"), looks := false }, kinds := [], alts := [], laidByText := true, laidKinds := [.data, .pinned, .pinned], laidTests := true, laidLooks := .later }
def FnUUIDAcceptsEveryCaseSpellingOfEveryValueCardSaid : Prop := Claim7.holds Tryd.pinned (.plain (OpenSpec.ofChange fnUUIDAcceptsEveryCaseSpellingOfEveryValueSpec)) fnUUIDAcceptsEveryCaseSpellingOfEveryValueCard
end Rows
end Go.Proofs.Qxb6605569aDoor
