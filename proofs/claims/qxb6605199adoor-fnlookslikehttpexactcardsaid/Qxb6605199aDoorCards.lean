/-
  DERIVED. GIVEN WITH THE SEED: THE CARDS: each row of Qxb6605199aDoorRows.lean that lists a variable, with what it lists TIED to the program's text (the seventh form; the later family's looks); each row that meets fmt, with fmt's text TOLD by the authors' own Lean function (tested against real Go, not proved from fmt's source: count such statements apart). THE CARD IS WHAT COUNTS. Prove the row's statement (the work); the ties are given (Qxb6605199aDoorTie.lean); close each card by the builder's one call (the guide's Derived/Test/ToyasCard.lean, 'card_holds'). Laid BY PROGRAM, IN A SANDBOX (cutbox-door.mjs). By AI agents, Wed Nov 11 2026. No macro, syntax, notation, axiom, sorry.
-/
import Derived.Test.Qxb6605199aDoorRows
import GoSem.ClaimSeven
namespace Go.Proofs.Qxb6605199aDoor
namespace Rows

/-- THE TIED CARD OF 'zzlaws_internal_resp_b1.FnLooksLikeHTTPExact'. -/
def fnLooksLikeHTTPExactCard : Claim7 := { stood := { row := fnLooksLikeHTTPExactRow, standIns := [], harness := (true, "6a185f15931c0cf59749128cecd3ad434a1698ef358e9254715bef7af971c6b5"), looks := false }, kinds := [], alts := [], laidByText := true, laidKinds := [.data, .data, .data, .pinned, .pinned], laidTests := true, laidLooks := .later }
def FnLooksLikeHTTPExactCardSaid : Prop := Claim7.holds Tryd.pinned (.plain (OpenSpec.ofChange fnLooksLikeHTTPExactSpec)) fnLooksLikeHTTPExactCard
end Rows
end Go.Proofs.Qxb6605199aDoor
