/-
  DERIVED. GIVEN WITH THE SEED: THE CARDS: each row of Qxb6609356aDoorRows.lean that lists a variable, with what it lists TIED to the program's text (the seventh form; the later family's looks); each row that meets fmt, with fmt's text TOLD by the authors' own Lean function (tested against real Go, not proved from fmt's source: count such statements apart). THE CARD IS WHAT COUNTS. Prove the row's statement (the work); the ties are given (Qxb6609356aDoorTie.lean); close each card by the builder's one call (the guide's Derived/Test/ToyasCard.lean, 'card_holds'). Laid BY PROGRAM, IN A SANDBOX (cutbox-door.mjs). By AI agents, Wed Nov 11 2026. No macro, syntax, notation, axiom, sorry.
-/
import Derived.Test.Qxb6609356aDoorRows
import GoSem.ClaimSeven
namespace Go.Proofs.Qxb6609356aDoor
namespace Rows

/-- THE TIED CARD OF 'zzlaws_protocol_b1.FnIsJSONAbsentExact'. -/
def fnIsJSONAbsentExactCard : Claim7 := { stood := { row := fnIsJSONAbsentExactRow, standIns := [], harness := (true, "ef0cffccdc24e87d708de6223967b9038555f4b539409e152f8019358e9fec14"), looks := false }, kinds := [], alts := [], laidByText := true, laidKinds := [.data, .listed, .data, .pinned], laidTests := true, laidLooks := .later }
def FnIsJSONAbsentExactCardSaid : Prop := Claim7.holds Tryd.pinned (.plain (OpenSpec.ofChange fnIsJSONAbsentExactSpec)) fnIsJSONAbsentExactCard

/-- THE TIED CARD OF 'zzlaws_protocol_b1.FnIsJSONAbsentNullBetween'. -/
def fnIsJSONAbsentNullBetweenCard : Claim7 := { stood := { row := fnIsJSONAbsentNullBetweenRow, standIns := [], harness := (true, "ef0cffccdc24e87d708de6223967b9038555f4b539409e152f8019358e9fec14"), looks := false }, kinds := [], alts := [], laidByText := true, laidKinds := [.data, .listed, .data, .pinned], laidTests := true, laidLooks := .later }
def FnIsJSONAbsentNullBetweenCardSaid : Prop := Claim7.holds Tryd.pinned (.plain (OpenSpec.ofChange fnIsJSONAbsentNullBetweenSpec)) fnIsJSONAbsentNullBetweenCard

/-- THE TIED CARD OF 'zzlaws_protocol_b1.FnIsJSONNumberExact'. -/
def fnIsJSONNumberExactCard : Claim7 := { stood := { row := fnIsJSONNumberExactRow, standIns := [], harness := (true, "ef0cffccdc24e87d708de6223967b9038555f4b539409e152f8019358e9fec14"), looks := false }, kinds := [], alts := [], laidByText := true, laidKinds := [.data, .listed, .data, .pinned], laidTests := true, laidLooks := .later }
def FnIsJSONNumberExactCardSaid : Prop := Claim7.holds Tryd.pinned (.plain (OpenSpec.ofChange fnIsJSONNumberExactSpec)) fnIsJSONNumberExactCard

/-- THE TIED CARD OF 'zzlaws_protocol_b1.FnIsJSONNumberLeadByte'. -/
def fnIsJSONNumberLeadByteCard : Claim7 := { stood := { row := fnIsJSONNumberLeadByteRow, standIns := [], harness := (true, "ef0cffccdc24e87d708de6223967b9038555f4b539409e152f8019358e9fec14"), looks := false }, kinds := [], alts := [], laidByText := true, laidKinds := [.data, .listed, .data, .pinned], laidTests := true, laidLooks := .later }
def FnIsJSONNumberLeadByteCardSaid : Prop := Claim7.holds Tryd.pinned (.plain (OpenSpec.ofChange fnIsJSONNumberLeadByteSpec)) fnIsJSONNumberLeadByteCard
end Rows
end Go.Proofs.Qxb6609356aDoor
