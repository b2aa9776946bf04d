/-
  DERIVED. GIVEN WITH THE SEED: THE CARDS: each row of Qxb6618755aDoorRows.lean that lists a variable, with what it lists TIED to the program's text (the seventh form; the later family's looks); each row that meets fmt, with fmt's text TOLD by the authors' own Lean function (tested against real Go, not proved from fmt's source: count such statements apart). THE CARD IS WHAT COUNTS. Prove the row's statement (the work); the ties are given (Qxb6618755aDoorTie.lean); close each card by the builder's one call (the guide's Derived/Test/ToyasCard.lean, 'card_holds'). Laid BY PROGRAM, IN A SANDBOX (cutbox-door.mjs). By AI agents, Wed Nov 11 2026. No macro, syntax, notation, axiom, sorry.
-/
import Derived.Test.Qxb6618755aDoorRows
import GoSem.ClaimSeven
namespace Go.Proofs.Qxb6618755aDoor
namespace Rows

/-- THE TIED CARD OF 'zzlaws_internal_gofile_b1.FnNewHonoursDeclaredSet'. -/
def fnNewHonoursDeclaredSetCard : Claim7 := { stood := { row := fnNewHonoursDeclaredSetRow, standIns := [], harness := (true, "5d4565b84ce59ff0508268336d8c9b144f65fcfb00e3ed78531986085aa0f749"), looks := false }, kinds := [], alts := [], laidByText := true, laidKinds := [.data, .data, .data], laidTests := true, laidLooks := .later }
def FnNewHonoursDeclaredSetCardSaid : Prop := Claim7.holds Tryd.pinned (.plain (OpenSpec.ofChange fnNewHonoursDeclaredSetSpec)) fnNewHonoursDeclaredSetCard

/-- THE TIED CARD OF 'zzlaws_internal_gofile_b1.FnImportNamesAreLeastFreeAndStable'. -/
def fnImportNamesAreLeastFreeAndStableCard : Claim7 := { stood := { row := fnImportNamesAreLeastFreeAndStableRow, standIns := [], harness := (true, "5d4565b84ce59ff0508268336d8c9b144f65fcfb00e3ed78531986085aa0f749"), looks := false }, kinds := [], alts := [], laidByText := true, laidKinds := [.data, .data, .data], laidTests := true, laidLooks := .later }
def FnImportNamesAreLeastFreeAndStableCardSaid : Prop := Claim7.holds Tryd.pinned (.plain (OpenSpec.ofChange fnImportNamesAreLeastFreeAndStableSpec)) fnImportNamesAreLeastFreeAndStableCard

/-- THE TIED CARD OF 'zzlaws_internal_gofile_b1.FnImportAgreesWithLocal'. -/
def fnImportAgreesWithLocalCard : Claim7 := { stood := { row := fnImportAgreesWithLocalRow, standIns := [], harness := (true, "5d4565b84ce59ff0508268336d8c9b144f65fcfb00e3ed78531986085aa0f749"), looks := false }, kinds := [], alts := [], laidByText := true, laidKinds := [.data, .data, .data], laidTests := true, laidLooks := .later }
def FnImportAgreesWithLocalCardSaid : Prop := Claim7.holds Tryd.pinned (.plain (OpenSpec.ofChange fnImportAgreesWithLocalSpec)) fnImportAgreesWithLocalCard

/-- THE TIED CARD OF 'zzlaws_internal_gofile_b1.FnLocalIsIdempotent'. -/
def fnLocalIsIdempotentCard : Claim7 := { stood := { row := fnLocalIsIdempotentRow, standIns := [], harness := (true, "5d4565b84ce59ff0508268336d8c9b144f65fcfb00e3ed78531986085aa0f749"), looks := false }, kinds := [], alts := [], laidByText := true, laidKinds := [.data, .data, .data], laidTests := true, laidLooks := .later }
def FnLocalIsIdempotentCardSaid : Prop := Claim7.holds Tryd.pinned (.plain (OpenSpec.ofChange fnLocalIsIdempotentSpec)) fnLocalIsIdempotentCard

/-- THE TIED CARD OF 'zzlaws_internal_gofile_b1.FnEmptyUntouchedByImportsAndLocals'. -/
def fnEmptyUntouchedByImportsAndLocalsCard : Claim7 := { stood := { row := fnEmptyUntouchedByImportsAndLocalsRow, standIns := [], harness := (true, "5d4565b84ce59ff0508268336d8c9b144f65fcfb00e3ed78531986085aa0f749"), looks := false }, kinds := [], alts := [], laidByText := true, laidKinds := [.data, .data, .data], laidTests := true, laidLooks := .later }
def FnEmptyUntouchedByImportsAndLocalsCardSaid : Prop := Claim7.holds Tryd.pinned (.plain (OpenSpec.ofChange fnEmptyUntouchedByImportsAndLocalsSpec)) fnEmptyUntouchedByImportsAndLocalsCard
end Rows
end Go.Proofs.Qxb6618755aDoor
