/-
  DERIVED. GIVEN WITH THE SEED: THE CARDS: each row of YbulkdgfqDoorRows.lean that lists a variable, with what it lists TIED to the program's text (the seventh form; the later family's looks); each row that meets fmt, with fmt's text TOLD by the authors' own Lean function (tested against real Go, not proved from fmt's source: count such statements apart). THE CARD IS WHAT COUNTS. Prove the row's statement (the work); the ties are given (YbulkdgfqDoorTie.lean); close each card by the builder's one call (the guide's Derived/Test/ToyasCard.lean, 'card_holds'). Laid BY PROGRAM, IN A SANDBOX (cutbox-door.mjs). By AI agents, Wed Nov 11 2026. No macro, syntax, notation, axiom, sorry.
-/
import Derived.Test.YbulkdgfqDoorRows
import GoSem.ClaimSeven
namespace Go.Proofs.YbulkdgfqDoor
namespace Rows

/-- THE TIED CARD OF 'paschalion.LawS5372AExact'. -/
def lawS5372AExactCard : Claim7 := { stood := { row := lawS5372AExactRow, standIns := [], harness := (true, "908e66f68f394644a8ff88527672dc25c6161eb480555de7d8f872aca91d92b4"), looks := false }, kinds := [], alts := [], laidByText := true, laidKinds := [.data, .data, .data], laidTests := true, laidLooks := .later }
def LawS5372AExactCardSaid : Prop := Claim7.holds Ybad.pinned (.plain (OpenSpec.ofChange lawS5372AExactSpec)) lawS5372AExactCard

/-- THE TIED CARD OF 'paschalion.LawS5372ARoundTrip'. -/
def lawS5372ARoundTripCard : Claim7 := { stood := { row := lawS5372ARoundTripRow, standIns := [], harness := (true, "908e66f68f394644a8ff88527672dc25c6161eb480555de7d8f872aca91d92b4"), looks := false }, kinds := [], alts := [], laidByText := true, laidKinds := [.data, .data, .data], laidTests := true, laidLooks := .later }
def LawS5372ARoundTripCardSaid : Prop := Claim7.holds Ybad.pinned (.plain (OpenSpec.ofChange lawS5372ARoundTripSpec)) lawS5372ARoundTripCard

/-- THE TIED CARD OF 'paschalion.LawS5372CModel'. -/
def lawS5372CModelCard : Claim7 := { stood := { row := lawS5372CModelRow, standIns := [], harness := (true, "908e66f68f394644a8ff88527672dc25c6161eb480555de7d8f872aca91d92b4"), looks := false }, kinds := [], alts := [], laidByText := true, laidKinds := [.data, .data, .data], laidTests := true, laidLooks := .later }
def LawS5372CModelCardSaid : Prop := Claim7.holds Ybad.pinned (.plain (OpenSpec.ofChange lawS5372CModelSpec)) lawS5372CModelCard

/-- THE TIED CARD OF 'paschalion.LawS5372CSibling'. -/
def lawS5372CSiblingCard : Claim7 := { stood := { row := lawS5372CSiblingRow, standIns := [], harness := (true, "908e66f68f394644a8ff88527672dc25c6161eb480555de7d8f872aca91d92b4"), looks := false }, kinds := [], alts := [], laidByText := true, laidKinds := [.data, .data, .data], laidTests := true, laidLooks := .later }
def LawS5372CSiblingCardSaid : Prop := Claim7.holds Ybad.pinned (.plain (OpenSpec.ofChange lawS5372CSiblingSpec)) lawS5372CSiblingCard
end Rows
end Go.Proofs.YbulkdgfqDoor
