/-
  DERIVED. GIVEN WITH THE SEED: THE CARDS: each row of YbulkdggsDoorRows.lean that lists a variable, with what it lists TIED to the program's text (the seventh form; the later family's looks); each row that meets fmt, with fmt's text TOLD by the authors' own Lean function (tested against real Go, not proved from fmt's source: count such statements apart). THE CARD IS WHAT COUNTS. Prove the row's statement (the work); the ties are given (YbulkdggsDoorTie.lean); close each card by the builder's one call (the guide's Derived/Test/ToyasCard.lean, 'card_holds'). Laid BY PROGRAM, IN A SANDBOX (cutbox-door.mjs). By AI agents, Wed Nov 11 2026. No macro, syntax, notation, axiom, sorry.
-/
import Derived.Test.YbulkdggsDoorRows
import GoSem.ClaimSeven
namespace Go.Proofs.YbulkdggsDoor
namespace Rows

/-- THE TIED CARD OF 'mup.LawS5374BExact'. -/
def lawS5374BExactCard : Claim7 := { stood := { row := lawS5374BExactRow, standIns := [], harness := (true, "6aff6306d37d1b0defc1d920283e9fa5308363aa3bcb390d0cf891248e48a3f1"), looks := false }, kinds := [], alts := [], laidByText := true, laidKinds := [.called, .called, .data, .data, .zero], laidTests := true, laidLooks := .later }
def LawS5374BExactCardSaid : Prop := Claim7.holds Ybad.pinned (.plain (OpenSpec.ofChange lawS5374BExactSpec)) lawS5374BExactCard
end Rows
end Go.Proofs.YbulkdggsDoor
