/-
  No cell of these rows narrows 'for every input' (looked for: loops, veiled, ifaces, maps, wideKeys, modest, calm, conditions, laid).
  DERIVED. THE GIVEN ROWS OF THIS SEAT. 2 by the template 'for every input the law returns true; each argument reads behind the call as it read before'; 0 by the template 'total and deterministic' (their statements: YbulkdgfqTotals.lean).
  GIVEN WITH THE SEED: the statements are not yours to turn. If you find one false, say at which input.
  Laid BY PROGRAM, IN A SANDBOX (cutbox-rows.mjs): the forced cells as the released guide's own fill.sh prints them over the translation 4a0fbb2401f10bc5… (all of the seat's roots in one cut). By AI agents, Wed Nov 11 2026. No macro, syntax, notation, axiom, sorry.
-/
import Derived.Test.YbulkdgfqChecked
import GoSem.Claim
import GoSem.ClaimJoined
import GoSem.ClaimMapViews
import Derived.JoinedTies
import Derived.KernelRfl
namespace Go.Proofs.Ybulkdgfq
/- THE CELL 'sum', in the pinned program and in every row, IS THE sha256 OF THE DUMP (.gsa) THAT YbulkdgfqProg.lean LOADS. Nothing in Lean hashes anything: it is a label: what it is worth is what the hold of that sum in a sandbox is worth. -/
noncomputable def Yba.pinned : Pinned := { name := "ybulkdgfq", sum := "4a0fbb2401f10bc55ca31704938174728b1cb18cc3afad4f4f2bf2da7e934e98", checked := Yba.checked }
namespace Rows
def none {H : Type} : Left H := { results := [], args := [] }

/-- 'paschalion.LawS5372BExact': WHATEVER THE INPUT: true; the input reads as it did. -/
def lawS5372BExactSpec : ChangeSpec := { name := "lawS5372BExact", fn := fun _ => fun
  | [d] => { results := [.lit (.bool true)], args := [d] }
  | _ => none }
def lawS5372BExactRow : OpenClaim := { program := "ybulkdgfq", sum := "4a0fbb2401f10bc55ca31704938174728b1cb18cc3afad4f4f2bf2da7e934e98", func := "example.com/paschalion/paschalion.LawS5372BExact", spec := "lawS5372BExact", apart := false }
def LawS5372BExactSaid : Prop := lawS5372BExactRow.holds Yba.pinned (OpenSpec.ofChange lawS5372BExactSpec)

/-- ITS FALSE NEIGHBOUR: 'it returns false'. Refute it at one input. -/
def lawS5372BExactWrong : ChangeSpec := { name := "lawS5372BExact", fn := fun _ => fun
  | [d] => { results := [.lit (.bool false)], args := [d] }
  | _ => none }
def LawS5372BExactWrongFalsely : Prop := lawS5372BExactRow.holds Yba.pinned (OpenSpec.ofChange lawS5372BExactWrong)

/-- 'paschalion.LawS5372BBytes': WHATEVER THE INPUT: true; the input reads as it did. -/
def lawS5372BBytesSpec : ChangeSpec := { name := "lawS5372BBytes", fn := fun _ => fun
  | [d1, d2] => { results := [.lit (.bool true)], args := [d1, d2] }
  | _ => none }
def lawS5372BBytesRow : OpenClaim := { program := "ybulkdgfq", sum := "4a0fbb2401f10bc55ca31704938174728b1cb18cc3afad4f4f2bf2da7e934e98", func := "example.com/paschalion/paschalion.LawS5372BBytes", spec := "lawS5372BBytes", apart := false }
def LawS5372BBytesSaid : Prop := lawS5372BBytesRow.holds Yba.pinned (OpenSpec.ofChange lawS5372BBytesSpec)

/-- ITS FALSE NEIGHBOUR: 'it returns false'. Refute it at one input. -/
def lawS5372BBytesWrong : ChangeSpec := { name := "lawS5372BBytes", fn := fun _ => fun
  | [d1, d2] => { results := [.lit (.bool false)], args := [d1, d2] }
  | _ => none }
def LawS5372BBytesWrongFalsely : Prop := lawS5372BBytesRow.holds Yba.pinned (OpenSpec.ofChange lawS5372BBytesWrong)

end Rows
end Go.Proofs.Ybulkdgfq
