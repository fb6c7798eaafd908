/-
  No cell of these rows narrows 'for every input' (looked for: loops, veiled, ifaces, maps, wideKeys, modest, calm, conditions, laid).
  DERIVED. THE GIVEN ROWS OF THIS SEAT. 2 by the template 'for every input the law returns true; each argument reads behind the call as it read before'; 0 by the template 'total and deterministic' (their statements: YbulkdgeaTotals.lean).
  GIVEN WITH THE SEED: the statements are not yours to turn. If you find one false, say at which input.
  Laid BY PROGRAM, IN A SANDBOX (cutbox-rows.mjs): the forced cells as the released guide's own fill.sh prints them over the translation bc7e4184a3345b45… (all of the seat's roots in one cut). By AI agents, Wed Nov 11 2026. No macro, syntax, notation, axiom, sorry.
-/
import Derived.Test.YbulkdgeaChecked
import GoSem.Claim
import GoSem.ClaimJoined
import GoSem.ClaimMapViews
import Derived.JoinedTies
import Derived.KernelRfl
namespace Go.Proofs.Ybulkdgea
/- THE CELL 'sum', in the pinned program and in every row, IS THE sha256 OF THE DUMP (.gsa) THAT YbulkdgeaProg.lean LOADS. Nothing in Lean hashes anything: it is a label: what it is worth is what the hold of that sum in a sandbox is worth. -/
noncomputable def Yba.pinned : Pinned := { name := "ybulkdgea", sum := "bc7e4184a3345b4514db2e35c54b99fc800777825d45a583f48e3fc2cf537860", checked := Yba.checked }
namespace Rows
def none {H : Type} : Left H := { results := [], args := [] }

/-- 'epochwise.LawS5369BModel': WHATEVER THE INPUT: true; the input reads as it did. -/
def lawS5369BModelSpec : ChangeSpec := { name := "lawS5369BModel", fn := fun _ => fun
  | [d] => { results := [.lit (.bool true)], args := [d] }
  | _ => none }
def lawS5369BModelRow : OpenClaim := { program := "ybulkdgea", sum := "bc7e4184a3345b4514db2e35c54b99fc800777825d45a583f48e3fc2cf537860", func := "example.com/epochwise/epochwise.LawS5369BModel", spec := "lawS5369BModel", apart := false }
def LawS5369BModelSaid : Prop := lawS5369BModelRow.holds Yba.pinned (OpenSpec.ofChange lawS5369BModelSpec)

/-- ITS FALSE NEIGHBOUR: 'it returns false'. Refute it at one input. -/
def lawS5369BModelWrong : ChangeSpec := { name := "lawS5369BModel", fn := fun _ => fun
  | [d] => { results := [.lit (.bool false)], args := [d] }
  | _ => none }
def LawS5369BModelWrongFalsely : Prop := lawS5369BModelRow.holds Yba.pinned (OpenSpec.ofChange lawS5369BModelWrong)

/-- 'epochwise.LawS5369BParts': WHATEVER THE INPUT: true; the input reads as it did. -/
def lawS5369BPartsSpec : ChangeSpec := { name := "lawS5369BParts", fn := fun _ => fun
  | [d] => { results := [.lit (.bool true)], args := [d] }
  | _ => none }
def lawS5369BPartsRow : OpenClaim := { program := "ybulkdgea", sum := "bc7e4184a3345b4514db2e35c54b99fc800777825d45a583f48e3fc2cf537860", func := "example.com/epochwise/epochwise.LawS5369BParts", spec := "lawS5369BParts", apart := false }
def LawS5369BPartsSaid : Prop := lawS5369BPartsRow.holds Yba.pinned (OpenSpec.ofChange lawS5369BPartsSpec)

/-- ITS FALSE NEIGHBOUR: 'it returns false'. Refute it at one input. -/
def lawS5369BPartsWrong : ChangeSpec := { name := "lawS5369BParts", fn := fun _ => fun
  | [d] => { results := [.lit (.bool false)], args := [d] }
  | _ => none }
def LawS5369BPartsWrongFalsely : Prop := lawS5369BPartsRow.holds Yba.pinned (OpenSpec.ofChange lawS5369BPartsWrong)

end Rows
end Go.Proofs.Ybulkdgea
