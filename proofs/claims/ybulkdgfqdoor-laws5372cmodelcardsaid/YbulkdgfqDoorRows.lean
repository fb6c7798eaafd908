/-
  NARROWER THAN 'FOR EVERY INPUT', by the rows' own cells (each row's printed sentence says how): LawS5372AExact: laid · LawS5372ARoundTrip: laid · LawS5372CModel: laid · LawS5372CSibling: laid.
  DERIVED. THE GIVEN ROWS OF THIS SEAT. 4 by the template 'for every input the law returns true; each argument reads behind the call as it read before'; 0 by the template 'total and deterministic' (their statements: YbulkdgfqDoorTotals.lean).
  GIVEN WITH THE SEED: the statements are not yours to turn. If you find one false, say at which input.
  Laid BY PROGRAM, IN A SANDBOX (cutbox-rows.mjs): the forced cells as the released guide's own fill.sh prints them over the translation 22aaa0bfdb244220… (all of the seat's roots in one cut). By AI agents, Wed Nov 11 2026. No macro, syntax, notation, axiom, sorry.
-/
import Derived.Test.YbulkdgfqDoorChecked
import GoSem.Claim
import GoSem.ClaimJoined
import GoSem.ClaimMapViews
import Derived.JoinedTies
import Derived.KernelRfl
namespace Go.Proofs.YbulkdgfqDoor
/- THE CELL 'sum', in the pinned program and in every row, IS THE sha256 OF THE DUMP (.gsa) THAT YbulkdgfqDoorProg.lean LOADS. Nothing in Lean hashes anything: it is a label: what it is worth is what the hold of that sum in a sandbox is worth. -/
noncomputable def Ybad.pinned : Pinned := { name := "ybulkdgfqdoor", sum := "22aaa0bfdb244220258cebb8523e3a8c20059e569df91e4ab1d16ccb8483b5c8", checked := Ybad.checked }
namespace Rows
def none {H : Type} : Left H := { results := [], args := [] }

/- WHAT THE LISTED PACKAGE-LEVEL VARIABLES READ AS WHEN THE CALL BEGINS. Each datum BY PROGRAM (the guide's laid-datum.mjs) off the statement by which the dump's own 'gosem.cut.vars' lays the variable. In a bare row this is a premise. The card (YbulkdgfqDoorCards.lean) ties it to the program's text. -/
def laid_math_bits_deBruijn32tab {H : Type} : DataW H := .agg [.lit (.int .u8 0), .lit (.int .u8 1), .lit (.int .u8 28), .lit (.int .u8 2), .lit (.int .u8 29), .lit (.int .u8 14), .lit (.int .u8 24), .lit (.int .u8 3), .lit (.int .u8 30), .lit (.int .u8 22), .lit (.int .u8 20), .lit (.int .u8 15), .lit (.int .u8 25), .lit (.int .u8 17), .lit (.int .u8 4), .lit (.int .u8 8), .lit (.int .u8 31), .lit (.int .u8 27), .lit (.int .u8 13), .lit (.int .u8 23), .lit (.int .u8 21), .lit (.int .u8 19), .lit (.int .u8 16), .lit (.int .u8 7), .lit (.int .u8 26), .lit (.int .u8 12), .lit (.int .u8 18), .lit (.int .u8 6), .lit (.int .u8 11), .lit (.int .u8 5), .lit (.int .u8 10), .lit (.int .u8 9)]
def laid_math_bits_deBruijn64tab {H : Type} : DataW H := .agg [.lit (.int .u8 0), .lit (.int .u8 1), .lit (.int .u8 56), .lit (.int .u8 2), .lit (.int .u8 57), .lit (.int .u8 49), .lit (.int .u8 28), .lit (.int .u8 3), .lit (.int .u8 61), .lit (.int .u8 58), .lit (.int .u8 42), .lit (.int .u8 50), .lit (.int .u8 38), .lit (.int .u8 29), .lit (.int .u8 17), .lit (.int .u8 4), .lit (.int .u8 62), .lit (.int .u8 47), .lit (.int .u8 59), .lit (.int .u8 36), .lit (.int .u8 45), .lit (.int .u8 43), .lit (.int .u8 51), .lit (.int .u8 22), .lit (.int .u8 53), .lit (.int .u8 39), .lit (.int .u8 33), .lit (.int .u8 30), .lit (.int .u8 24), .lit (.int .u8 18), .lit (.int .u8 12), .lit (.int .u8 5), .lit (.int .u8 63), .lit (.int .u8 55), .lit (.int .u8 48), .lit (.int .u8 27), .lit (.int .u8 60), .lit (.int .u8 41), .lit (.int .u8 37), .lit (.int .u8 16), .lit (.int .u8 46), .lit (.int .u8 35), .lit (.int .u8 44), .lit (.int .u8 21), .lit (.int .u8 52), .lit (.int .u8 32), .lit (.int .u8 23), .lit (.int .u8 11), .lit (.int .u8 54), .lit (.int .u8 26), .lit (.int .u8 40), .lit (.int .u8 15), .lit (.int .u8 34), .lit (.int .u8 20), .lit (.int .u8 31), .lit (.int .u8 10), .lit (.int .u8 25), .lit (.int .u8 14), .lit (.int .u8 19), .lit (.int .u8 9), .lit (.int .u8 13), .lit (.int .u8 8), .lit (.int .u8 7), .lit (.int .u8 6)]
def laid_internal_strconv_uint64pow10 {H : Type} : DataW H := .agg [.lit (.int .u64 1), .lit (.int .u64 10), .lit (.int .u64 100), .lit (.int .u64 1000), .lit (.int .u64 10000), .lit (.int .u64 100000), .lit (.int .u64 1000000), .lit (.int .u64 10000000), .lit (.int .u64 100000000), .lit (.int .u64 1000000000), .lit (.int .u64 10000000000), .lit (.int .u64 100000000000), .lit (.int .u64 1000000000000), .lit (.int .u64 10000000000000), .lit (.int .u64 100000000000000), .lit (.int .u64 1000000000000000), .lit (.int .u64 10000000000000000), .lit (.int .u64 100000000000000000), .lit (.int .u64 1000000000000000000), .lit (.int .u64 10000000000000000000)]

/-- 'paschalion.LawS5372AExact': WHATEVER THE INPUT: true; the input reads as it did. -/
def lawS5372AExactSpec : ChangeSpec := { name := "lawS5372AExact", fn := fun _ => fun
  | [d1, d2] => { results := [.lit (.bool true)], args := [d1, d2] }
  | _ => none }
def lawS5372AExactRow : OpenClaim := { program := "ybulkdgfqdoor", sum := "22aaa0bfdb244220258cebb8523e3a8c20059e569df91e4ab1d16ccb8483b5c8", func := "example.com/paschalion/paschalion.LawS5372AExact", spec := "lawS5372AExact", recurses := true, named := ["internal/strconv.uint64pow10", "math/bits.deBruijn32tab", "math/bits.deBruijn64tab", "math/bits.divideError", "math/bits.overflowError"], apart := false, laid := [("math/bits.deBruijn32tab", laid_math_bits_deBruijn32tab), ("math/bits.deBruijn64tab", laid_math_bits_deBruijn64tab), ("internal/strconv.uint64pow10", laid_internal_strconv_uint64pow10)] }
def LawS5372AExactSaid : Prop := lawS5372AExactRow.holds Ybad.pinned (OpenSpec.ofChange lawS5372AExactSpec)

/-- ITS FALSE NEIGHBOUR: 'it returns false'. Refute it at one input. -/
def lawS5372AExactWrong : ChangeSpec := { name := "lawS5372AExact", fn := fun _ => fun
  | [d1, d2] => { results := [.lit (.bool false)], args := [d1, d2] }
  | _ => none }
def LawS5372AExactWrongFalsely : Prop := lawS5372AExactRow.holds Ybad.pinned (OpenSpec.ofChange lawS5372AExactWrong)

/-- 'paschalion.LawS5372ARoundTrip': WHATEVER THE INPUT: true; the input reads as it did. -/
def lawS5372ARoundTripSpec : ChangeSpec := { name := "lawS5372ARoundTrip", fn := fun _ => fun
  | [d1, d2] => { results := [.lit (.bool true)], args := [d1, d2] }
  | _ => none }
def lawS5372ARoundTripRow : OpenClaim := { program := "ybulkdgfqdoor", sum := "22aaa0bfdb244220258cebb8523e3a8c20059e569df91e4ab1d16ccb8483b5c8", func := "example.com/paschalion/paschalion.LawS5372ARoundTrip", spec := "lawS5372ARoundTrip", inPlace := ["math/bits.Add64"], recurses := true, named := ["internal/strconv.uint64pow10", "math/bits.deBruijn32tab", "math/bits.deBruijn64tab", "math/bits.divideError", "math/bits.overflowError"], apart := false, laid := [("math/bits.deBruijn32tab", laid_math_bits_deBruijn32tab), ("math/bits.deBruijn64tab", laid_math_bits_deBruijn64tab), ("internal/strconv.uint64pow10", laid_internal_strconv_uint64pow10)] }
def LawS5372ARoundTripSaid : Prop := lawS5372ARoundTripRow.holds Ybad.pinned (OpenSpec.ofChange lawS5372ARoundTripSpec)

/-- ITS FALSE NEIGHBOUR: 'it returns false'. Refute it at one input. -/
def lawS5372ARoundTripWrong : ChangeSpec := { name := "lawS5372ARoundTrip", fn := fun _ => fun
  | [d1, d2] => { results := [.lit (.bool false)], args := [d1, d2] }
  | _ => none }
def LawS5372ARoundTripWrongFalsely : Prop := lawS5372ARoundTripRow.holds Ybad.pinned (OpenSpec.ofChange lawS5372ARoundTripWrong)

/-- 'paschalion.LawS5372CModel': WHATEVER THE INPUT: true; the input reads as it did. -/
def lawS5372CModelSpec : ChangeSpec := { name := "lawS5372CModel", fn := fun _ => fun
  | [d1, d2, d3] => { results := [.lit (.bool true)], args := [d1, d2, d3] }
  | _ => none }
def lawS5372CModelRow : OpenClaim := { program := "ybulkdgfqdoor", sum := "22aaa0bfdb244220258cebb8523e3a8c20059e569df91e4ab1d16ccb8483b5c8", func := "example.com/paschalion/paschalion.LawS5372CModel", spec := "lawS5372CModel", unfollowed := true, recurses := true, named := ["internal/strconv.uint64pow10", "math/bits.deBruijn32tab", "math/bits.deBruijn64tab"], apart := false, laid := [("math/bits.deBruijn32tab", laid_math_bits_deBruijn32tab), ("math/bits.deBruijn64tab", laid_math_bits_deBruijn64tab), ("internal/strconv.uint64pow10", laid_internal_strconv_uint64pow10)] }
def LawS5372CModelSaid : Prop := lawS5372CModelRow.holds Ybad.pinned (OpenSpec.ofChange lawS5372CModelSpec)

/-- ITS FALSE NEIGHBOUR: 'it returns false'. Refute it at one input. -/
def lawS5372CModelWrong : ChangeSpec := { name := "lawS5372CModel", fn := fun _ => fun
  | [d1, d2, d3] => { results := [.lit (.bool false)], args := [d1, d2, d3] }
  | _ => none }
def LawS5372CModelWrongFalsely : Prop := lawS5372CModelRow.holds Ybad.pinned (OpenSpec.ofChange lawS5372CModelWrong)

/-- 'paschalion.LawS5372CSibling': WHATEVER THE INPUT: true; the input reads as it did. -/
def lawS5372CSiblingSpec : ChangeSpec := { name := "lawS5372CSibling", fn := fun _ => fun
  | [d1, d2, d3] => { results := [.lit (.bool true)], args := [d1, d2, d3] }
  | _ => none }
def lawS5372CSiblingRow : OpenClaim := { program := "ybulkdgfqdoor", sum := "22aaa0bfdb244220258cebb8523e3a8c20059e569df91e4ab1d16ccb8483b5c8", func := "example.com/paschalion/paschalion.LawS5372CSibling", spec := "lawS5372CSibling", unfollowed := true, recurses := true, named := ["internal/strconv.uint64pow10", "math/bits.deBruijn32tab", "math/bits.deBruijn64tab"], apart := false, laid := [("math/bits.deBruijn32tab", laid_math_bits_deBruijn32tab), ("math/bits.deBruijn64tab", laid_math_bits_deBruijn64tab), ("internal/strconv.uint64pow10", laid_internal_strconv_uint64pow10)] }
def LawS5372CSiblingSaid : Prop := lawS5372CSiblingRow.holds Ybad.pinned (OpenSpec.ofChange lawS5372CSiblingSpec)

/-- ITS FALSE NEIGHBOUR: 'it returns false'. Refute it at one input. -/
def lawS5372CSiblingWrong : ChangeSpec := { name := "lawS5372CSibling", fn := fun _ => fun
  | [d1, d2, d3] => { results := [.lit (.bool false)], args := [d1, d2, d3] }
  | _ => none }
def LawS5372CSiblingWrongFalsely : Prop := lawS5372CSiblingRow.holds Ybad.pinned (OpenSpec.ofChange lawS5372CSiblingWrong)

end Rows
end Go.Proofs.YbulkdgfqDoor
