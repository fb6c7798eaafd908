/-
  NARROWER THAN 'FOR EVERY INPUT', by the rows' own cells (each row's printed sentence says how): LawS5374BExact: laid.
  DERIVED. THE GIVEN ROWS OF THIS SEAT. 1 by the template 'for every input the law returns true; each argument reads behind the call as it read before'; 0 by the template 'total and deterministic' (their statements: YbulkdggsDoorTotals.lean).
  GIVEN WITH THE SEED: the statements are not yours to turn. If you find one false, say at which input.
  Laid BY PROGRAM, IN A SANDBOX (cutbox-rows.mjs): the forced cells as the released guide's own fill.sh prints them over the translation 0b31c73546ddd1d7… (all of the seat's roots in one cut). By AI agents, Wed Nov 11 2026. No macro, syntax, notation, axiom, sorry.
-/
import Derived.Test.YbulkdggsDoorChecked
import GoSem.Claim
import GoSem.ClaimJoined
import GoSem.ClaimMapViews
import Derived.JoinedTies
import Derived.KernelRfl
namespace Go.Proofs.YbulkdggsDoor
/- THE CELL 'sum', in the pinned program and in every row, IS THE sha256 OF THE DUMP (.gsa) THAT YbulkdggsDoorProg.lean LOADS. Nothing in Lean hashes anything: it is a label: what it is worth is what the hold of that sum in a sandbox is worth. -/
noncomputable def Ybad.pinned : Pinned := { name := "ybulkdggsdoor", sum := "0b31c73546ddd1d76fc313bd43b2b9799d149b6d3286cac7ef1edb7d483172b0", checked := Ybad.checked }
namespace Rows
def none {H : Type} : Left H := { results := [], args := [] }

/- WHAT THE LISTED PACKAGE-LEVEL VARIABLES READ AS WHEN THE CALL BEGINS. Each datum BY PROGRAM (the guide's laid-datum.mjs) off the statement by which the dump's own 'gosem.cut.vars' lays the variable. In a bare row this is a premise. The card (YbulkdggsDoorCards.lean) ties it to the program's text. -/
def laid_net_netip_z4 {H : Type} : DataW H := .agg [.ptr (.agg [.lit (.bool false), .lit (.string [])])]
def laid_net_netip_z6noz {H : Type} : DataW H := .agg [.ptr (.agg [.lit (.bool true), .lit (.string [])])]
def laid_example_com_edgeward_edgeward_mup_IPv4 {H : Type} : DataW H := .agg [.lit (.int .u16 1), .lit (.int .u8 85)]
def laid_example_com_edgeward_edgeward_mup_IPv6 {H : Type} : DataW H := .agg [.lit (.int .u16 2), .lit (.int .u8 85)]
def laid_net_netip_z0 {H : Type} : DataW H := .agg [.nil]

/-- 'mup.LawS5374BExact': WHATEVER THE INPUT: true; the input reads as it did. -/
def lawS5374BExactSpec : ChangeSpec := { name := "lawS5374BExact", vars := ["example.com/edgeward/edgeward/mup.IPv4", "example.com/edgeward/edgeward/mup.IPv6"], fn := fun _ => fun
  | [d1, d2, d3, d4, d5, d6, g1, g2] => { results := [.lit (.bool true)], args := [d1, d2, d3, d4, d5, d6], vars := [g1, g2] }
  | _ => none }
def lawS5374BExactRow : OpenClaim := { program := "ybulkdggsdoor", sum := "0b31c73546ddd1d76fc313bd43b2b9799d149b6d3286cac7ef1edb7d483172b0", func := "example.com/edgeward/edgeward/mup.LawS5374BExact", spec := "lawS5374BExact", named := ["example.com/edgeward/edgeward/mup.IPv4", "example.com/edgeward/edgeward/mup.IPv6", "net/netip.z4", "net/netip.z6noz", "encoding/binary.BigEndian", "net/netip.z0"], apart := false, laid := [("net/netip.z4", laid_net_netip_z4), ("net/netip.z6noz", laid_net_netip_z6noz), ("example.com/edgeward/edgeward/mup.IPv4", laid_example_com_edgeward_edgeward_mup_IPv4), ("example.com/edgeward/edgeward/mup.IPv6", laid_example_com_edgeward_edgeward_mup_IPv6), ("net/netip.z0", laid_net_netip_z0)] }
def LawS5374BExactSaid : Prop := lawS5374BExactRow.holds Ybad.pinned (OpenSpec.ofChange lawS5374BExactSpec)

/-- ITS FALSE NEIGHBOUR: 'it returns false'. Refute it at one input. -/
def lawS5374BExactWrong : ChangeSpec := { name := "lawS5374BExact", vars := ["example.com/edgeward/edgeward/mup.IPv4", "example.com/edgeward/edgeward/mup.IPv6"], fn := fun _ => fun
  | [d1, d2, d3, d4, d5, d6, g1, g2] => { results := [.lit (.bool false)], args := [d1, d2, d3, d4, d5, d6], vars := [g1, g2] }
  | _ => none }
def LawS5374BExactWrongFalsely : Prop := lawS5374BExactRow.holds Ybad.pinned (OpenSpec.ofChange lawS5374BExactWrong)

end Rows
end Go.Proofs.YbulkdggsDoor
