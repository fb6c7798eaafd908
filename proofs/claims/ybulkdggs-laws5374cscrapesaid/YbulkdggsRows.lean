/-
  No cell of these rows narrows 'for every input' (looked for: loops, veiled, ifaces, maps, wideKeys, modest, calm, conditions, laid).
  DERIVED. THE GIVEN ROWS OF THIS SEAT. 2 by the template 'for every input the law returns true; each argument reads behind the call as it read before'; 0 by the template 'total and deterministic' (their statements: YbulkdggsTotals.lean).
  GIVEN WITH THE SEED: the statements are not yours to turn. If you find one false, say at which input.
  Laid BY PROGRAM, IN A SANDBOX (cutbox-rows.mjs): the forced cells as the released guide's own fill.sh prints them over the translation 4e743e037532d235… (all of the seat's roots in one cut). By AI agents, Wed Nov 11 2026. No macro, syntax, notation, axiom, sorry.
-/
import Derived.Test.YbulkdggsChecked
import GoSem.Claim
import GoSem.ClaimJoined
import GoSem.ClaimMapViews
import Derived.JoinedTies
import Derived.KernelRfl
namespace Go.Proofs.Ybulkdggs
/- THE CELL 'sum', in the pinned program and in every row, IS THE sha256 OF THE DUMP (.gsa) THAT YbulkdggsProg.lean LOADS. Nothing in Lean hashes anything: it is a label: what it is worth is what the hold of that sum in a sandbox is worth. -/
noncomputable def Yba.pinned : Pinned := { name := "ybulkdggs", sum := "4e743e037532d23591345ddc06e62246e3833f47d197389e9b001c9cce7387c4", checked := Yba.checked }
namespace Rows
def none {H : Type} : Left H := { results := [], args := [] }

/-- 'service.LawS5374CFigure': WHATEVER THE INPUT: true; the input reads as it did. -/
def lawS5374CFigureSpec : ChangeSpec := { name := "lawS5374CFigure", fn := fun _ => fun
  | [d1, d2, d3, d4] => { results := [.lit (.bool true)], args := [d1, d2, d3, d4] }
  | _ => none }
def lawS5374CFigureRow : OpenClaim := { program := "ybulkdggs", sum := "4e743e037532d23591345ddc06e62246e3833f47d197389e9b001c9cce7387c4", func := "example.com/edgeward/edgeward/service.LawS5374CFigure", spec := "lawS5374CFigure", inPlace := ["math.Float64bits"], plainKeys := false, apart := false }
def LawS5374CFigureSaid : Prop := lawS5374CFigureRow.holds Yba.pinned (OpenSpec.ofChange lawS5374CFigureSpec)

/-- ITS FALSE NEIGHBOUR: 'it returns false'. Refute it at one input. -/
def lawS5374CFigureWrong : ChangeSpec := { name := "lawS5374CFigure", fn := fun _ => fun
  | [d1, d2, d3, d4] => { results := [.lit (.bool false)], args := [d1, d2, d3, d4] }
  | _ => none }
def LawS5374CFigureWrongFalsely : Prop := lawS5374CFigureRow.holds Yba.pinned (OpenSpec.ofChange lawS5374CFigureWrong)

/-- 'service.LawS5374CScrape': WHATEVER THE INPUT: true; the input reads as it did. -/
def lawS5374CScrapeSpec : ChangeSpec := { name := "lawS5374CScrape", fn := fun _ => fun
  | [d1, d2, d3, d4, d5] => { results := [.lit (.bool true)], args := [d1, d2, d3, d4, d5] }
  | _ => none }
def lawS5374CScrapeRow : OpenClaim := { program := "ybulkdggs", sum := "4e743e037532d23591345ddc06e62246e3833f47d197389e9b001c9cce7387c4", func := "example.com/edgeward/edgeward/service.LawS5374CScrape", spec := "lawS5374CScrape", inPlace := ["(*internal/sync.Mutex).Lock", "internal/race.Disable", "sync/atomic.CompareAndSwapInt32", "internal/race.Enable", "internal/race.Acquire", "(*internal/sync.Mutex).lockSlow", "internal/sync.runtime_canSpin", "internal/sync.runtime_doSpin", "internal/sync.throw", "internal/sync.runtime_nanotime", "internal/sync.runtime_SemacquireMutex", "sync/atomic.AddInt32", "(*internal/sync.Mutex).Unlock", "internal/race.ReleaseMerge", "(*internal/sync.Mutex).unlockSlow", "internal/sync.fatal", "internal/sync.runtime_Semrelease", "math.Float64bits"], plainKeys := false, apart := false }
def LawS5374CScrapeSaid : Prop := lawS5374CScrapeRow.holds Yba.pinned (OpenSpec.ofChange lawS5374CScrapeSpec)

/-- ITS FALSE NEIGHBOUR: 'it returns false'. Refute it at one input. -/
def lawS5374CScrapeWrong : ChangeSpec := { name := "lawS5374CScrape", fn := fun _ => fun
  | [d1, d2, d3, d4, d5] => { results := [.lit (.bool false)], args := [d1, d2, d3, d4, d5] }
  | _ => none }
def LawS5374CScrapeWrongFalsely : Prop := lawS5374CScrapeRow.holds Yba.pinned (OpenSpec.ofChange lawS5374CScrapeWrong)

end Rows
end Go.Proofs.Ybulkdggs
