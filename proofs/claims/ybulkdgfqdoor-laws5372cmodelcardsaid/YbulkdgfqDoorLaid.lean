/- What the rows' listed tables give the walks; the witness's start. After the guide's Mapy example. -/
import Derived.Test.YbulkdgfqDoorRows
import Derived.Test.YbulkdgfqDoorEaster
import Derived.ProofKit
import Derived.LaidMore
import Derived.OpenShut
import Derived.Stop.Joined
import Derived.Lib.LaidTab
namespace Go.Proofs.YbulkdgfqDoor
open Go.ChangeShapes Go.WideShapes Go.ChangeAt Go.RowKit

theorem own : ownKnob Ybad.prog.godebug = none := by kernel_rfl
def laid3 : List (String × DataW Unit) := Rows.lawS5372CSiblingRow.laid

/-- The door's own heap meets the condition. -/
theorem door_met (os : Os) (args : Array Value) : laidMetH Ybad.prog laid3 ((World.doorLaid Ybad.prog 24 os).forCall (fun _ _ => 0) ⟨#[], args, []⟩).memory :=
  laidMetH_of_parts3 (fuel := 8) (laidMet_of_run' 8 (by kernel_rfl) (by kernel_rfl)) (by kernel_rfl) (by kernel_rfl)

theorem gPow : ∃ g, Ybad.prog.globalNamed powName = some g ∧ ∃ t, (Ybad.prog.globals[g]?).map (·.type) = some t ∧ ∃ e, Ybad.prog.underlying t = some (.array 20 e) ∧ Ybad.prog.underlying e = some (.int .u64) ∧ Ybad.prog.cellsOf e = 1 ∧ Ybad.prog.cellsOf t = 20 :=
  ⟨2, by kernel_rfl, 79, by kernel_rfl, 22, Ybad.underlying79, Ybad.underlying22, by kernel_rfl, by kernel_rfl⟩
theorem tab_of_laid {W : World} (h : laidMetH Ybad.prog laid3 W) : Tab W := by
  rw [MakeChecks.laidMetH_plain _ _ _ (by kernel_rfl)] at h
  obtain ⟨ps, ⟨g0, t0, cs0, f0, p0, q0, hg0, ht0, hv0, hd0, ⟨g1, t1, cs1, f1, p1, q1, hg1, ht1, hv1, hd1, ⟨g2, t2, cs2, f2, p2, q2, hg2, ht2, hv2, hd2, _, _⟩, _⟩, _⟩, _, _⟩ := h
  obtain ⟨g, hg, t, ht, e, h1, h2, h3, h4⟩ := gPow
  obtain rfl := Option.some.inj (hg.symm.trans hg2)
  obtain rfl := Option.some.inj (ht.symm.trans ht2)
  have hd : DataW.trod _ Ybad.prog W 0 _ _ f2 t cs2.toList = some (Lib.tabData .u64 Lib.pow10Tab, p2) := hd2
  have hc := Lib.cells_of_tab h1 h2 h3 h4 hd
  have hv : W.var? Ybad.prog powName = some cs2 := hv2
  show W.var? Ybad.prog powName = some _
  rw [hv]
  congr 1
  rw [← hc]

end Go.Proofs.YbulkdgfqDoor
