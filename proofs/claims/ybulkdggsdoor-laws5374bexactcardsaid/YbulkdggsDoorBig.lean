import Derived.Test.YbulkdggsDoorCopy
namespace Go.Proofs.YbulkdggsDoor
open Go.RowKit
set_option linter.unusedVariables false
set_option maxRecDepth 100000 in
set_option maxHeartbeats 8000000 in
theorem law_big (rd a4 a16 : Array Value) (k t : Int) (p : Option Addr) (n cc : Nat) (w : World) (hn : 4096 < n) (hm : n ≤ 9223372036854775807) (h8 : rd.size = 8) (h4 : a4.size = 4) (h16 : a16.size = 16) :
    Calls Ybad.prog 3 #[.agg rd, .int .u8 k, .agg a4, .agg a16, .int .u32 t, .slice p n cc] w fun e w' => e = .returned (.bool true) ∧ Below w.heap.size w w' := by
  go_enter Ybad.func3, Ybad.ntmps3
  go_wp2
  go_ret
  exact ⟨rfl, three_boxes.2⟩
end Go.Proofs.YbulkdggsDoor
