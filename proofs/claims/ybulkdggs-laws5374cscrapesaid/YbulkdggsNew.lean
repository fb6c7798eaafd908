import Derived.Test.YbulkdggsKeys
namespace Go.Proofs.Ybulkdggs
open Go.RowKit Go.Maps
set_option linter.unusedVariables false
theorem chan_run (W : World) : (Instr.makeChan 41 (.int .i64 1)).run Yba.prog W = .ok (.chan (some W.heap.size)) (W.alloc (.chan 1 #[] false 0 0 false)) := by kernel_rfl
/-- what NewRegistry leaves -/
def NewPost (w : World) (e : Ending) (w' : World) : Prop :=
  ∃ g bR bS, e = .returned (.pointer (some ⟨g, 0, none⟩)) ∧ (w.heap.size ≤ g ∧ w.heap.size ≤ bR ∧ w.heap.size ≤ bS ∧ bR ≠ bS ∧ bR ≠ g ∧ bS ≠ g) ∧ Reg g bR bS 0 0 (.map []) (.map []) w' ∧ Below w.heap.size w w'
abbrev M0 : Obj := .map #[] 0
theorem box_new (w : World) (o : Obj) : (w.alloc o).heap[w.heap.size]? = some o := by
  show (w.heap.push o)[w.heap.size]? = _
  simp
theorem box_cell {w : World} {k : Nat} {cs : Array Value} {t : TypeId} (h : w.heap[k]? = some (.cells cs t)) (i : Nat) : w.cell? ⟨k, i, none⟩ = cs[i]? ∧ w.frozen? ⟨k, i, none⟩ = false := by
  constructor
  · simp [World.cell?, h]
  · simp [World.frozen?, h]
theorem made (w : World) (o : Obj) (cs : Array Value) (t : TypeId) (h3 : cs[3]? = some (.int .i32 0)) (h6 : cs[6]? = some (.map (some (w.heap.size + 1 + 1 + 1 + 1)))) (h7 : cs[7]? = some (.map (some (w.heap.size + 1 + 1 + 1 + 1 + 1)))) :
    NewPost w (.returned (.pointer (some ⟨w.heap.size + 1 + 1 + 1 + 1 + 1 + 1 + 1 + 1, 0, none⟩))) (((((((((w.alloc M0).alloc M0).alloc M0).alloc M0).alloc M0).alloc M0).alloc M0).alloc o).alloc (.cells cs t)) := by
  refine ⟨_, w.heap.size + 1 + 1 + 1 + 1, w.heap.size + 1 + 1 + 1 + 1 + 1, rfl, by omega, ?_, ?_⟩
  · have hb := box_new ((((((((w.alloc M0).alloc M0).alloc M0).alloc M0).alloc M0).alloc M0).alloc M0).alloc o) (.cells cs t)
    rw [show ((((((((w.alloc M0).alloc M0).alloc M0).alloc M0).alloc M0).alloc M0).alloc M0).alloc o).heap.size = w.heap.size + 1 + 1 + 1 + 1 + 1 + 1 + 1 + 1 from by simp] at hb
    have hR := World.ownsMap_made ((((w.alloc M0).alloc M0).alloc M0).alloc M0) Yba.prog 48 R
    rw [show ((((w.alloc M0).alloc M0).alloc M0).alloc M0).heap.size = w.heap.size + 1 + 1 + 1 + 1 from by simp] at hR
    have hS := World.ownsMap_made (((((w.alloc M0).alloc M0).alloc M0).alloc M0).alloc M0) Yba.prog 48 R
    rw [show (((((w.alloc M0).alloc M0).alloc M0).alloc M0).alloc M0).heap.size = w.heap.size + 1 + 1 + 1 + 1 + 1 from by simp] at hS
    exact ⟨(box_cell hb 3).1.trans h3, (box_cell hb 3).2, (box_cell hb 6).1.trans h6, (box_cell hb 7).1.trans h7, ((((hR.alloc _).alloc _).alloc _).alloc _), (((hS.alloc _).alloc _).alloc _)⟩
  · exact (((((((((Below.refl _ _).alloc (Nat.le_refl _) _).alloc (by simp) _).alloc (by simp; omega) _).alloc (by simp; omega) _).alloc (by simp; omega) _).alloc (by simp; omega) _).alloc (by simp; omega) _).alloc (by simp; omega) _).alloc (by simp; omega) _
set_option maxRecDepth 100000 in
set_option maxHeartbeats 4000000 in
theorem new_any (w : World) :
    Calls Yba.prog 9 #[.slice none 0 0] w fun e w' => NewPost w e w' := by
  have hmm := @run_makeMap Yba.prog
  have hch := chan_run
  go_enter Yba.func9, Yba.ntmps9
  go_wp2_with fail
  go_loop [21] (fun iv => iv = .int .i64 0) (fun _ => 0)
  case atStart => rfl
  case round =>
    subst hrel
    go_wp2
    go_ret
    exact made w _ _ _ rfl rfl rfl
end Go.Proofs.Ybulkdggs
