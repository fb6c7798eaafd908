import Derived.Test.YbulkdggsDoorSlice16
namespace Go.Proofs.YbulkdggsDoor
open Go.RowKit
set_option linter.unusedVariables false

theorem is4_nil (hi lo : Int) (w : World) (p4 p6 : Addr) (hG : Glob p4 p6 w) :
    Calls Ybad.prog 16 #[addrV hi lo none] w fun e w' => e = .returned (.bool false) ∧ Below w.heap.size w w' := by
  have hz4 := hG.z4
  have hl3 : 3 < w.heap.size := block_lt_of_cell hz4
  have he := eql32_ns
  clear hG
  go_enter Ybad.func16, Ybad.ntmps16
  go_wp2_with fail
  go_ret
  exact ⟨rfl, (Below.refl _ _).alloc (Nat.le_refl _) _⟩
theorem is4_yes (hi lo : Int) (w : World) (p4 p6 : Addr) (hG : Glob p4 p6 w) :
    Calls Ybad.prog 16 #[addrV hi lo (some p4)] w fun e w' => e = .returned (.bool true) ∧ Below w.heap.size w w' := by
  have hz4 := hG.z4
  have hl3 : 3 < w.heap.size := block_lt_of_cell hz4
  have he := eql32_same
  clear hG
  go_enter Ybad.func16, Ybad.ntmps16
  go_wp2_with fail
  go_ret
  exact ⟨rfl, (Below.refl _ _).alloc (Nat.le_refl _) _⟩
theorem is4_no (hi lo : Int) (w : World) (p4 p6 : Addr) (hG : Glob p4 p6 w) :
    Calls Ybad.prog 16 #[addrV hi lo (some p6)] w fun e w' => e = .returned (.bool false) ∧ Below w.heap.size w w' := by
  have hz4 := hG.z4
  have hl3 : 3 < w.heap.size := block_lt_of_cell hz4
  have hG2 := hG.below ((Below.refl w.heap.size w).alloc (Nat.le_refl _) (.cells #[.int .u64 hi, .int .u64 lo, .pointer (some p6)] 34))
  have he := ptr_other p6 p4 (w.alloc (.cells #[.int .u64 hi, .int .u64 lo, .pointer (some p6)] 34)) hG.ne hG2.h6 hG2.h4
  clear hG hG2
  go_enter Ybad.func16, Ybad.ntmps16
  go_wp2_with fail
  go_ret
  exact ⟨rfl, (Below.refl _ _).alloc (Nat.le_refl _) _⟩

/-- FamilyOf, by what Is4 answers -/
theorem fam_any (hi lo : Int) (z : Option Addr) (r : Bool) (w : World) (p4 p6 : Addr) (hG : Glob p4 p6 w) (h4 : ∀ W, Glob p4 p6 W → Calls Ybad.prog 16 #[addrV hi lo z] W fun e w' => e = .returned (.bool r) ∧ Below W.heap.size W w') :
    Calls Ybad.prog 11 #[addrV hi lo z] w fun e w' => e = .returned (.agg #[.int .u16 (if r then 1 else 2), .int .u8 85]) ∧ Below w.heap.size w w' := by
  have hb0 : Below w.heap.size w ((w.alloc (.cells #[.int .u64 hi, .int .u64 lo, .pointer z] 34)).alloc (.cells #[.int .u16 0, .int .u8 0] 40)) := ((Below.refl _ _).alloc (Nat.le_refl _) _).alloc (by simp) _
  have hr0 : ((w.alloc (.cells #[.int .u64 hi, .int .u64 lo, .pointer z] 34)).alloc (.cells #[.int .u16 0, .int .u8 0] 40)).heap[w.heap.size + 1]? = some (.cells #[.int .u16 0, .int .u8 0] 40) := by
    have := box_new (w.alloc (.cells #[.int .u64 hi, .int .u64 lo, .pointer z] 34)) (.cells #[.int .u16 0, .int .u8 0] 40)
    rw [show (w.alloc (.cells #[.int .u64 hi, .int .u64 lo, .pointer z] 34)).heap.size = w.heap.size + 1 from by simp] at this
    exact this
  have HG := Lib.hid (hG.below hb0)
  have HB0 := Lib.hid hb0
  have HR := Lib.hid hr0
  have H4 := Lib.hid h4
  have hl0 : 0 < w.heap.size := block_lt_of_cell hG.a0
  have hl1 : 1 < w.heap.size := block_lt_of_cell hG.b0
  clear hG hb0 hr0 h4
  go_enter Ybad.func11, Ybad.ntmps11
  go_wp2_with (go_at_call 16; refine (H4.out _ HG.out).mono ?_; rintro e w1 ⟨rfl, hb1⟩; refine Hid.out ?_)
  refine Lib.hid ?_
  have hG1 := HG.out.below hb1
  obtain ⟨a0, a1, b0, b1⟩ : w1.cell? ⟨0, 0, none⟩ = some (.int .u16 1) ∧ w1.cell? ⟨0, 1, none⟩ = some (.int .u8 85) ∧ w1.cell? ⟨1, 0, none⟩ = some (.int .u16 2) ∧ w1.cell? ⟨1, 1, none⟩ = some (.int .u8 85) := ⟨hG1.a0, hG1.a1, hG1.b0, hG1.b1⟩
  have r1 := box_below HR.out hb1
  obtain ⟨e0, f0⟩ := box_cell r1 0
  obtain ⟨e1, f1⟩ := box_cell r1 1
  have HB1 := Lib.hid (HB0.out.trans (hb1.mono HB0.out.size))
  have e0' : w1.cell? ⟨w.heap.size + 1, 0, none⟩ = some (.int .u16 0) := e0
  have e1' : w1.cell? ⟨w.heap.size + 1, 1, none⟩ = some (.int .u8 0) := e1
  clear hG1 r1 hb1 e0 e1 HR HG H4 HB0
  cases r
  · go_wp2_with fail
    refine bodyPost_ret (v := .agg #[.int .u16 2, .int .u8 85]) (by simp [results, Ybad.results11, go_sem, e0', e1']) rfl ⟨rfl, ?_⟩
    exact (HB1.out.setCell (by show w.heap.size ≤ w.heap.size + 1; omega) _).setCell (by show w.heap.size ≤ w.heap.size + 1; omega) _
  · go_wp2_with fail
    refine bodyPost_ret (v := .agg #[.int .u16 1, .int .u8 85]) (by simp [results, Ybad.results11, go_sem, e0', e1']) rfl ⟨rfl, ?_⟩
    exact (HB1.out.setCell (by show w.heap.size ≤ w.heap.size + 1; omega) _).setCell (by show w.heap.size ≤ w.heap.size + 1; omega) _

end Go.Proofs.YbulkdggsDoor
