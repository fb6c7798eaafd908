import Derived.Test.YbulkdgfqDoorReckon
import Derived.Test.YbulkdgfqDoorErr
namespace Go.Proofs.YbulkdgfqDoor
open Go.RowKit

/-- the table that the error texts are made with lies as its initialiser lays it -/
abbrev Tab (w : World) : Prop := Lib.TabIs Ybad.prog w powName .u64 Lib.pow10Tab

theorem box_cells {W : World} {B : Nat} {t : TypeId} {a b c : Int} (h : W.heap[B]? = some (.cells #[.int .i64 a, .int .i64 b, .int .i64 c] t)) :
    W.cell? ⟨B, 0, none⟩ = some (.int .i64 a) ∧ W.cell? ⟨B, 1, none⟩ = some (.int .i64 b) ∧ W.cell? ⟨B, 2, none⟩ = some (.int .i64 c) ∧ W.frozen? ⟨B, 0, none⟩ = false ∧ W.frozen? ⟨B, 1, none⟩ = false ∧ W.frozen? ⟨B, 2, none⟩ = false := by
  unfold World.cell? World.frozen?
  rw [h]
  simp

theorem box_new (w : World) (o : Obj) : (w.alloc o).heap[w.heap.size]? = some o := by
  show (w.heap.push o)[w.heap.size]? = _
  simp
theorem box_old {w : World} {o : Obj} {k : Nat} {x : Obj} (h : w.heap[k]? = some x) : (w.alloc o).heap[k]? = some x := by
  have hk : k < w.heap.size := by
    rcases Nat.lt_or_ge k w.heap.size with h' | h'
    · exact h'
    · rw [Array.getElem?_eq_none h'] at h
      cases h
  rw [Below.heap_alloc w o k hk]
  exact h
theorem box_below {w w' : World} {k : Nat} {x : Obj} (h : w.heap[k]? = some x) (hb : Below w.heap.size w w') : w'.heap[k]? = some x := by
  have hk : k < w.heap.size := by
    rcases Nat.lt_or_ge k w.heap.size with h' | h'
    · exact h'
    · rw [Array.getElem?_eq_none h'] at h
      cases h
  rw [hb.block k hk]
  exact h
theorem cat_le (a s b : ByteArray) (hs : s.size ≤ 21) (ha : a.size ≤ 100) (hb : b.size ≤ 100) : (a ++ s ++ b).size ≤ 1000 := by
  rw [ByteArray.size_append, ByteArray.size_append]
  omega
abbrev zero3 : Obj := .cells #[.int .i64 0, .int .i64 0, .int .i64 0] 40
abbrev zeroC : Obj := .cells #[.int .i64 0, .int .i64 0, .int .i64 0] 55

set_option maxHeartbeats 1000000 in
theorem easter_before (y : Int) (w : World) (h0 : -9223372036854775808 ≤ y) (h1 : y < 1583) (ht : Tab w) :
    Calls Ybad.prog 14 #[.int .i64 y] w fun e w' => ∃ a : Addr, e = .returned (.tuple #[dateV 0 0 0, .iface 74 (.pointer (some a))]) ∧ Below w.heap.size w w' := by
  have hb0 : Below w.heap.size w (w.alloc zero3) := (Below.refl _ _).alloc (Nat.le_refl _) _
  have HT := Lib.hid (tabIs_below hb0 ht)
  have HB0 := Lib.hid hb0
  clear ht hb0
  go_enter Ybad.func14, Ybad.ntmps14
  go_wp2_with (go_at_call 24; refine (errBefore_any _ h0 (by omega) _ HT.out).mono ?_; rintro e w1 ⟨a, rfl, hb1⟩; refine Hid.out ?_)
  refine Lib.hid ?_
  obtain ⟨e0, e1, e2, g0, g1, g2⟩ := box_cells (box_below (box_new w zero3) hb1)
  have hz : w.heap.size < w1.heap.size := by have := hb1.size; simp at this; omega
  have HB1 := Lib.hid (HB0.out.trans (hb1.mono (by simp)))
  clear hb1 HT HB0
  go_wp2
  obtain ⟨t0, t1, t2⟩ := stores3 w.heap.size (.int .i64 0) (.int .i64 0) (.int .i64 0) w1 e0 e1 e2
  refine bodyPost_ret (v := .tuple #[dateV 0 0 0, .iface 74 (.pointer (some a))]) (by simp [results, Ybad.results14, go_sem, t0, t1, t2]) rfl ⟨a, rfl, ?_⟩
  exact ((HB1.out.setCell (Nat.le_refl _) _).setCell (Nat.le_refl _) _).setCell (Nat.le_refl _) _

set_option maxHeartbeats 2000000 in
theorem easter_ok (y : Int) (w : World) (h0 : 1583 ≤ y) (h1 : y ≤ 9223372036854775807) (hok : eY y ≤ 9223372036854775807) :
    Calls Ybad.prog 14 #[.int .i64 y] w fun e w' => e = .returned (.tuple #[dateV (eY y) (eM y) (eD y), .nilIface]) ∧ Below w.heap.size w w' := by
  have hb0 : Below w.heap.size w ((w.alloc zero3).alloc zeroC) := ((Below.refl _ _).alloc (Nat.le_refl _) _).alloc (by simp) _
  have r0 : ((w.alloc zero3).alloc zeroC).heap[w.heap.size]? = some zero3 := box_old (box_new w zero3)
  have r1 : ((w.alloc zero3).alloc zeroC).heap[w.heap.size + 1]? = some zeroC := by
    have := box_new (w.alloc zero3) zeroC
    rw [show (w.alloc zero3).heap.size = w.heap.size + 1 from by simp] at this
    exact this
  have hsz : ((w.alloc zero3).alloc zeroC).heap.size = w.heap.size + 2 := by simp
  have HB0 := Lib.hid hb0
  have HR0 := Lib.hid r0
  have HR1 := Lib.hid r1
  have HZ := Lib.hid hsz
  clear hb0 r0 r1 hsz
  go_enter Ybad.func14, Ybad.ntmps14
  go_wp2_with fail
  obtain ⟨c0, c1, c2, g0, g1, g2⟩ := box_cells HR1.out
  refine (set_any (w.heap.size + 1) y 0 0 0 _ h0 h1 c0 c1 c2 g0 g1 g2).mono ?_
  rintro e w1 ⟨rfl, hcent, hg1⟩
  have hr1 : w1.heap[w.heap.size]? = some zero3 := (hg1.block w.heap.size (by rw [HZ.out]; omega) (by simp)).trans HR0.out
  have HB1 := Lib.hid (HB0.out.grown hg1 (by rw [HZ.out]; omega) (fun k hk => by cases hk; omega))
  have HC := Lib.hid hcent
  have HR := Lib.hid hr1
  clear hcent hg1 hr1 c0 c1 c2 g0 g1 g2 HR0 HR1 HZ HB0
  go_wp2_with (go_at_call 22; refine (reckon_ok (w.heap.size + 1) y _ HC.out h0 h1 hok).mono ?_; rintro e w2 ⟨rfl, hb2⟩; refine Hid.out ?_)
  refine Lib.hid ?_
  obtain ⟨e0, e1, e2, k0, k1, k2⟩ := box_cells (box_below HR.out hb2)
  have hz : w.heap.size < w2.heap.size := by have := block_lt_of_cell e0; exact this
  have HB2 := Lib.hid (HB1.out.trans (hb2.mono HB1.out.size))
  clear hb2 HC HR HB1
  go_wp2
  obtain ⟨t0, t1, t2⟩ := stores3 w.heap.size (.int .i64 (eY y)) (.int .i64 (eM y)) (.int .i64 (eD y)) w2 e0 e1 e2
  refine bodyPost_ret (v := .tuple #[dateV (eY y) (eM y) (eD y), .nilIface]) (by simp [results, Ybad.results14, go_sem, t0, t1, t2, hz]) rfl ⟨rfl, ?_⟩
  exact (((HB2.out.setCell (Nat.le_refl _) _).setCell (Nat.le_refl _) _).setCell (Nat.le_refl _) _).alloc (by simp; omega) _

set_option maxHeartbeats 2000000 in
theorem easter_past (y : Int) (w : World) (h0 : 1583 ≤ y) (h1 : y ≤ 9223372036854775807) (hok : 9223372036854775807 < eY y) (ht : Tab w) :
    Calls Ybad.prog 14 #[.int .i64 y] w fun e w' => ∃ a : Addr, e = .returned (.tuple #[dateV 0 0 0, .iface 74 (.pointer (some a))]) ∧ Below w.heap.size w w' := by
  have HT := Lib.hid ht
  clear ht
  have hb0 : Below w.heap.size w ((w.alloc zero3).alloc zeroC) := ((Below.refl _ _).alloc (Nat.le_refl _) _).alloc (by simp) _
  have r0 : ((w.alloc zero3).alloc zeroC).heap[w.heap.size]? = some zero3 := box_old (box_new w zero3)
  have r1 : ((w.alloc zero3).alloc zeroC).heap[w.heap.size + 1]? = some zeroC := by
    have := box_new (w.alloc zero3) zeroC
    rw [show (w.alloc zero3).heap.size = w.heap.size + 1 from by simp] at this
    exact this
  have hsz : ((w.alloc zero3).alloc zeroC).heap.size = w.heap.size + 2 := by simp
  have HB0 := Lib.hid hb0
  have HR0 := Lib.hid r0
  have HR1 := Lib.hid r1
  have HZ := Lib.hid hsz
  clear hb0 r0 r1 hsz
  go_enter Ybad.func14, Ybad.ntmps14
  go_wp2_with fail
  obtain ⟨c0, c1, c2, g0, g1, g2⟩ := box_cells HR1.out
  refine (set_any (w.heap.size + 1) y 0 0 0 _ h0 h1 c0 c1 c2 g0 g1 g2).mono ?_
  rintro e w1 ⟨rfl, hcent, hg1⟩
  have hr1 : w1.heap[w.heap.size]? = some zero3 := (hg1.block w.heap.size (by rw [HZ.out]; omega) (by simp)).trans HR0.out
  have HB1 := Lib.hid (HB0.out.grown hg1 (by rw [HZ.out]; omega) (fun k hk => by cases hk; omega))
  have HC := Lib.hid hcent
  have HR := Lib.hid hr1
  clear hcent hg1 hr1 c0 c1 c2 g0 g1 g2 HR0 HR1 HZ HB0
  go_wp2_with (go_at_call 22; refine (reckon_past (w.heap.size + 1) y _ HC.out h0 h1 hok).mono ?_; rintro e w2 ⟨rfl, hb2⟩; refine Hid.out ?_)
  refine Lib.hid ?_
  have HR2 := Lib.hid (box_below HR.out hb2)
  have hz : w.heap.size < w2.heap.size := block_lt_of_cell (box_cells HR2.out).1
  have HB2 := Lib.hid ((HB1.out.trans (hb2.mono HB1.out.size)).alloc (o := zero3) (by omega))
  have HR3 := Lib.hid (box_old (o := zero3) HR2.out)
  have HT2 := Lib.hid (tabIs_below HB2.out HT.out)
  clear hb2 HC HR HB1 HR2 HT
  go_wp2_with (go_at_call 26; refine (format_any _ (by omega) (by omega) _ HT2.out).mono ?_; rintro e w3 ⟨s3, rfl, hs3, hb3⟩; refine Hid.out ?_)
  refine Lib.hid ?_
  have HB3 := Lib.hid (HB2.out.trans (hb3.mono (by simp; omega)))
  have HR4 := Lib.hid (box_below HR3.out hb3)
  have HT3 := Lib.hid (tabIs_below hb3 HT2.out)
  clear hb3 HT2 HR3 HB2
  go_wp2_with (go_at_call 25; refine (errPast_any _ (cat_le _ _ _ hs3 (by decide) (by decide)) _ HT3.out).mono ?_; rintro e w4 ⟨a, rfl, hb4⟩; refine Hid.out ?_)
  refine Lib.hid ?_
  obtain ⟨e0, e1, e2, k0, k1, k2⟩ := box_cells (box_below HR4.out hb4)
  have HB4 := Lib.hid (HB3.out.trans (hb4.mono HB3.out.size))
  clear hb4 HT3 HR4 HB3
  go_wp2
  obtain ⟨t0, t1, t2⟩ := stores3 w.heap.size (.int .i64 0) (.int .i64 0) (.int .i64 0) w4 e0 e1 e2
  refine bodyPost_ret (v := .tuple #[dateV 0 0 0, .iface 74 (.pointer (some a))]) (by simp [results, Ybad.results14, go_sem, t0, t1, t2]) rfl ⟨a, rfl, ?_⟩
  exact ((HB4.out.setCell (Nat.le_refl _) _).setCell (Nat.le_refl _) _).setCell (Nat.le_refl _) _

end Go.Proofs.YbulkdgfqDoor
