import Derived.Test.YbulkdgfqDoorEaster
namespace Go.Proofs.YbulkdgfqDoor
open Go.RowKit

/-- OrthodoxEaster refuses y -/
def refused (y : Int) : Prop := y < 1583 ∨ 9223372036854775807 < eY y
theorem easter_no (y : Int) (w : World) (h0 : -9223372036854775808 ≤ y) (h1 : y ≤ 9223372036854775807) (h : refused y) (ht : Tab w) :
    Calls Ybad.prog 14 #[.int .i64 y] w fun e w' => ∃ a : Addr, e = .returned (.tuple #[dateV 0 0 0, .iface 74 (.pointer (some a))]) ∧ Below w.heap.size w w' := by
  by_cases hb : y < 1583
  · exact easter_before y w h0 hb ht
  · rcases h with h | h
    · exact absurd h hb
    · exact easter_past y w (by omega) h1 h ht

/-- what OrthodoxEasterDates hands back where it answers -/
abbrev seqV (B : Nat) : Value := .func (.func 20) #[] #[.pointer (some ⟨B + 1, 0, none⟩), .pointer (some ⟨B, 0, none⟩)]
abbrev box2 (n : Int) : Obj := .cells #[.int .i64 n] 2

set_option maxHeartbeats 1000000 in
theorem dates_empty (f l : Int) (w : World) (h : l < f) :
    Calls Ybad.prog 10 #[.int .i64 f, .int .i64 l] w fun e w' => e = .returned (.tuple #[seqV w.heap.size, .nilIface]) ∧ w' = (w.alloc (box2 f)).alloc (box2 l) := by
  have hmf : ∀ (fn : Fn) (first cap : Array Value) (w : World), (Instr.makeFunc fn first cap).run Ybad.prog w = .ok (.func fn first cap) w := fun _ _ _ _ => rfl
  have h' : ¬ f ≤ l := by omega
  go_enter Ybad.func10, Ybad.ntmps10
  go_wp2
  go_ret2
  exact ⟨rfl, rfl⟩

/-- the world in which the loop over the two years begins -/
theorem start3 (f l : Int) (w : World) : (((w.alloc (box2 f)).alloc (box2 l)).alloc (.cells #[.int .i64 f, .int .i64 l] 2)).heap[w.heap.size]? = some (box2 f) ∧
    (((w.alloc (box2 f)).alloc (box2 l)).alloc (.cells #[.int .i64 f, .int .i64 l] 2)).heap[w.heap.size + 1]? = some (box2 l) ∧
    (((w.alloc (box2 f)).alloc (box2 l)).alloc (.cells #[.int .i64 f, .int .i64 l] 2)).heap[w.heap.size + 1 + 1]? = some (.cells #[.int .i64 f, .int .i64 l] 2) ∧
    Below w.heap.size w (((w.alloc (box2 f)).alloc (box2 l)).alloc (.cells #[.int .i64 f, .int .i64 l] 2)) := by
  refine ⟨box_old (box_old (box_new _ _)), box_old ?_, ?_, (((Below.refl _ _).alloc (Nat.le_refl _) _).alloc (by simp) _).alloc (by simp; omega) _⟩
  · have := box_new (w.alloc (box2 f)) (box2 l)
    rw [show (w.alloc (box2 f)).heap.size = w.heap.size + 1 from by simp] at this
    exact this
  · have := box_new ((w.alloc (box2 f)).alloc (box2 l)) (.cells #[.int .i64 f, .int .i64 l] 2)
    rw [show ((w.alloc (box2 f)).alloc (box2 l)).heap.size = w.heap.size + 1 + 1 from by simp] at this
    exact this
theorem pair_cells {W : World} {B : Nat} {t : TypeId} {a b : Value} (h : W.heap[B]? = some (.cells #[a, b] t)) : W.cell? ⟨B, 0, none⟩ = some a ∧ W.cell? ⟨B, 1, none⟩ = some b := by
  unfold World.cell?
  rw [h]
  simp
theorem lt_of_box {w : World} {k : Nat} {x : Obj} (h : w.heap[k]? = some x) : k < w.heap.size := by
  rcases Nat.lt_or_ge k w.heap.size with h' | h'
  · exact h'
  · rw [Array.getElem?_eq_none h'] at h
    cases h

set_option maxHeartbeats 2000000 in
theorem dates_ok (f l : Int) (w : World) (h : f ≤ l) (f0 : 1583 ≤ f) (l1 : l ≤ 9223372036854775807) (hok : eY l ≤ 9223372036854775807) :
    Calls Ybad.prog 10 #[.int .i64 f, .int .i64 l] w fun e w' => e = .returned (.tuple #[seqV w.heap.size, .nilIface]) ∧ w'.heap[w.heap.size]? = some (box2 f) ∧ w'.heap[w.heap.size + 1]? = some (box2 l) ∧ Below w.heap.size w w' := by
  have hmf : ∀ (fn : Fn) (first cap : Array Value) (w : World), (Instr.makeFunc fn first cap).run Ybad.prog w = .ok (.func fn first cap) w := fun _ _ _ _ => rfl
  have hokf : eY f ≤ 9223372036854775807 := by have := eY_mono f l h; omega
  have hst := start3 f l w
  have HS := Lib.hid hst
  clear hst
  go_enter Ybad.func10, Ybad.ntmps10
  go_wp2_with fail
  refine wp_loop_rounds 3 ?_
  rw [rounds_succ]
  go_wp2_with (go_at_call 14; refine (easter_ok _ _ (by omega) (by omega) (by omega)).mono ?_; rintro e w1 ⟨rfl, hb1⟩; refine Hid.out ?_)
  refine Lib.hid ?_
  obtain ⟨s0, s1, s2, s3⟩ := HS.out
  have HB1 := Lib.hid ((s3.trans (hb1.mono s3.size)).alloc (o := .cells #[.int .i64 (eY f), .int .i64 (eM f), .int .i64 (eD f)] 40) (Nat.le_trans s3.size hb1.size))
  have HS0 := Lib.hid (box_old (o := .cells #[.int .i64 (eY f), .int .i64 (eM f), .int .i64 (eD f)] 40) (box_below s0 hb1))
  have HS1 := Lib.hid (box_old (o := .cells #[.int .i64 (eY f), .int .i64 (eM f), .int .i64 (eD f)] 40) (box_below s1 hb1))
  have HS2 := Lib.hid (box_old (o := .cells #[.int .i64 (eY f), .int .i64 (eM f), .int .i64 (eD f)] 40) (box_below s2 hb1))
  clear hb1 HS s0 s1 s2 s3
  go_wp2_with fail
  rw [rounds_succ]
  generalize w1.alloc (.cells #[.int .i64 (eY f), .int .i64 (eM f), .int .i64 (eD f)] 40) = W2 at HB1 HS0 HS1 HS2 ⊢
  obtain ⟨p0, p1⟩ := pair_cells HS2.out
  go_wp2_with (go_at_call 14; refine (easter_ok _ _ (by omega) (by omega) (by omega)).mono ?_; rintro e w3 ⟨rfl, hb3⟩; refine Hid.out ?_)
  refine Lib.hid ?_
  have HB3 := Lib.hid ((HB1.out.trans (hb3.mono HB1.out.size)).alloc (o := .cells #[.int .i64 (eY l), .int .i64 (eM l), .int .i64 (eD l)] 40) (Nat.le_trans HB1.out.size hb3.size))
  have HT0 := Lib.hid (box_old (o := .cells #[.int .i64 (eY l), .int .i64 (eM l), .int .i64 (eD l)] 40) (box_below HS0.out hb3))
  have HT1 := Lib.hid (box_old (o := .cells #[.int .i64 (eY l), .int .i64 (eM l), .int .i64 (eD l)] 40) (box_below HS1.out hb3))
  clear hb3 HS0 HS1 HS2 HB1
  go_wp2_with fail
  rw [rounds_succ]
  go_wp2_with fail
  go_ret2
  exact ⟨rfl, HT0.out, HT1.out, HB3.out⟩

set_option maxHeartbeats 2000000 in
theorem dates_no1 (f l : Int) (w : World) (h : f ≤ l) (f0 : -9223372036854775808 ≤ f) (l1 : l ≤ 9223372036854775807) (hno : refused f) (ht : Tab w) :
    Calls Ybad.prog 10 #[.int .i64 f, .int .i64 l] w fun e w' => ∃ a : Addr, e = .returned (.tuple #[.nilFunc, .iface 74 (.pointer (some a))]) ∧ Below w.heap.size w w' := by
  have hmf : ∀ (fn : Fn) (first cap : Array Value) (w : World), (Instr.makeFunc fn first cap).run Ybad.prog w = .ok (.func fn first cap) w := fun _ _ _ _ => rfl
  have hst := start3 f l w
  have HT := Lib.hid (tabIs_below hst.2.2.2 ht)
  have HS := Lib.hid hst
  have HN := Lib.hid hno
  clear hst ht hno
  go_enter Ybad.func10, Ybad.ntmps10
  go_wp2_with fail
  refine wp_loop_rounds 3 ?_
  rw [rounds_succ]
  go_wp2_with (go_at_call 14; refine (easter_no _ _ (by omega) (by omega) HN.out HT.out).mono ?_; rintro e w1 ⟨a, rfl, hb1⟩; refine Hid.out ?_)
  refine Lib.hid ?_
  obtain ⟨s0, s1, s2, s3⟩ := HS.out
  have HB1 := Lib.hid ((s3.trans (hb1.mono s3.size)).alloc (o := zero3) (Nat.le_trans s3.size hb1.size))
  clear hb1 HS s0 s1 s2 s3 HN HT
  go_wp2_with fail
  go_ret2
  exact ⟨a, rfl, HB1.out⟩

set_option maxHeartbeats 2000000 in
theorem dates_no2 (f l : Int) (w : World) (h : f ≤ l) (f0 : 1583 ≤ f) (hokf : eY f ≤ 9223372036854775807) (l1 : l ≤ 9223372036854775807) (hno : refused l) (ht : Tab w) :
    Calls Ybad.prog 10 #[.int .i64 f, .int .i64 l] w fun e w' => ∃ a : Addr, e = .returned (.tuple #[.nilFunc, .iface 74 (.pointer (some a))]) ∧ Below w.heap.size w w' := by
  have hmf : ∀ (fn : Fn) (first cap : Array Value) (w : World), (Instr.makeFunc fn first cap).run Ybad.prog w = .ok (.func fn first cap) w := fun _ _ _ _ => rfl
  have hst := start3 f l w
  have HS := Lib.hid hst
  have HN := Lib.hid hno
  have HT := Lib.hid ht
  clear hst ht hno
  go_enter Ybad.func10, Ybad.ntmps10
  go_wp2_with fail
  refine wp_loop_rounds 3 ?_
  rw [rounds_succ]
  go_wp2_with (go_at_call 14; refine (easter_ok _ _ (by omega) (by omega) (by omega)).mono ?_; rintro e w1 ⟨rfl, hb1⟩; refine Hid.out ?_)
  refine Lib.hid ?_
  obtain ⟨s0, s1, s2, s3⟩ := HS.out
  have HB1 := Lib.hid ((s3.trans (hb1.mono s3.size)).alloc (o := .cells #[.int .i64 (eY f), .int .i64 (eM f), .int .i64 (eD f)] 40) (Nat.le_trans s3.size hb1.size))
  have HS2 := Lib.hid (box_old (o := .cells #[.int .i64 (eY f), .int .i64 (eM f), .int .i64 (eD f)] 40) (box_below s2 hb1))
  clear hb1 HS s0 s1 s2 s3
  go_wp2_with fail
  rw [rounds_succ]
  generalize w1.alloc (.cells #[.int .i64 (eY f), .int .i64 (eM f), .int .i64 (eD f)] 40) = W2 at HB1 HS2 ⊢
  obtain ⟨p0, p1⟩ := pair_cells HS2.out
  have HT2 := Lib.hid (tabIs_below HB1.out HT.out)
  go_wp2_with (go_at_call 14; refine (easter_no _ _ (by omega) (by omega) HN.out HT2.out).mono ?_; rintro e w3 ⟨a, rfl, hb3⟩; refine Hid.out ?_)
  refine Lib.hid ?_
  have HB3 := Lib.hid ((HB1.out.trans (hb3.mono HB1.out.size)).alloc (o := zero3) (Nat.le_trans HB1.out.size hb3.size))
  clear hb3 HS2 HB1 HT HT2 HN
  go_wp2_with fail
  go_ret2
  exact ⟨a, rfl, HB3.out⟩

end Go.Proofs.YbulkdgfqDoor
