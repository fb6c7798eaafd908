import Derived.Test.YbulkdgfqDoorSibParts
namespace Go.Proofs.YbulkdgfqDoor
open Go.RowKit
set_option linter.unusedVariables false

set_option maxHeartbeats 4000000 in
theorem sibE_2 (a0 a1 a2 : Int) (w : World) (h0 : -9223372036854775808 ≤ a0 ∧ a0 ≤ 9223372036854775807) (h1 : 0 ≤ a1 ∧ a1 ≤ 255) (h2 : 0 ≤ a2 ∧ a2 ≤ 65535) (hs : a1 % 3 = 2) (hk : a2 % 401 - 1 < 0) (hm : (9223182645231841944 + IntKind.u64.wrap a0 % 1000 == -9223372036854775808) = false) :
    Calls Ybad.prog 6 #[.int .i64 a0, .int .u8 a1, .int .u16 a2] w fun e w' => e = .returned (.bool true) ∧ Below w.heap.size w w' := by
  have hmf : ∀ (fn : Fn) (first cap : Array Value) (w : World), (Instr.makeFunc fn first cap).run Ybad.prog w = .ok (.func fn first cap) w := fun _ _ _ _ => rfl
  have hnf := eql_nilFunc
  have hff := eql_func
  have t1 : (a1 % 3 == 1) = false := by rw [hs]; rfl
  have t2 : (a1 % 3 == 2) = true := by rw [hs]; rfl
  have hu := u64_bd a0
  clear hs
  have hlo : -9223372036854775808 < 9223182645231841944 + IntKind.u64.wrap a0 % 1000 := by
    rw [beq_eq_false_iff_ne] at hm
    omega
  go_enter Ybad.func6, Ybad.ntmps6
  go_wp2_with (go_at_call 10; refine (dates_empty _ _ _ (by omega)).mono ?_; rintro e w1 ⟨rfl, rfl⟩; refine Hid.out ?_)
  refine Lib.hid ?_
  go_wp2_with fail
  obtain ⟨q1, q2⟩ := five_cells w (box2 (9223182645231841944 + IntKind.u64.wrap a0 % 1000)) (box2 (a2 % 401 - 1)) (9223182645231841944 + IntKind.u64.wrap a0 % 1000) (9223182645231841944 + IntKind.u64.wrap a0 % 1000 + (a2 % 401 - 1)) (.cells #[.int .i64 0] 3)
  refine (seq_empty _ _ _ (9223182645231841944 + IntKind.u64.wrap a0 % 1000) (9223182645231841944 + IntKind.u64.wrap a0 % 1000 + (a2 % 401 - 1)) _ (by omega) q2 q1).mono ?_
  rintro e w7 ⟨rfl, rfl⟩
  clear q1 q2
  go_wp2_with fail
  go_ret
  exact ⟨rfl, five_below _ _ _ _ _ _⟩

set_option maxHeartbeats 4000000 in
theorem sibR_2 (a0 a1 a2 : Int) (w : World) (h0 : -9223372036854775808 ≤ a0 ∧ a0 ≤ 9223372036854775807) (h1 : 0 ≤ a1 ∧ a1 ≤ 255) (h2 : 0 ≤ a2 ∧ a2 ≤ 65535) (hs : a1 % 3 = 2) (hk : 0 ≤ a2 % 401 - 1) (hbig : 9223182645231841944 + IntKind.u64.wrap a0 % 1000 ≤ 9223372036854775807 - (a2 % 401 - 1)) (hr : refused (9223182645231841944 + IntKind.u64.wrap a0 % 1000)) (ht : Tab w) :
    Calls Ybad.prog 6 #[.int .i64 a0, .int .u8 a1, .int .u16 a2] w fun e w' => e = .returned (.bool true) ∧ Below w.heap.size w w' := by
  have hmf : ∀ (fn : Fn) (first cap : Array Value) (w : World), (Instr.makeFunc fn first cap).run Ybad.prog w = .ok (.func fn first cap) w := fun _ _ _ _ => rfl
  have hnf := eql_nilFunc
  have hff := eql_func
  have t1 : (a1 % 3 == 1) = false := by rw [hs]; rfl
  have t2 : (a1 % 3 == 2) = true := by rw [hs]; rfl
  have hu := u64_bd a0
  clear hs
  obtain ⟨s0, s1, s2⟩ := start2 (9223182645231841944 + IntKind.u64.wrap a0 % 1000) (a2 % 401 - 1) w
  have HR := Lib.hid hr
  have HT1 := Lib.hid (tabIs_below s2 ht)
  have HS := Lib.hid (And.intro s0 (And.intro s1 s2))
  clear hr ht s0 s1 s2
  go_enter Ybad.func6, Ybad.ntmps6
  go_wp2_with (go_at_call 10; refine (dates_no1 _ _ _ (by omega) (by omega) (by omega) HR.out HT1.out).mono ?_; rintro e w1 ⟨a, rfl, hb1⟩; refine Hid.out ?_)
  refine Lib.hid ?_
  obtain ⟨s0, s1, s2⟩ := HS.out
  have c1 := box1_cell (box_below s0 hb1)
  have c2 := box1_cell (box_below s1 hb1)
  have HT2 := Lib.hid (tabIs_below hb1 HT1.out)
  have HB1 := Lib.hid (s2.trans (hb1.mono s2.size))
  have HX1 := Lib.hid (And.intro (box_below s0 hb1) (box_below s1 hb1))
  clear HS s0 s1 s2 hb1 HT1
  go_wp2_with (go_at_call 14; refine (easter_no _ _ (by omega) (by omega) HR.out HT2.out).mono ?_; rintro e w2 ⟨a', rfl, hb2⟩; refine Hid.out ?_)
  refine Lib.hid ?_
  have HB2 := Lib.hid ((HB1.out.trans (hb2.mono HB1.out.size)).alloc (o := zero3) (Nat.le_trans HB1.out.size hb2.size))
  have HT3 := Lib.hid (tabIs_below ((Below.refl w2.heap.size w2).alloc (Nat.le_refl _) zero3) (tabIs_below hb2 HT2.out))
  clear hb2 HT2 HB1 HX1 c1 c2
  go_wp2_with (go_at_call 14; refine (easter_some _ _ (by omega) (by omega) HT3.out).mono ?_; rintro e w3 ⟨y3, m3, d3, r3, rfl, hb3⟩; refine Hid.out ?_)
  refine Lib.hid ?_
  have HB3 := Lib.hid ((HB2.out.trans (hb3.mono HB2.out.size)).alloc (o := .cells #[.int .i64 y3, .int .i64 m3, .int .i64 d3] 40) (Nat.le_trans HB2.out.size hb3.size))
  clear hb3 HT3 HB2 HR
  go_wp2_with fail
  go_quiet (fail)
  go_wp2
  go_ret
  exact ⟨rfl, below_drewN HB3.out _⟩

set_option maxHeartbeats 4000000 in
theorem sibL_2 (a0 a1 a2 : Int) (w : World) (h0 : -9223372036854775808 ≤ a0 ∧ a0 ≤ 9223372036854775807) (h1 : 0 ≤ a1 ∧ a1 ≤ 255) (h2 : 0 ≤ a2 ∧ a2 ≤ 65535) (hs : a1 % 3 = 2) (hk : 0 ≤ a2 % 401 - 1) (hbig : 9223182645231841944 + IntKind.u64.wrap a0 % 1000 ≤ 9223372036854775807 - (a2 % 401 - 1)) (hy : 1583 ≤ 9223182645231841944 + IntKind.u64.wrap a0 % 1000) (hok : eY (9223182645231841944 + IntKind.u64.wrap a0 % 1000) ≤ 9223372036854775807) (hr : refused (9223182645231841944 + IntKind.u64.wrap a0 % 1000 + (a2 % 401 - 1))) (ht : Tab w) :
    Calls Ybad.prog 6 #[.int .i64 a0, .int .u8 a1, .int .u16 a2] w fun e w' => e = .returned (.bool true) ∧ Below w.heap.size w w' := by
  have hmf : ∀ (fn : Fn) (first cap : Array Value) (w : World), (Instr.makeFunc fn first cap).run Ybad.prog w = .ok (.func fn first cap) w := fun _ _ _ _ => rfl
  have hnf := eql_nilFunc
  have hff := eql_func
  have t1 : (a1 % 3 == 1) = false := by rw [hs]; rfl
  have t2 : (a1 % 3 == 2) = true := by rw [hs]; rfl
  have hu := u64_bd a0
  clear hs
  obtain ⟨s0, s1, s2⟩ := start2 (9223182645231841944 + IntKind.u64.wrap a0 % 1000) (a2 % 401 - 1) w
  have HR := Lib.hid hr
  have HT1 := Lib.hid (tabIs_below s2 ht)
  have HS := Lib.hid (And.intro s0 (And.intro s1 s2))
  clear hr ht s0 s1 s2
  go_enter Ybad.func6, Ybad.ntmps6
  go_wp2_with (go_at_call 10; refine (dates_no2 _ _ _ (by omega) (by omega) hok (by omega) HR.out HT1.out).mono ?_; rintro e w1 ⟨a, rfl, hb1⟩; refine Hid.out ?_)
  refine Lib.hid ?_
  obtain ⟨s0, s1, s2⟩ := HS.out
  have c1 := box1_cell (box_below s0 hb1)
  have c2 := box1_cell (box_below s1 hb1)
  have HT2 := Lib.hid (tabIs_below hb1 HT1.out)
  have HB1 := Lib.hid (s2.trans (hb1.mono s2.size))
  clear HS s0 s1 s2 hb1 HT1
  go_wp2_with (go_at_call 14; refine (easter_ok _ _ (by omega) (by omega) hok).mono ?_; rintro e w2 ⟨rfl, hb2⟩; refine Hid.out ?_)
  refine Lib.hid ?_
  have HB2 := Lib.hid ((HB1.out.trans (hb2.mono HB1.out.size)).alloc (o := .cells #[.int .i64 (eY (9223182645231841944 + IntKind.u64.wrap a0 % 1000)), .int .i64 (eM (9223182645231841944 + IntKind.u64.wrap a0 % 1000)), .int .i64 (eD (9223182645231841944 + IntKind.u64.wrap a0 % 1000))] 40) (Nat.le_trans HB1.out.size hb2.size))
  have HT3 := Lib.hid (tabIs_below ((Below.refl w2.heap.size w2).alloc (Nat.le_refl _) (.cells #[.int .i64 (eY (9223182645231841944 + IntKind.u64.wrap a0 % 1000)), .int .i64 (eM (9223182645231841944 + IntKind.u64.wrap a0 % 1000)), .int .i64 (eD (9223182645231841944 + IntKind.u64.wrap a0 % 1000))] 40)) (tabIs_below hb2 HT2.out))
  clear hb2 HT2 HB1 c1 c2
  go_wp2_with (go_at_call 14; refine (easter_no _ _ (by omega) (by omega) HR.out HT3.out).mono ?_; rintro e w3 ⟨a', rfl, hb3⟩; refine Hid.out ?_)
  refine Lib.hid ?_
  have HB3 := Lib.hid ((HB2.out.trans (hb3.mono HB2.out.size)).alloc (o := zero3) (Nat.le_trans HB2.out.size hb3.size))
  clear hb3 HT3 HB2 HR
  go_wp2_with fail
  go_quiet (fail)
  go_wp2
  go_ret
  exact ⟨rfl, below_drewN HB3.out _⟩

set_option maxHeartbeats 4000000 in
theorem sibO_2 (a0 a1 a2 : Int) (w : World) (h0 : -9223372036854775808 ≤ a0 ∧ a0 ≤ 9223372036854775807) (h1 : 0 ≤ a1 ∧ a1 ≤ 255) (h2 : 0 ≤ a2 ∧ a2 ≤ 65535) (hs : a1 % 3 = 2) (hk : 0 ≤ a2 % 401 - 1) (hbig : 9223182645231841944 + IntKind.u64.wrap a0 % 1000 ≤ 9223372036854775807 - (a2 % 401 - 1)) (hy : 1583 ≤ 9223182645231841944 + IntKind.u64.wrap a0 % 1000) (hok : eY (9223182645231841944 + IntKind.u64.wrap a0 % 1000 + (a2 % 401 - 1)) ≤ 9223372036854775807) :
    Calls Ybad.prog 6 #[.int .i64 a0, .int .u8 a1, .int .u16 a2] w fun e w' => e = .returned (.bool true) ∧ Below w.heap.size w w' := by
  have hmf : ∀ (fn : Fn) (first cap : Array Value) (w : World), (Instr.makeFunc fn first cap).run Ybad.prog w = .ok (.func fn first cap) w := fun _ _ _ _ => rfl
  have hnf := eql_nilFunc
  have hff := eql_func
  have t1 : (a1 % 3 == 1) = false := by rw [hs]; rfl
  have t2 : (a1 % 3 == 2) = true := by rw [hs]; rfl
  have hu := u64_bd a0
  clear hs
  obtain ⟨s0, s1, s2⟩ := start2 (9223182645231841944 + IntKind.u64.wrap a0 % 1000) (a2 % 401 - 1) w
  have hoky : eY (9223182645231841944 + IntKind.u64.wrap a0 % 1000) ≤ 9223372036854775807 := by have := eY_mono (9223182645231841944 + IntKind.u64.wrap a0 % 1000) (9223182645231841944 + IntKind.u64.wrap a0 % 1000 + (a2 % 401 - 1)) (by omega); omega
  have HS := Lib.hid (And.intro s0 (And.intro s1 s2))
  clear s0 s1 s2
  go_enter Ybad.func6, Ybad.ntmps6
  go_wp2_with (go_at_call 10; refine (dates_ok _ _ _ (by omega) (by omega) (by omega) hok).mono ?_; rintro e w1 ⟨rfl, hbf, hbl, hb1⟩; refine Hid.out ?_)
  refine Lib.hid ?_
  obtain ⟨s0, s1, s2⟩ := HS.out
  have hz0 : ((w.alloc (box2 (9223182645231841944 + IntKind.u64.wrap a0 % 1000))).alloc (box2 (a2 % 401 - 1))).heap.size = w.heap.size + 1 + 1 := by simp
  rw [hz0] at hbf hbl
  have c1 := box1_cell (box_below s0 hb1)
  have c2 := box1_cell (box_below s1 hb1)
  have HX1 := Lib.hid (And.intro (box_below s0 hb1) (And.intro (box_below s1 hb1) (And.intro hbf hbl)))
  have HB1 := Lib.hid (s2.trans (hb1.mono s2.size))
  clear HS s0 s1 s2 hb1 hbf hbl hz0
  go_wp2_with (go_at_call 14; refine (easter_ok _ _ (by omega) (by omega) hoky).mono ?_; rintro e w2 ⟨rfl, hb2⟩; refine Hid.out ?_)
  refine Lib.hid ?_
  obtain ⟨x1, x2, x3, x4⟩ := HX1.out
  have HB2 := Lib.hid ((HB1.out.trans (hb2.mono HB1.out.size)).alloc (o := .cells #[.int .i64 (eY (9223182645231841944 + IntKind.u64.wrap a0 % 1000)), .int .i64 (eM (9223182645231841944 + IntKind.u64.wrap a0 % 1000)), .int .i64 (eD (9223182645231841944 + IntKind.u64.wrap a0 % 1000))] 40) (Nat.le_trans HB1.out.size hb2.size))
  have HX2 := Lib.hid (And.intro (box_old (o := .cells #[.int .i64 (eY (9223182645231841944 + IntKind.u64.wrap a0 % 1000)), .int .i64 (eM (9223182645231841944 + IntKind.u64.wrap a0 % 1000)), .int .i64 (eD (9223182645231841944 + IntKind.u64.wrap a0 % 1000))] 40) (box_below x1 hb2)) (And.intro (box_old (o := .cells #[.int .i64 (eY (9223182645231841944 + IntKind.u64.wrap a0 % 1000)), .int .i64 (eM (9223182645231841944 + IntKind.u64.wrap a0 % 1000)), .int .i64 (eD (9223182645231841944 + IntKind.u64.wrap a0 % 1000))] 40) (box_below x2 hb2)) (And.intro (box_old (o := .cells #[.int .i64 (eY (9223182645231841944 + IntKind.u64.wrap a0 % 1000)), .int .i64 (eM (9223182645231841944 + IntKind.u64.wrap a0 % 1000)), .int .i64 (eD (9223182645231841944 + IntKind.u64.wrap a0 % 1000))] 40) (box_below x3 hb2)) (box_old (o := .cells #[.int .i64 (eY (9223182645231841944 + IntKind.u64.wrap a0 % 1000)), .int .i64 (eM (9223182645231841944 + IntKind.u64.wrap a0 % 1000)), .int .i64 (eD (9223182645231841944 + IntKind.u64.wrap a0 % 1000))] 40) (box_below x4 hb2)))))
  clear hb2 HB1 c1 c2 HX1 x1 x2 x3 x4
  go_wp2_with (go_at_call 14; refine (easter_ok _ _ (by omega) (by omega) hok).mono ?_; rintro e w3 ⟨rfl, hb3⟩; refine Hid.out ?_)
  refine Lib.hid ?_
  obtain ⟨x1, x2, x3, x4⟩ := HX2.out
  have HB3 := Lib.hid ((HB2.out.trans (hb3.mono HB2.out.size)).alloc (o := .cells #[.int .i64 (eY (9223182645231841944 + IntKind.u64.wrap a0 % 1000 + (a2 % 401 - 1))), .int .i64 (eM (9223182645231841944 + IntKind.u64.wrap a0 % 1000 + (a2 % 401 - 1))), .int .i64 (eD (9223182645231841944 + IntKind.u64.wrap a0 % 1000 + (a2 % 401 - 1)))] 40) (Nat.le_trans HB2.out.size hb3.size))
  have HX3 := Lib.hid (And.intro (box_old (o := .cells #[.int .i64 (eY (9223182645231841944 + IntKind.u64.wrap a0 % 1000 + (a2 % 401 - 1))), .int .i64 (eM (9223182645231841944 + IntKind.u64.wrap a0 % 1000 + (a2 % 401 - 1))), .int .i64 (eD (9223182645231841944 + IntKind.u64.wrap a0 % 1000 + (a2 % 401 - 1)))] 40) (box_below x1 hb3)) (And.intro (box_old (o := .cells #[.int .i64 (eY (9223182645231841944 + IntKind.u64.wrap a0 % 1000 + (a2 % 401 - 1))), .int .i64 (eM (9223182645231841944 + IntKind.u64.wrap a0 % 1000 + (a2 % 401 - 1))), .int .i64 (eD (9223182645231841944 + IntKind.u64.wrap a0 % 1000 + (a2 % 401 - 1)))] 40) (box_below x2 hb3)) (And.intro (box_old (o := .cells #[.int .i64 (eY (9223182645231841944 + IntKind.u64.wrap a0 % 1000 + (a2 % 401 - 1))), .int .i64 (eM (9223182645231841944 + IntKind.u64.wrap a0 % 1000 + (a2 % 401 - 1))), .int .i64 (eD (9223182645231841944 + IntKind.u64.wrap a0 % 1000 + (a2 % 401 - 1)))] 40) (box_below x3 hb3)) (box_old (o := .cells #[.int .i64 (eY (9223182645231841944 + IntKind.u64.wrap a0 % 1000 + (a2 % 401 - 1))), .int .i64 (eM (9223182645231841944 + IntKind.u64.wrap a0 % 1000 + (a2 % 401 - 1))), .int .i64 (eD (9223182645231841944 + IntKind.u64.wrap a0 % 1000 + (a2 % 401 - 1)))] 40) (box_below x4 hb3)))))
  clear hb3 HB2 HX2 x1 x2 x3 x4
  go_wp2_with fail
  go_quiet (fail)
  have HB4 := Lib.hid (below_drewN HB3.out nq)
  have HX4 := Lib.hid (drewN4 HX3.out nq)
  clear HB3 HX3
  generalize (w3.alloc (.cells #[.int .i64 (eY (9223182645231841944 + IntKind.u64.wrap a0 % 1000 + (a2 % 401 - 1))), .int .i64 (eM (9223182645231841944 + IntKind.u64.wrap a0 % 1000 + (a2 % 401 - 1))), .int .i64 (eD (9223182645231841944 + IntKind.u64.wrap a0 % 1000 + (a2 % 401 - 1)))] 40)).drewN nq = W5 at HB4 HX4 ⊢
  go_wp2_with fail
  obtain ⟨x1, x2, x3, x4⟩ := HX4.out
  refine (seq_sib w.heap.size (w.heap.size + 1 + 1 + 1) (w.heap.size + 1 + 1) w.heap.size (W5.heap.size + 1) W5.heap.size (w.heap.size + 1) (9223182645231841944 + IntKind.u64.wrap a0 % 1000) (9223182645231841944 + IntKind.u64.wrap a0 % 1000 + (a2 % 401 - 1)) (a2 % 401 - 1) _ (sibB_of (lt_of_box x4) (by simp)) rfl (by omega) (by omega) hy (by omega) hok (sibW_of x1 x2 x4 HB4.out) (box1_cell (box_old (box_old x3)))).mono ?_
  rintro e w7 ⟨rfl, hsw⟩
  have c1 := hsw.co
  have c2 := hsw.cc
  have c3 := hsw.ck
  rw [show 9223182645231841944 + IntKind.u64.wrap a0 % 1000 + (a2 % 401 - 1) + 1 - (9223182645231841944 + IntKind.u64.wrap a0 % 1000) = a2 % 401 - 1 + 1 from by omega] at c2
  have HB7 := Lib.hid (sib_bel HB4.out hsw)
  clear hsw HX4 HB4 x1 x2 x3 x4
  go_wp2_with fail
  go_ret
  exact ⟨rfl, HB7.out⟩

theorem law_sib_2 (a0 a1 a2 : Int) (w : World) (h0 : -9223372036854775808 ≤ a0 ∧ a0 ≤ 9223372036854775807) (h1 : 0 ≤ a1 ∧ a1 ≤ 255) (h2 : 0 ≤ a2 ∧ a2 ≤ 65535) (hs : a1 % 3 = 2) (ht : Tab w) :
    Calls Ybad.prog 6 #[.int .i64 a0, .int .u8 a1, .int .u16 a2] w fun e w' => e = .returned (.bool true) ∧ Below w.heap.size w w' := by
  have hu := u64_bd a0
  by_cases hk : 0 ≤ a2 % 401 - 1
  · have hbig : 9223182645231841944 + IntKind.u64.wrap a0 % 1000 ≤ 9223372036854775807 - (a2 % 401 - 1) := by omega
    by_cases hr : refused (9223182645231841944 + IntKind.u64.wrap a0 % 1000)
    · exact sibR_2 a0 a1 a2 w h0 h1 h2 hs hk hbig hr ht
    · have hy : 1583 ≤ 9223182645231841944 + IntKind.u64.wrap a0 % 1000 := by
        by_cases h : 9223182645231841944 + IntKind.u64.wrap a0 % 1000 < 1583
        · exact absurd (Or.inl h) hr
        · omega
      have hoy : eY (9223182645231841944 + IntKind.u64.wrap a0 % 1000) ≤ 9223372036854775807 := by
        by_cases h : 9223372036854775807 < eY (9223182645231841944 + IntKind.u64.wrap a0 % 1000)
        · exact absurd (Or.inr h) hr
        · omega
      by_cases hl : refused (9223182645231841944 + IntKind.u64.wrap a0 % 1000 + (a2 % 401 - 1))
      · exact sibL_2 a0 a1 a2 w h0 h1 h2 hs hk hbig hy hoy hl ht
      · have hok : eY (9223182645231841944 + IntKind.u64.wrap a0 % 1000 + (a2 % 401 - 1)) ≤ 9223372036854775807 := by
          by_cases h : 9223372036854775807 < eY (9223182645231841944 + IntKind.u64.wrap a0 % 1000 + (a2 % 401 - 1))
          · exact absurd (Or.inr h) hl
          · omega
        exact sibO_2 a0 a1 a2 w h0 h1 h2 hs hk hbig hy hok
  · have hk : a2 % 401 - 1 < 0 := by omega
    exact sibE_2 a0 a1 a2 w h0 h1 h2 hs hk (by rw [beq_eq_false_iff_ne]; omega)

end Go.Proofs.YbulkdgfqDoor
