import Derived.Test.YbulkdgfqDoorModSeq
import Derived.Test.YbulkdgfqDoorModelFn
import Derived.Test.YbulkdgfqDoorSibParts
namespace Go.Proofs.YbulkdgfqDoor
open Go.RowKit
set_option linter.unusedVariables false

theorem eY_small (y : Int) (h0 : 1583 ≤ y) (h1 : y ≤ 100000) : eY y ≤ 9223372036854775807 := by
  have hd := days_bd y
  have ht := tY_bd (days y) hd.1 (by omega)
  have hf := fr_bd y
  have hc : cyc y = 0 := by unfold cyc gap; omega
  unfold eY yrs
  rw [hc]
  omega

theorem flat_length (y : Int) (m : Nat) : (flat y m).length = m * 3 := by
  induction m with
  | zero => rfl
  | succ m ih =>
    show (flat y m ++ cells3 _ _ _).length = _
    rw [List.length_append, ih]
    show m * 3 + 3 = _
    omega
theorem flat_at (y : Int) (m j : Nat) (h : j < m) : (flat y m)[j * 3]? = some (.int .i64 (eY (y + j))) ∧ (flat y m)[j * 3 + 1]? = some (.int .i64 (eM (y + j))) ∧ (flat y m)[j * 3 + 2]? = some (.int .i64 (eD (y + j))) := by
  induction m with
  | zero => omega
  | succ m ih =>
    have hl := flat_length y m
    show (flat y m ++ cells3 _ _ _)[j * 3]? = _ ∧ (flat y m ++ cells3 _ _ _)[j * 3 + 1]? = _ ∧ (flat y m ++ cells3 _ _ _)[j * 3 + 2]? = _
    by_cases hj : j < m
    · rw [List.getElem?_append_left (by omega), List.getElem?_append_left (by omega), List.getElem?_append_left (by omega)]
      exact ih hj
    · have e : j = m := by omega
      subst e
      rw [List.getElem?_append_right (by omega), List.getElem?_append_right (by omega), List.getElem?_append_right (by omega), hl]
      rw [show j * 3 - j * 3 = 0 from by omega, show j * 3 + 1 - j * 3 = 1 from by omega, show j * 3 + 2 - j * 3 = 2 from by omega]
      exact ⟨rfl, rfl, rfl⟩

abbrev boxN (n : Int) : Obj := .cells #[.int .i64 n] 3
theorem four_cells (w : World) (A : Obj) (f l : Int) (E : Obj) : ((((w.alloc A).alloc (box2 f)).alloc (box2 l)).alloc E).cell? ⟨w.heap.size + 1, 0, none⟩ = some (.int .i64 f) ∧ ((((w.alloc A).alloc (box2 f)).alloc (box2 l)).alloc E).cell? ⟨w.heap.size + 1 + 1, 0, none⟩ = some (.int .i64 l) := by
  obtain ⟨h1, h2, _⟩ := start2 f l (w.alloc A)
  rw [show (w.alloc A).heap.size = w.heap.size + 1 from by simp] at h1 h2
  exact ⟨box1_cell (box_old h1), box1_cell (box_old h2)⟩
theorem four_below (w : World) (A B C D : Obj) : Below w.heap.size w ((((w.alloc A).alloc B).alloc C).alloc D) :=
  ((((Below.refl _ _).alloc (Nat.le_refl _) _).alloc (by simp) _).alloc (by simp; omega) _).alloc (by simp; omega) _

set_option maxHeartbeats 4000000 in
theorem mod_empty (a0 a1 a2 : Int) (w : World) (h0 : 0 ≤ a0) (h1 : 0 ≤ a1 ∧ a1 ≤ 65535) (h2 : 0 ≤ a2 ∧ a2 ≤ 65535) (hn : a1 % 300 = 0) :
    Calls Ybad.prog 5 #[.int .u64 a0, .int .u16 a1, .int .u16 a2] w fun e w' => e = .returned (.bool true) ∧ Below w.heap.size w w' := by
  have hmf : ∀ (fn : Fn) (first cap : Array Value) (w : World), (Instr.makeFunc fn first cap).run Ybad.prog w = .ok (.func fn first cap) w := fun _ _ _ _ => rfl
  have hnf := eql_nilFunc
  have hff := eql_func
  go_enter Ybad.func5, Ybad.ntmps5
  go_wp2_with (go_at_call 10; refine (dates_empty _ _ _ (by omega)).mono ?_; rintro e w1 ⟨rfl, rfl⟩; refine Hid.out ?_)
  refine Lib.hid ?_
  go_wp2_with fail
  obtain ⟨q1, q2⟩ := four_cells w (boxN (a2 % 512)) (1583 + a0 % 40000) (1583 + a0 % 40000 - 1) (.cells #[.slice none 0 0] 37)
  refine (seq_empty _ _ _ (1583 + a0 % 40000) (1583 + a0 % 40000 - 1) _ (by omega) q2 q1).mono ?_
  rintro e w7 ⟨rfl, rfl⟩
  clear q1 q2
  go_wp2_with fail
  refine wp_loop_rounds 1 ?_
  rw [rounds_succ]
  go_wp2_with fail
  go_ret
  exact ⟨rfl, four_below _ _ _ _ _⟩

theorem keep4 {W w1 : World} (hb : Below W.heap.size W w1) {a b c d : Addr} {x y z u : Value} (h : W.cell? a = some x ∧ W.cell? b = some y ∧ W.cell? c = some z ∧ W.cell? d = some u) : w1.cell? a = some x ∧ w1.cell? b = some y ∧ w1.cell? c = some z ∧ w1.cell? d = some u :=
  ⟨(hb.cell (block_lt_of_cell h.1)).trans h.1, (hb.cell (block_lt_of_cell h.2.1)).trans h.2.1, (hb.cell (block_lt_of_cell h.2.2.1)).trans h.2.2.1, (hb.cell (block_lt_of_cell h.2.2.2)).trans h.2.2.2⟩
theorem boxN_cell {W : World} {B : Nat} {n : Int} (h : W.heap[B]? = some (boxN n)) : W.cell? ⟨B, 0, none⟩ = some (.int .i64 n) := by
  unfold World.cell?
  rw [h]
  simp
theorem boxS_cell (w : World) : (w.alloc (.cells #[.slice none 0 0] 37)).cell? ⟨w.heap.size, 0, none⟩ = some (.slice none 0 0) ∧ (w.alloc (.cells #[.slice none 0 0] 37)).frozen? ⟨w.heap.size, 0, none⟩ = false := by
  have := box_new w (.cells #[.slice none 0 0] 37)
  unfold World.cell? World.frozen?
  rw [this]
  simp
theorem modB_of {n : Nat} {w : World} {o : Obj} (h : n + 1 + 1 < w.heap.size) : ModB n ((w.alloc o).heap.size + 1) (n + 1 + 1) w.heap.size n (w.alloc o).heap.size := by
  rw [show (w.alloc o).heap.size = w.heap.size + 1 from by simp]
  constructor <;> omega
/-- what the law is told of 'got' -/
theorem mod_shape {B base bs bg bl : Nat} {y l L Z : Int} {w w7 : World} (h : ModW B base bs bg bl y l L (Z + 1) w w7) (hZ : y ≤ Z) :
    ∃ m g cap : Nat, (m : Int) = Z + 1 - y ∧ w7.cell? ⟨bg, 0, none⟩ = some (.slice (some ⟨g, 0, none⟩) m cap) ∧
      ∀ j : Nat, j < m → w7.cell? ⟨g, j * 3, none⟩ = some (.int .i64 (eY (y + j))) ∧ w7.cell? ⟨g, j * 3 + 1, none⟩ = some (.int .i64 (eM (y + j))) ∧ w7.cell? ⟨g, j * 3 + 2, none⟩ = some (.int .i64 (eD (y + j))) := by
  obtain ⟨v, hc, ho⟩ := h.got
  have ho' := ho
  rcases ho.2 with ⟨_, e⟩ | ⟨g, cap, cur, hv, _⟩
  · omega
  · refine ⟨(Z + 1 - y).toNat, g, cap, by omega, by rw [hc, hv], fun j hj => ?_⟩
    obtain ⟨f0, f1, f2⟩ := flat_at y (Z + 1 - y).toNat j hj
    have hcell := ho'.cells (g := g) (by rw [hv]; rfl)
    have g0 := hcell _ _ f0
    have g1 := hcell _ _ f1
    have g2 := hcell _ _ f2
    rw [add_off] at g0 g1 g2
    exact ⟨g0, g1, g2⟩

set_option maxHeartbeats 8000000 in
theorem mod_full_1 (a0 a1 a2 : Int) (w : World) (h0 : 0 ≤ a0) (h1 : 0 ≤ a1 ∧ a1 ≤ 65535) (h2 : 0 ≤ a2 ∧ a2 ≤ 65535) (hn : 1 ≤ a1 % 300) (hL : a2 % 512 < 1) (hc : 1 < a1 % 300) :
    Calls Ybad.prog 5 #[.int .u64 a0, .int .u16 a1, .int .u16 a2] w fun e w' => e = .returned (.bool true) ∧ Below w.heap.size w w' := by
  have hmf : ∀ (fn : Fn) (first cap : Array Value) (w : World), (Instr.makeFunc fn first cap).run Ybad.prog w = .ok (.func fn first cap) w := fun _ _ _ _ => rfl
  have hnf := eql_nilFunc
  have hff := eql_func
  have hok := eY_small (1583 + a0 % 40000 + a1 % 300 - 1) (by omega) (by omega)
  have d1 : decide (0 < a1 % 300) = true := by simp; omega
  have d2 : decide (a2 % 512 < 1) = true := by simp; omega
  have d3 : decide (1 < a1 % 300) = true := by simp; omega
  go_enter Ybad.func5, Ybad.ntmps5
  go_wp2_with (go_at_call 10; refine (dates_ok _ _ _ (by omega) (by omega) (by omega) hok).mono ?_; rintro e w1 ⟨rfl, hbf, hbl, hb1⟩; refine Hid.out ?_)
  refine Lib.hid ?_
  have hz0 : (w.alloc (boxN (a2 % 512))).heap.size = w.heap.size + 1 := by simp
  rw [hz0] at hbf hbl
  have x1 := box_below (box_new w (boxN (a2 % 512))) hb1
  have HX1 := Lib.hid (And.intro x1 (And.intro hbf hbl))
  have HB1 := Lib.hid (((Below.refl w.heap.size w).alloc (Nat.le_refl _) (boxN (a2 % 512))).trans (hb1.mono (by simp)))
  clear x1 hbf hbl hb1 hz0
  go_wp2_with fail
  obtain ⟨x1, x2, x3⟩ := HX1.out
  have lt3 := lt_of_box x3
  refine (seq_mod w.heap.size (w.heap.size + 1 + 1) (w.heap.size + 1) w1.heap.size w.heap.size (1583 + a0 % 40000) (1583 + a0 % 40000 + a1 % 300 - 1) (a2 % 512) _ (modB_of lt3) (by omega) (by omega) (by omega) (by omega) hok (box1_cell (box_old x3)) (boxN_cell (box_old x1)) (boxS_cell w1).1 (boxS_cell w1).2 (box1_cell (box_old x2))).mono ?_
  rintro e w7 ⟨rfl, Z, hZ0, hZ1, hZL, hZE, hmw⟩
  obtain ⟨m, g, cap, hm, hcg, hcells⟩ := mod_shape hmw hZ0
  have hw : ((m : Int) != 1) = false := by simp; omega
  have c2 := hmw.cm
  have hm9 : (m : Int) ≤ 1000 := by omega
  have HC := Lib.hid hcells
  have HB7 := Lib.hid ((HB1.out.alloc (o := .cells #[.slice none 0 0] 37) HB1.out.size).trans hmw.bel)
  have HM := Lib.hid hm
  clear hcells hmw hZL hZE hm HX1 HB1 x1 x2 x3
  go_wp2_with fail
  clear hw c2 hL hc d2 d3
  have lg := block_lt_of_cell hcg
  have HG := Lib.hid hcg
  clear hcg
  go_loopw [16] (fun iv wr => ∃ k : Nat, k ≤ m ∧ iv = .int .i64 k ∧ Below w7.heap.size w7 wr) (fun iv _ => m - (intOf iv).toNat)
  case atStart => exact ⟨0, Nat.zero_le _, rfl, Below.refl _ _⟩
  case round =>
    obtain ⟨k, hk, rfl, hb⟩ := hrel
    have r1 := (hb.cell (p := ⟨w1.heap.size, 0, none⟩) lg).trans HG.out
    have HB := Lib.hid hb
    by_cases hlt : k < m
    · obtain ⟨e0, e1, e2⟩ := HC.out k hlt
      have s0 := (hb.cell (p := ⟨g, k * 3, none⟩) (block_lt_of_cell e0)).trans e0
      have s1 := (hb.cell (p := ⟨g, k * 3 + 1, none⟩) (block_lt_of_cell e1)).trans e1
      have s2 := (hb.cell (p := ⟨g, k * 3 + 2, none⟩) (block_lt_of_cell e2)).trans e2
      clear e0 e1 e2 hb
      have hki : (k : Int) < (m : Int) := by omega
      have hwr : IntKind.i64.wrap (1583 + a0 % 40000 + (k : Int)) = 1583 + a0 % 40000 + (k : Int) := by rw [IntKind.wrap_i64]; omega
      go_wp2_with fail
      go_region_held3 (fun w' => w'.cell? ⟨w1.heap.size, 0, none⟩ = some (.slice (some ⟨g, 0, none⟩) m cap) ∧ w'.cell? ⟨g, k * 3, none⟩ = some (.int .i64 (eY (1583 + a0 % 40000 + k))) ∧ w'.cell? ⟨g, k * 3 + 1, none⟩ = some (.int .i64 (eM (1583 + a0 % 40000 + k))) ∧ w'.cell? ⟨g, k * 3 + 2, none⟩ = some (.int .i64 (eD (1583 + a0 % 40000 + k)))) (first | assumption | simp [*])
        (first
          | (go_at_call 12; refine (model_any _ _ (by omega) (by omega)).mono ?_; rintro e w8 ⟨rfl, hb8⟩; have g8 := keep4 hb8 (by assumption)))
      all_goals
        go_wp2_with fail
        go_roundw
        case rel => exact ⟨k + 1, by omega, by go_num, HB.out.drew.trans (hb8.mono (by simpa using HB.out.size))⟩
        case measure => simp [intOf]; omega
    · clear hb
      go_wp2_with fail
      go_ret
      exact ⟨rfl, HB7.out.trans (HB.out.mono HB7.out.size)⟩

set_option maxHeartbeats 8000000 in
theorem mod_full_2 (a0 a1 a2 : Int) (w : World) (h0 : 0 ≤ a0) (h1 : 0 ≤ a1 ∧ a1 ≤ 65535) (h2 : 0 ≤ a2 ∧ a2 ≤ 65535) (hn : 1 ≤ a1 % 300) (hL : a2 % 512 < 1) (hc : a1 % 300 ≤ 1) :
    Calls Ybad.prog 5 #[.int .u64 a0, .int .u16 a1, .int .u16 a2] w fun e w' => e = .returned (.bool true) ∧ Below w.heap.size w w' := by
  have hmf : ∀ (fn : Fn) (first cap : Array Value) (w : World), (Instr.makeFunc fn first cap).run Ybad.prog w = .ok (.func fn first cap) w := fun _ _ _ _ => rfl
  have hnf := eql_nilFunc
  have hff := eql_func
  have hok := eY_small (1583 + a0 % 40000 + a1 % 300 - 1) (by omega) (by omega)
  have d1 : decide (0 < a1 % 300) = true := by simp; omega
  have d2 : decide (a2 % 512 < 1) = true := by simp; omega
  have d3 : decide (1 < a1 % 300) = false := by simp; omega
  go_enter Ybad.func5, Ybad.ntmps5
  go_wp2_with (go_at_call 10; refine (dates_ok _ _ _ (by omega) (by omega) (by omega) hok).mono ?_; rintro e w1 ⟨rfl, hbf, hbl, hb1⟩; refine Hid.out ?_)
  refine Lib.hid ?_
  have hz0 : (w.alloc (boxN (a2 % 512))).heap.size = w.heap.size + 1 := by simp
  rw [hz0] at hbf hbl
  have x1 := box_below (box_new w (boxN (a2 % 512))) hb1
  have HX1 := Lib.hid (And.intro x1 (And.intro hbf hbl))
  have HB1 := Lib.hid (((Below.refl w.heap.size w).alloc (Nat.le_refl _) (boxN (a2 % 512))).trans (hb1.mono (by simp)))
  clear x1 hbf hbl hb1 hz0
  go_wp2_with fail
  obtain ⟨x1, x2, x3⟩ := HX1.out
  have lt3 := lt_of_box x3
  refine (seq_mod w.heap.size (w.heap.size + 1 + 1) (w.heap.size + 1) w1.heap.size w.heap.size (1583 + a0 % 40000) (1583 + a0 % 40000 + a1 % 300 - 1) (a2 % 512) _ (modB_of lt3) (by omega) (by omega) (by omega) (by omega) hok (box1_cell (box_old x3)) (boxN_cell (box_old x1)) (boxS_cell w1).1 (boxS_cell w1).2 (box1_cell (box_old x2))).mono ?_
  rintro e w7 ⟨rfl, Z, hZ0, hZ1, hZL, hZE, hmw⟩
  obtain ⟨m, g, cap, hm, hcg, hcells⟩ := mod_shape hmw hZ0
  have hw : ((m : Int) != a1 % 300) = false := by simp; omega
  have c2 := hmw.cm
  have hm9 : (m : Int) ≤ 1000 := by omega
  have HC := Lib.hid hcells
  have HB7 := Lib.hid ((HB1.out.alloc (o := .cells #[.slice none 0 0] 37) HB1.out.size).trans hmw.bel)
  have HM := Lib.hid hm
  clear hcells hmw hZL hZE hm HX1 HB1 x1 x2 x3
  go_wp2_with fail
  clear hw c2 hL hc d2 d3
  have lg := block_lt_of_cell hcg
  have HG := Lib.hid hcg
  clear hcg
  go_loopw [16] (fun iv wr => ∃ k : Nat, k ≤ m ∧ iv = .int .i64 k ∧ Below w7.heap.size w7 wr) (fun iv _ => m - (intOf iv).toNat)
  case atStart => exact ⟨0, Nat.zero_le _, rfl, Below.refl _ _⟩
  case round =>
    obtain ⟨k, hk, rfl, hb⟩ := hrel
    have r1 := (hb.cell (p := ⟨w1.heap.size, 0, none⟩) lg).trans HG.out
    have HB := Lib.hid hb
    by_cases hlt : k < m
    · obtain ⟨e0, e1, e2⟩ := HC.out k hlt
      have s0 := (hb.cell (p := ⟨g, k * 3, none⟩) (block_lt_of_cell e0)).trans e0
      have s1 := (hb.cell (p := ⟨g, k * 3 + 1, none⟩) (block_lt_of_cell e1)).trans e1
      have s2 := (hb.cell (p := ⟨g, k * 3 + 2, none⟩) (block_lt_of_cell e2)).trans e2
      clear e0 e1 e2 hb
      have hki : (k : Int) < (m : Int) := by omega
      have hwr : IntKind.i64.wrap (1583 + a0 % 40000 + (k : Int)) = 1583 + a0 % 40000 + (k : Int) := by rw [IntKind.wrap_i64]; omega
      go_wp2_with fail
      go_region_held3 (fun w' => w'.cell? ⟨w1.heap.size, 0, none⟩ = some (.slice (some ⟨g, 0, none⟩) m cap) ∧ w'.cell? ⟨g, k * 3, none⟩ = some (.int .i64 (eY (1583 + a0 % 40000 + k))) ∧ w'.cell? ⟨g, k * 3 + 1, none⟩ = some (.int .i64 (eM (1583 + a0 % 40000 + k))) ∧ w'.cell? ⟨g, k * 3 + 2, none⟩ = some (.int .i64 (eD (1583 + a0 % 40000 + k)))) (first | assumption | simp [*])
        (first
          | (go_at_call 12; refine (model_any _ _ (by omega) (by omega)).mono ?_; rintro e w8 ⟨rfl, hb8⟩; have g8 := keep4 hb8 (by assumption)))
      all_goals
        go_wp2_with fail
        go_roundw
        case rel => exact ⟨k + 1, by omega, by go_num, HB.out.drew.trans (hb8.mono (by simpa using HB.out.size))⟩
        case measure => simp [intOf]; omega
    · clear hb
      go_wp2_with fail
      go_ret
      exact ⟨rfl, HB7.out.trans (HB.out.mono HB7.out.size)⟩

set_option maxHeartbeats 8000000 in
theorem mod_full_3 (a0 a1 a2 : Int) (w : World) (h0 : 0 ≤ a0) (h1 : 0 ≤ a1 ∧ a1 ≤ 65535) (h2 : 0 ≤ a2 ∧ a2 ≤ 65535) (hn : 1 ≤ a1 % 300) (hL : 1 ≤ a2 % 512) (hc : a2 % 512 < a1 % 300) :
    Calls Ybad.prog 5 #[.int .u64 a0, .int .u16 a1, .int .u16 a2] w fun e w' => e = .returned (.bool true) ∧ Below w.heap.size w w' := by
  have hmf : ∀ (fn : Fn) (first cap : Array Value) (w : World), (Instr.makeFunc fn first cap).run Ybad.prog w = .ok (.func fn first cap) w := fun _ _ _ _ => rfl
  have hnf := eql_nilFunc
  have hff := eql_func
  have hok := eY_small (1583 + a0 % 40000 + a1 % 300 - 1) (by omega) (by omega)
  have d1 : decide (0 < a1 % 300) = true := by simp; omega
  have d2 : decide (a2 % 512 < 1) = false := by simp; omega
  have d3 : decide (a2 % 512 < a1 % 300) = true := by simp; omega
  go_enter Ybad.func5, Ybad.ntmps5
  go_wp2_with (go_at_call 10; refine (dates_ok _ _ _ (by omega) (by omega) (by omega) hok).mono ?_; rintro e w1 ⟨rfl, hbf, hbl, hb1⟩; refine Hid.out ?_)
  refine Lib.hid ?_
  have hz0 : (w.alloc (boxN (a2 % 512))).heap.size = w.heap.size + 1 := by simp
  rw [hz0] at hbf hbl
  have x1 := box_below (box_new w (boxN (a2 % 512))) hb1
  have HX1 := Lib.hid (And.intro x1 (And.intro hbf hbl))
  have HB1 := Lib.hid (((Below.refl w.heap.size w).alloc (Nat.le_refl _) (boxN (a2 % 512))).trans (hb1.mono (by simp)))
  clear x1 hbf hbl hb1 hz0
  go_wp2_with fail
  obtain ⟨x1, x2, x3⟩ := HX1.out
  have lt3 := lt_of_box x3
  refine (seq_mod w.heap.size (w.heap.size + 1 + 1) (w.heap.size + 1) w1.heap.size w.heap.size (1583 + a0 % 40000) (1583 + a0 % 40000 + a1 % 300 - 1) (a2 % 512) _ (modB_of lt3) (by omega) (by omega) (by omega) (by omega) hok (box1_cell (box_old x3)) (boxN_cell (box_old x1)) (boxS_cell w1).1 (boxS_cell w1).2 (box1_cell (box_old x2))).mono ?_
  rintro e w7 ⟨rfl, Z, hZ0, hZ1, hZL, hZE, hmw⟩
  obtain ⟨m, g, cap, hm, hcg, hcells⟩ := mod_shape hmw hZ0
  have hw : ((m : Int) != a2 % 512) = false := by simp; omega
  have c2 := hmw.cm
  have hm9 : (m : Int) ≤ 1000 := by omega
  have HC := Lib.hid hcells
  have HB7 := Lib.hid ((HB1.out.alloc (o := .cells #[.slice none 0 0] 37) HB1.out.size).trans hmw.bel)
  have HM := Lib.hid hm
  clear hcells hmw hZL hZE hm HX1 HB1 x1 x2 x3
  go_wp2_with fail
  clear hw c2 hL hc d2 d3
  have lg := block_lt_of_cell hcg
  have HG := Lib.hid hcg
  clear hcg
  go_loopw [16] (fun iv wr => ∃ k : Nat, k ≤ m ∧ iv = .int .i64 k ∧ Below w7.heap.size w7 wr) (fun iv _ => m - (intOf iv).toNat)
  case atStart => exact ⟨0, Nat.zero_le _, rfl, Below.refl _ _⟩
  case round =>
    obtain ⟨k, hk, rfl, hb⟩ := hrel
    have r1 := (hb.cell (p := ⟨w1.heap.size, 0, none⟩) lg).trans HG.out
    have HB := Lib.hid hb
    by_cases hlt : k < m
    · obtain ⟨e0, e1, e2⟩ := HC.out k hlt
      have s0 := (hb.cell (p := ⟨g, k * 3, none⟩) (block_lt_of_cell e0)).trans e0
      have s1 := (hb.cell (p := ⟨g, k * 3 + 1, none⟩) (block_lt_of_cell e1)).trans e1
      have s2 := (hb.cell (p := ⟨g, k * 3 + 2, none⟩) (block_lt_of_cell e2)).trans e2
      clear e0 e1 e2 hb
      have hki : (k : Int) < (m : Int) := by omega
      have hwr : IntKind.i64.wrap (1583 + a0 % 40000 + (k : Int)) = 1583 + a0 % 40000 + (k : Int) := by rw [IntKind.wrap_i64]; omega
      go_wp2_with fail
      go_region_held3 (fun w' => w'.cell? ⟨w1.heap.size, 0, none⟩ = some (.slice (some ⟨g, 0, none⟩) m cap) ∧ w'.cell? ⟨g, k * 3, none⟩ = some (.int .i64 (eY (1583 + a0 % 40000 + k))) ∧ w'.cell? ⟨g, k * 3 + 1, none⟩ = some (.int .i64 (eM (1583 + a0 % 40000 + k))) ∧ w'.cell? ⟨g, k * 3 + 2, none⟩ = some (.int .i64 (eD (1583 + a0 % 40000 + k)))) (first | assumption | simp [*])
        (first
          | (go_at_call 12; refine (model_any _ _ (by omega) (by omega)).mono ?_; rintro e w8 ⟨rfl, hb8⟩; have g8 := keep4 hb8 (by assumption)))
      all_goals
        go_wp2_with fail
        go_roundw
        case rel => exact ⟨k + 1, by omega, by go_num, HB.out.drew.trans (hb8.mono (by simpa using HB.out.size))⟩
        case measure => simp [intOf]; omega
    · clear hb
      go_wp2_with fail
      go_ret
      exact ⟨rfl, HB7.out.trans (HB.out.mono HB7.out.size)⟩

set_option maxHeartbeats 8000000 in
theorem mod_full_4 (a0 a1 a2 : Int) (w : World) (h0 : 0 ≤ a0) (h1 : 0 ≤ a1 ∧ a1 ≤ 65535) (h2 : 0 ≤ a2 ∧ a2 ≤ 65535) (hn : 1 ≤ a1 % 300) (hL : 1 ≤ a2 % 512) (hc : a1 % 300 ≤ a2 % 512) :
    Calls Ybad.prog 5 #[.int .u64 a0, .int .u16 a1, .int .u16 a2] w fun e w' => e = .returned (.bool true) ∧ Below w.heap.size w w' := by
  have hmf : ∀ (fn : Fn) (first cap : Array Value) (w : World), (Instr.makeFunc fn first cap).run Ybad.prog w = .ok (.func fn first cap) w := fun _ _ _ _ => rfl
  have hnf := eql_nilFunc
  have hff := eql_func
  have hok := eY_small (1583 + a0 % 40000 + a1 % 300 - 1) (by omega) (by omega)
  have d1 : decide (0 < a1 % 300) = true := by simp; omega
  have d2 : decide (a2 % 512 < 1) = false := by simp; omega
  have d3 : decide (a2 % 512 < a1 % 300) = false := by simp; omega
  go_enter Ybad.func5, Ybad.ntmps5
  go_wp2_with (go_at_call 10; refine (dates_ok _ _ _ (by omega) (by omega) (by omega) hok).mono ?_; rintro e w1 ⟨rfl, hbf, hbl, hb1⟩; refine Hid.out ?_)
  refine Lib.hid ?_
  have hz0 : (w.alloc (boxN (a2 % 512))).heap.size = w.heap.size + 1 := by simp
  rw [hz0] at hbf hbl
  have x1 := box_below (box_new w (boxN (a2 % 512))) hb1
  have HX1 := Lib.hid (And.intro x1 (And.intro hbf hbl))
  have HB1 := Lib.hid (((Below.refl w.heap.size w).alloc (Nat.le_refl _) (boxN (a2 % 512))).trans (hb1.mono (by simp)))
  clear x1 hbf hbl hb1 hz0
  go_wp2_with fail
  obtain ⟨x1, x2, x3⟩ := HX1.out
  have lt3 := lt_of_box x3
  refine (seq_mod w.heap.size (w.heap.size + 1 + 1) (w.heap.size + 1) w1.heap.size w.heap.size (1583 + a0 % 40000) (1583 + a0 % 40000 + a1 % 300 - 1) (a2 % 512) _ (modB_of lt3) (by omega) (by omega) (by omega) (by omega) hok (box1_cell (box_old x3)) (boxN_cell (box_old x1)) (boxS_cell w1).1 (boxS_cell w1).2 (box1_cell (box_old x2))).mono ?_
  rintro e w7 ⟨rfl, Z, hZ0, hZ1, hZL, hZE, hmw⟩
  obtain ⟨m, g, cap, hm, hcg, hcells⟩ := mod_shape hmw hZ0
  have hw : ((m : Int) != a1 % 300) = false := by simp; omega
  have c2 := hmw.cm
  have hm9 : (m : Int) ≤ 1000 := by omega
  have HC := Lib.hid hcells
  have HB7 := Lib.hid ((HB1.out.alloc (o := .cells #[.slice none 0 0] 37) HB1.out.size).trans hmw.bel)
  have HM := Lib.hid hm
  clear hcells hmw hZL hZE hm HX1 HB1 x1 x2 x3
  go_wp2_with fail
  clear hw c2 hL hc d2 d3
  have lg := block_lt_of_cell hcg
  have HG := Lib.hid hcg
  clear hcg
  go_loopw [16] (fun iv wr => ∃ k : Nat, k ≤ m ∧ iv = .int .i64 k ∧ Below w7.heap.size w7 wr) (fun iv _ => m - (intOf iv).toNat)
  case atStart => exact ⟨0, Nat.zero_le _, rfl, Below.refl _ _⟩
  case round =>
    obtain ⟨k, hk, rfl, hb⟩ := hrel
    have r1 := (hb.cell (p := ⟨w1.heap.size, 0, none⟩) lg).trans HG.out
    have HB := Lib.hid hb
    by_cases hlt : k < m
    · obtain ⟨e0, e1, e2⟩ := HC.out k hlt
      have s0 := (hb.cell (p := ⟨g, k * 3, none⟩) (block_lt_of_cell e0)).trans e0
      have s1 := (hb.cell (p := ⟨g, k * 3 + 1, none⟩) (block_lt_of_cell e1)).trans e1
      have s2 := (hb.cell (p := ⟨g, k * 3 + 2, none⟩) (block_lt_of_cell e2)).trans e2
      clear e0 e1 e2 hb
      have hki : (k : Int) < (m : Int) := by omega
      have hwr : IntKind.i64.wrap (1583 + a0 % 40000 + (k : Int)) = 1583 + a0 % 40000 + (k : Int) := by rw [IntKind.wrap_i64]; omega
      go_wp2_with fail
      go_region_held3 (fun w' => w'.cell? ⟨w1.heap.size, 0, none⟩ = some (.slice (some ⟨g, 0, none⟩) m cap) ∧ w'.cell? ⟨g, k * 3, none⟩ = some (.int .i64 (eY (1583 + a0 % 40000 + k))) ∧ w'.cell? ⟨g, k * 3 + 1, none⟩ = some (.int .i64 (eM (1583 + a0 % 40000 + k))) ∧ w'.cell? ⟨g, k * 3 + 2, none⟩ = some (.int .i64 (eD (1583 + a0 % 40000 + k)))) (first | assumption | simp [*])
        (first
          | (go_at_call 12; refine (model_any _ _ (by omega) (by omega)).mono ?_; rintro e w8 ⟨rfl, hb8⟩; have g8 := keep4 hb8 (by assumption)))
      all_goals
        go_wp2_with fail
        go_roundw
        case rel => exact ⟨k + 1, by omega, by go_num, HB.out.drew.trans (hb8.mono (by simpa using HB.out.size))⟩
        case measure => simp [intOf]; omega
    · clear hb
      go_wp2_with fail
      go_ret
      exact ⟨rfl, HB7.out.trans (HB.out.mono HB7.out.size)⟩

theorem law_mod (a0 a1 a2 : Int) (w : World) (h0 : 0 ≤ a0) (h1 : 0 ≤ a1 ∧ a1 ≤ 65535) (h2 : 0 ≤ a2 ∧ a2 ≤ 65535) :
    Calls Ybad.prog 5 #[.int .u64 a0, .int .u16 a1, .int .u16 a2] w fun e w' => e = .returned (.bool true) ∧ Below w.heap.size w w' := by
  by_cases hn : a1 % 300 = 0
  · exact mod_empty a0 a1 a2 w h0 h1 h2 hn
  · have hn : 1 ≤ a1 % 300 := by omega
    by_cases hL : a2 % 512 < 1
    · by_cases hc : 1 < a1 % 300
      · exact mod_full_1 a0 a1 a2 w h0 h1 h2 hn hL hc
      · exact mod_full_2 a0 a1 a2 w h0 h1 h2 hn hL (by omega)
    · by_cases hc : a2 % 512 < a1 % 300
      · exact mod_full_3 a0 a1 a2 w h0 h1 h2 hn (by omega) hc
      · exact mod_full_4 a0 a1 a2 w h0 h1 h2 hn (by omega) (by omega)

end Go.Proofs.YbulkdgfqDoor
