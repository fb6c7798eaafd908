import Derived.Test.YbulkdgfqDoorSmall
import Derived.Lib.BufferOwn
import Derived.Laws.Rows
namespace Go.Proofs.YbulkdgfqDoor
open Go.RowKit

set_option maxHeartbeats 1000000 in
theorem onYear_yes (ty m d y f c : Int) (w : World) (t0 : 0 ≤ ty) (t1 : ty ≤ 5000) (f0 : 800 ≤ f) (f1 : f ≤ 1300) (c0 : -1 ≤ c) (c1 : c ≤ 1000000000000) (y0 : 0 ≤ y) (y1 : y ≤ 9223372036854775807)
    (h : y + (ty - f + 400 * c) ≤ 9223372036854775807) :
    Calls Ybad.prog 33 #[dateV ty m d, .int .i64 y, .int .i64 f, .int .i64 c] w fun e w' => e = .returned (.tuple #[dateV (y + (ty - f + 400 * c)) m d, .bool true]) ∧ Below w.heap.size w w' := by
  by_cases hp : 0 < ty - f + 400 * c
  · have hn : ¬ 9223372036854775807 - (ty - f + 400 * c) < y := by omega
    go_enter Ybad.func33, Ybad.ntmps33
    go_wp2
    exact bodyPost_ret (v := .tuple #[dateV (y + (ty - f + 400 * c)) m d, .bool true]) (by simp [results, Ybad.results33, go_sem]) rfl ⟨rfl, ((Below.refl _ _).alloc (Nat.le_refl _) _).alloc (by simp) _⟩
  · go_enter Ybad.func33, Ybad.ntmps33
    go_wp2
    exact bodyPost_ret (v := .tuple #[dateV (y + (ty - f + 400 * c)) m d, .bool true]) (by simp [results, Ybad.results33, go_sem]) rfl ⟨rfl, ((Below.refl _ _).alloc (Nat.le_refl _) _).alloc (by simp) _⟩

set_option maxHeartbeats 1000000 in
theorem onYear_no (ty m d y f c : Int) (w : World) (t0 : 0 ≤ ty) (t1 : ty ≤ 5000) (f0 : 800 ≤ f) (f1 : f ≤ 1300) (c0 : -1 ≤ c) (c1 : c ≤ 1000000000000) (y0 : 0 ≤ y) (y1 : y ≤ 9223372036854775807)
    (h : 9223372036854775807 < y + (ty - f + 400 * c)) :
    Calls Ybad.prog 33 #[dateV ty m d, .int .i64 y, .int .i64 f, .int .i64 c] w fun e w' => e = .returned (.tuple #[dateV 0 0 0, .bool false]) ∧ Below w.heap.size w w' := by
  have hp : 0 < ty - f + 400 * c := by omega
  have hn : 9223372036854775807 - (ty - f + 400 * c) < y := by omega
  go_enter Ybad.func33, Ybad.ntmps33
  go_wp2
  exact bodyPost_ret (v := .tuple #[dateV 0 0 0, .bool false]) (by simp [results, Ybad.results33, go_sem]) rfl ⟨rfl, ((Below.refl _ _).alloc (Nat.le_refl _) _).alloc (by simp) _⟩

/-- the block b holds the century of year y -/
def CentAt (b : Nat) (y : Int) (w : World) : Prop :=
  w.cell? ⟨b, 0, none⟩ = some (.int .i64 (fr y)) ∧ w.cell? ⟨b, 1, none⟩ = some (.int .i64 (cyc y)) ∧ w.cell? ⟨b, 2, none⟩ = some (.int .i64 (mar y)) ∧
    w.frozen? ⟨b, 0, none⟩ = false ∧ w.frozen? ⟨b, 1, none⟩ = false ∧ w.frozen? ⟨b, 2, none⟩ = false

theorem ne_off {b i j : Nat} (h : i ≠ j) : (⟨b, i, none⟩ : Addr) ≠ ⟨b, j, none⟩ := fun e => by
  injection e with _ e2 _
  exact h e2
theorem stores3 (b : Nat) {v0 v1 v2 : Value} (x0 x1 x2 : Value) (w : World)
    (c0 : w.cell? ⟨b, 0, none⟩ = some v0) (c1 : w.cell? ⟨b, 1, none⟩ = some v1) (c2 : w.cell? ⟨b, 2, none⟩ = some v2) :
    (((w.setCell ⟨b, 0, none⟩ x0).setCell ⟨b, 1, none⟩ x1).setCell ⟨b, 2, none⟩ x2).cell? ⟨b, 0, none⟩ = some x0 ∧
    (((w.setCell ⟨b, 0, none⟩ x0).setCell ⟨b, 1, none⟩ x1).setCell ⟨b, 2, none⟩ x2).cell? ⟨b, 1, none⟩ = some x1 ∧
    (((w.setCell ⟨b, 0, none⟩ x0).setCell ⟨b, 1, none⟩ x1).setCell ⟨b, 2, none⟩ x2).cell? ⟨b, 2, none⟩ = some x2 := by
  have s1 : (w.setCell ⟨b, 0, none⟩ x0).cell? ⟨b, 1, none⟩ = some v1 := by rw [World.cell?_setCell_other _ _ _ _ (ne_off (by omega))]; exact c1
  have s2 : (w.setCell ⟨b, 0, none⟩ x0).cell? ⟨b, 2, none⟩ = some v2 := by rw [World.cell?_setCell_other _ _ _ _ (ne_off (by omega))]; exact c2
  have s3 : ((w.setCell ⟨b, 0, none⟩ x0).setCell ⟨b, 1, none⟩ x1).cell? ⟨b, 2, none⟩ = some v2 := by rw [World.cell?_setCell_other _ _ _ _ (ne_off (by omega))]; exact s2
  refine ⟨?_, ?_, World.cell?_setCell_same _ _ _ s3⟩
  · rw [World.cell?_setCell_other _ _ _ _ (ne_off (by omega)), World.cell?_setCell_other _ _ _ _ (ne_off (by omega))]
    exact World.cell?_setCell_same _ _ _ c0
  · rw [World.cell?_setCell_other _ _ _ _ (ne_off (by omega))]
    exact World.cell?_setCell_same _ _ _ s1
theorem cent_stores (b : Nat) (y : Int) {v0 v1 v2 : Value} (w : World)
    (c0 : w.cell? ⟨b, 0, none⟩ = some v0) (c1 : w.cell? ⟨b, 1, none⟩ = some v1) (c2 : w.cell? ⟨b, 2, none⟩ = some v2)
    (f0 : w.frozen? ⟨b, 0, none⟩ = false) (f1 : w.frozen? ⟨b, 1, none⟩ = false) (f2 : w.frozen? ⟨b, 2, none⟩ = false) :
    CentAt b y (((w.setCell ⟨b, 0, none⟩ (.int .i64 (fr y))).setCell ⟨b, 1, none⟩ (.int .i64 (cyc y))).setCell ⟨b, 2, none⟩ (.int .i64 (mar y))) ∧
      w.grownBy (((w.setCell ⟨b, 0, none⟩ (.int .i64 (fr y))).setCell ⟨b, 1, none⟩ (.int .i64 (cyc y))).setCell ⟨b, 2, none⟩ (.int .i64 (mar y))) (some b) := by
  have s1 : (w.setCell ⟨b, 0, none⟩ (.int .i64 (fr y))).cell? ⟨b, 1, none⟩ = some v1 := by rw [World.cell?_setCell_other _ _ _ _ (ne_off (by omega))]; exact c1
  have s2 : (w.setCell ⟨b, 0, none⟩ (.int .i64 (fr y))).cell? ⟨b, 2, none⟩ = some v2 := by rw [World.cell?_setCell_other _ _ _ _ (ne_off (by omega))]; exact c2
  have s3 : ((w.setCell ⟨b, 0, none⟩ (.int .i64 (fr y))).setCell ⟨b, 1, none⟩ (.int .i64 (cyc y))).cell? ⟨b, 2, none⟩ = some v2 := by rw [World.cell?_setCell_other _ _ _ _ (ne_off (by omega))]; exact s2
  refine ⟨⟨?_, ?_, World.cell?_setCell_same _ _ _ s3, ?_, ?_, ?_⟩, Lib.grownBy_setB (Lib.grownBy_setB (Lib.grownBy_setCell _ _ _ _) _ _) _ _⟩
  · rw [World.cell?_setCell_other _ _ _ _ (ne_off (by omega)), World.cell?_setCell_other _ _ _ _ (ne_off (by omega))]
    exact World.cell?_setCell_same _ _ _ c0
  · rw [World.cell?_setCell_other _ _ _ _ (ne_off (by omega))]
    exact World.cell?_setCell_same _ _ _ s1
  all_goals (rw [World.frozen?_setCell, World.frozen?_setCell, World.frozen?_setCell]; assumption)

set_option maxHeartbeats 1000000 in
theorem set_any (b : Nat) (y v0 v1 v2 : Int) (w : World) (y0 : 1583 ≤ y) (y1 : y ≤ 9223372036854775807)
    (c0 : w.cell? ⟨b, 0, none⟩ = some (.int .i64 v0)) (c1 : w.cell? ⟨b, 1, none⟩ = some (.int .i64 v1)) (c2 : w.cell? ⟨b, 2, none⟩ = some (.int .i64 v2))
    (f0 : w.frozen? ⟨b, 0, none⟩ = false) (f1 : w.frozen? ⟨b, 1, none⟩ = false) (f2 : w.frozen? ⟨b, 2, none⟩ = false) :
    Calls Ybad.prog 21 #[.pointer (some ⟨b, 0, none⟩), .int .i64 y] w fun e w' => e = .returned (.tuple #[]) ∧ CentAt b y w' ∧ w.grownBy w' (some b) := by
  have g0 : 0 ≤ y / 100 - y / 400 - 2 := by omega
  have hf := fr_bd y
  have hf0 : 800 ≤ (y - y % 100) % 400 + 800 ∧ (y - y % 100) % 400 + 800 ≤ 1199 := hf
  have hmb := md_bd ((y - y % 100) % 400 + 800) (by omega) (by omega)
  clear hf
  go_enter Ybad.func21, Ybad.ntmps21
  go_wp2_with (first
    | (go_at_call 29; refine (standIn_any _ _ (by omega) (by omega)).mono ?_; rintro e w' ⟨rfl, rfl⟩)
    | (go_at_call 30; refine (march_any _ _ (by omega) (by omega)).mono ?_; rintro e w' ⟨rfl, rfl⟩))
  go_end0
  exact ⟨rfl, cent_stores b y _ c0 c1 c2 f0 f1 f2⟩

theorem bcell {W w1 : World} (hb : Below W.heap.size W w1) : (∀ b o, b < W.heap.size → w1.cell? ⟨b, o, none⟩ = W.cell? ⟨b, o, none⟩) ∧ (∀ b o, b < W.heap.size → w1.frozen? ⟨b, o, none⟩ = W.frozen? ⟨b, o, none⟩) :=
  ⟨fun b o h => hb.cell (p := ⟨b, o, none⟩) h, fun b o h => hb.frozen (p := ⟨b, o, none⟩) h⟩

theorem box3 {W : World} {B : Nat} (h : W.heap[B]? = some (.cells #[.int .i64 0, .int .i64 0, .int .i64 0] 40)) :
    (W.cell? ⟨B, 0, none⟩).isSome = true ∧ (W.cell? ⟨B, 1, none⟩).isSome = true ∧ (W.cell? ⟨B, 2, none⟩).isSome = true ∧ W.frozen? ⟨B, 0, none⟩ = false ∧ W.frozen? ⟨B, 1, none⟩ = false ∧ W.frozen? ⟨B, 2, none⟩ = false := by
  unfold World.cell? World.frozen?
  rw [h]
  simp
theorem isSome_setCell (w : World) (p a : Addr) (v : Value) (h : (w.cell? a).isSome = true) : ((w.setCell p v).cell? a).isSome = true := by
  obtain ⟨u, hu⟩ := Option.isSome_iff_exists.1 h
  obtain ⟨v', hv'⟩ := cell?_setCell_some (p := p) (x := v) hu
  rw [hv']
  rfl
theorem keep8 {b B : Nat} {F C : Int} {W w1 : World} (hb : Below W.heap.size W w1)
    (h : W.cell? ⟨b, 0, none⟩ = some (.int .i64 F) ∧ W.cell? ⟨b, 1, none⟩ = some (.int .i64 C) ∧ (W.cell? ⟨B, 0, none⟩).isSome = true ∧ (W.cell? ⟨B, 1, none⟩).isSome = true ∧ (W.cell? ⟨B, 2, none⟩).isSome = true ∧ W.frozen? ⟨B, 0, none⟩ = false ∧ W.frozen? ⟨B, 1, none⟩ = false ∧ W.frozen? ⟨B, 2, none⟩ = false) :
    w1.cell? ⟨b, 0, none⟩ = some (.int .i64 F) ∧ w1.cell? ⟨b, 1, none⟩ = some (.int .i64 C) ∧ (w1.cell? ⟨B, 0, none⟩).isSome = true ∧ (w1.cell? ⟨B, 1, none⟩).isSome = true ∧ (w1.cell? ⟨B, 2, none⟩).isSome = true ∧ w1.frozen? ⟨B, 0, none⟩ = false ∧ w1.frozen? ⟨B, 1, none⟩ = false ∧ w1.frozen? ⟨B, 2, none⟩ = false := by
  obtain ⟨h0, h1, h2, h3, h4, h5, h6, h7⟩ := h
  have lb : b < W.heap.size := block_lt_of_cell h0
  have lB : B < W.heap.size := by
    obtain ⟨u, hu⟩ := Option.isSome_iff_exists.1 h2
    exact block_lt_of_cell hu
  refine ⟨?_, ?_, ?_, ?_, ?_, ?_, ?_, ?_⟩
  · rw [hb.cell (p := ⟨b, 0, none⟩) lb]; exact h0
  · rw [hb.cell (p := ⟨b, 1, none⟩) lb]; exact h1
  · rw [hb.cell (p := ⟨B, 0, none⟩) lB]; exact h2
  · rw [hb.cell (p := ⟨B, 1, none⟩) lB]; exact h3
  · rw [hb.cell (p := ⟨B, 2, none⟩) lB]; exact h4
  · rw [hb.frozen (p := ⟨B, 0, none⟩) lB]; exact h5
  · rw [hb.frozen (p := ⟨B, 1, none⟩) lB]; exact h6
  · rw [hb.frozen (p := ⟨B, 2, none⟩) lB]; exact h7
theorem keep8_set {b B : Nat} {F C : Int} {W : World} (hne : B ≠ b) (i : Nat) (v : Value)
    (h : W.cell? ⟨b, 0, none⟩ = some (.int .i64 F) ∧ W.cell? ⟨b, 1, none⟩ = some (.int .i64 C) ∧ (W.cell? ⟨B, 0, none⟩).isSome = true ∧ (W.cell? ⟨B, 1, none⟩).isSome = true ∧ (W.cell? ⟨B, 2, none⟩).isSome = true ∧ W.frozen? ⟨B, 0, none⟩ = false ∧ W.frozen? ⟨B, 1, none⟩ = false ∧ W.frozen? ⟨B, 2, none⟩ = false) :
    (W.setCell ⟨B, i, none⟩ v).cell? ⟨b, 0, none⟩ = some (.int .i64 F) ∧ (W.setCell ⟨B, i, none⟩ v).cell? ⟨b, 1, none⟩ = some (.int .i64 C) ∧ ((W.setCell ⟨B, i, none⟩ v).cell? ⟨B, 0, none⟩).isSome = true ∧ ((W.setCell ⟨B, i, none⟩ v).cell? ⟨B, 1, none⟩).isSome = true ∧ ((W.setCell ⟨B, i, none⟩ v).cell? ⟨B, 2, none⟩).isSome = true ∧ (W.setCell ⟨B, i, none⟩ v).frozen? ⟨B, 0, none⟩ = false ∧ (W.setCell ⟨B, i, none⟩ v).frozen? ⟨B, 1, none⟩ = false ∧ (W.setCell ⟨B, i, none⟩ v).frozen? ⟨B, 2, none⟩ = false := by
  obtain ⟨h0, h1, h2, h3, h4, h5, h6, h7⟩ := h
  refine ⟨?_, ?_, isSome_setCell _ _ _ _ h2, isSome_setCell _ _ _ _ h3, isSome_setCell _ _ _ _ h4, ?_, ?_, ?_⟩
  · rw [World.cell?_setCell_far _ _ _ _ hne]; exact h0
  · rw [World.cell?_setCell_far _ _ _ _ hne]; exact h1
  all_goals (rw [World.frozen?_setCell]; assumption)
theorem tY_bd (n : Int) (h0 : 0 ≤ n) (h1 : n ≤ 1000000) : 0 ≤ tY n ∧ tY n ≤ 5000 := by
  have a1 := dY_lo n
  have a2 := dY_hi n
  have a3 : 0 ≤ dY n := by
    by_cases h : dY n < 0
    · have := md_mono (dY n + 1) 0 (by omega)
      have e : md 0 = 0 := rfl
      omega
    · omega
  have a4 : dY n ≤ 4000 := by
    by_cases h : 4000 < dY n
    · have := md_mono 4001 (dY n) (by omega)
      have e : md 4001 = 1461335 := rfl
      omega
    · omega
  unfold tY
  split <;> omega

set_option maxHeartbeats 2000000 in
theorem reckon_yes (b : Nat) (y n bb cc F C M : Int) (w : World) (y0 : 1583 ≤ y) (y1 : y ≤ 9223372036854775807) (hb : b < w.heap.size)
    (c0 : w.cell? ⟨b, 0, none⟩ = some (.int .i64 F)) (c1 : w.cell? ⟨b, 1, none⟩ = some (.int .i64 C)) (c2 : w.cell? ⟨b, 2, none⟩ = some (.int .i64 M))
    (n0 : 0 ≤ n) (n1 : n ≤ 99) (b0 : 0 ≤ bb) (b1 : bb ≤ 6) (g0 : 0 ≤ cc) (g1 : cc ≤ 18) (F0 : 800 ≤ F) (F1 : F ≤ 1199) (C0 : 0 ≤ C) (C1 : C ≤ 1000000000000) (M0 : 0 ≤ M) (M1 : M ≤ 700000) 
    (N : Int) (hN : N = M + 365 * n + n / 4 + jE (n % 4) bb cc) (hok : y + (tY N - (F + n) + 400 * C) ≤ 9223372036854775807) :
    Calls Ybad.prog 22 #[.pointer (some ⟨b, 0, none⟩), .int .i64 y, .int .i64 n, .int .i64 bb, .int .i64 cc] w fun e w' =>
      e = .returned (.tuple #[dateV (y + (tY N - (F + n) + 400 * C)) (tM N) (tD N), .bool true]) ∧ Below w.heap.size w w' := by
  have hj := jE_bd (n % 4) bb cc
  have HN := Lib.hid hN
  clear hN
  go_enter Ybad.func22, Ybad.ntmps22
  go_wp2
  go_quiet ((go_at_call 31; exact Calls.quiet_of_same (julian_any _ _ _ _ (by omega) (by omega) (by omega) (by omega) (by omega) (by omega))))
  go_wp2
  rw [← HN.out]
  have hN0 : 0 ≤ N ∧ N ≤ 1000000 := by have := HN.out; omega
  have hT0 := tY_bd N hN0.1 hN0.2
  have hW0 : Below w.heap.size w ((w.alloc (.cells #[.int .i64 0, .int .i64 0, .int .i64 0] 40)).drewN nq) := below_drewN ((Below.refl _ _).alloc (Nat.le_refl _) _) nq
  have hz0 : w.heap.size < ((w.alloc (.cells #[.int .i64 0, .int .i64 0, .int .i64 0] 40)).drewN nq).heap.size := by simp
  have r0 : ((w.alloc (.cells #[.int .i64 0, .int .i64 0, .int .i64 0] 40)).drewN nq).heap[w.heap.size]? = some (.cells #[.int .i64 0, .int .i64 0, .int .i64 0] 40) := by
    show (w.heap.push _)[w.heap.size]? = _
    simp
  generalize (w.alloc (.cells #[.int .i64 0, .int .i64 0, .int .i64 0] 40)).drewN nq = W at hW0 hz0 r0 ⊢
  have q0 : W.cell? ⟨b, 0, none⟩ = some (.int .i64 F) := by rw [hW0.cell (p := ⟨b, 0, none⟩) hb]; exact c0
  have q1 : W.cell? ⟨b, 1, none⟩ = some (.int .i64 C) := by rw [hW0.cell (p := ⟨b, 1, none⟩) hb]; exact c1
  obtain ⟨i0, i1, i2, j0, j1, j2⟩ := box3 r0
  have hbW : b < W.heap.size := by have := hW0.size; omega
  clear r0 c0 c1 c2 hj HN
  have HW := Lib.hid hW0
  clear hW0
  have hwr : IntKind.i64.wrap (F + n) = F + n := by rw [IntKind.wrap_i64]; omega
  have hne : w.heap.size ≠ b := by omega
  go_region_held3 (fun w' => w'.cell? ⟨b, 0, none⟩ = some (.int .i64 F) ∧ w'.cell? ⟨b, 1, none⟩ = some (.int .i64 C) ∧ (w'.cell? ⟨w.heap.size, 0, none⟩).isSome = true ∧ (w'.cell? ⟨w.heap.size, 1, none⟩).isSome = true ∧ (w'.cell? ⟨w.heap.size, 2, none⟩).isSome = true ∧ w'.frozen? ⟨w.heap.size, 0, none⟩ = false ∧ w'.frozen? ⟨w.heap.size, 1, none⟩ = false ∧ w'.frozen? ⟨w.heap.size, 2, none⟩ = false) (first | assumption | exact keep8_set hne _ _ (keep8_set hne _ _ (keep8_set hne _ _ (by assumption))) | simp [*])
    (first
      | (go_at_call 32; refine (dateOf_any _ _ (by omega) (by omega)).mono ?_; rintro e w1 ⟨rfl, hb1⟩; have g1 := keep8 hb1 (by assumption))
      | (go_at_call 33; refine (onYear_yes _ _ _ _ _ _ _ (by omega) (by omega) (by omega) (by omega) (by omega) (by omega) (by omega) (by omega) (by omega)).mono ?_; rintro e w2 ⟨rfl, hb2⟩; have g2 := keep8 hb2 (by assumption); obtain ⟨u0, e0⟩ := Option.isSome_iff_exists.1 g2.2.2.1; obtain ⟨u1, e1⟩ := Option.isSome_iff_exists.1 g2.2.2.2.1; obtain ⟨u2, e2⟩ := Option.isSome_iff_exists.1 g2.2.2.2.2.1))
  all_goals
    go_wp2
    obtain ⟨t0, t1, t2⟩ := stores3 w.heap.size (.int .i64 (y + (tY N - (F + n) + 400 * C))) (.int .i64 (tM N)) (.int .i64 (tD N)) w2 e0 e1 e2
    have hz1 := hb1.size
    have hz2 := hb2.size
    simp at hz1
    refine bodyPost_ret (v := .tuple #[dateV (y + (tY N - (F + n) + 400 * C)) (tM N) (tD N), .bool true]) (by simp [results, Ybad.results22, go_sem, t0, t1, t2]) rfl ⟨rfl, ?_⟩
    exact (((((HW.out.drew).trans (hb1.mono (by simp; omega))).trans (hb2.mono (by omega))).setCell (Nat.le_refl _) _).setCell (Nat.le_refl _) _).setCell (Nat.le_refl _) _

set_option maxHeartbeats 2000000 in
theorem reckon_no (b : Nat) (y n bb cc F C M : Int) (w : World) (y0 : 1583 ≤ y) (y1 : y ≤ 9223372036854775807) (hb : b < w.heap.size)
    (c0 : w.cell? ⟨b, 0, none⟩ = some (.int .i64 F)) (c1 : w.cell? ⟨b, 1, none⟩ = some (.int .i64 C)) (c2 : w.cell? ⟨b, 2, none⟩ = some (.int .i64 M))
    (n0 : 0 ≤ n) (n1 : n ≤ 99) (b0 : 0 ≤ bb) (b1 : bb ≤ 6) (g0 : 0 ≤ cc) (g1 : cc ≤ 18) (F0 : 800 ≤ F) (F1 : F ≤ 1199) (C0 : 0 ≤ C) (C1 : C ≤ 1000000000000) (M0 : 0 ≤ M) (M1 : M ≤ 700000) 
    (N : Int) (hN : N = M + 365 * n + n / 4 + jE (n % 4) bb cc) (hok : 9223372036854775807 < y + (tY N - (F + n) + 400 * C)) :
    Calls Ybad.prog 22 #[.pointer (some ⟨b, 0, none⟩), .int .i64 y, .int .i64 n, .int .i64 bb, .int .i64 cc] w fun e w' =>
      e = .returned (.tuple #[dateV 0 0 0, .bool false]) ∧ Below w.heap.size w w' := by
  have hj := jE_bd (n % 4) bb cc
  have HN := Lib.hid hN
  clear hN
  go_enter Ybad.func22, Ybad.ntmps22
  go_wp2
  go_quiet ((go_at_call 31; exact Calls.quiet_of_same (julian_any _ _ _ _ (by omega) (by omega) (by omega) (by omega) (by omega) (by omega))))
  go_wp2
  rw [← HN.out]
  have hN0 : 0 ≤ N ∧ N ≤ 1000000 := by have := HN.out; omega
  have hT0 := tY_bd N hN0.1 hN0.2
  have hW0 : Below w.heap.size w ((w.alloc (.cells #[.int .i64 0, .int .i64 0, .int .i64 0] 40)).drewN nq) := below_drewN ((Below.refl _ _).alloc (Nat.le_refl _) _) nq
  have hz0 : w.heap.size < ((w.alloc (.cells #[.int .i64 0, .int .i64 0, .int .i64 0] 40)).drewN nq).heap.size := by simp
  have r0 : ((w.alloc (.cells #[.int .i64 0, .int .i64 0, .int .i64 0] 40)).drewN nq).heap[w.heap.size]? = some (.cells #[.int .i64 0, .int .i64 0, .int .i64 0] 40) := by
    show (w.heap.push _)[w.heap.size]? = _
    simp
  generalize (w.alloc (.cells #[.int .i64 0, .int .i64 0, .int .i64 0] 40)).drewN nq = W at hW0 hz0 r0 ⊢
  have q0 : W.cell? ⟨b, 0, none⟩ = some (.int .i64 F) := by rw [hW0.cell (p := ⟨b, 0, none⟩) hb]; exact c0
  have q1 : W.cell? ⟨b, 1, none⟩ = some (.int .i64 C) := by rw [hW0.cell (p := ⟨b, 1, none⟩) hb]; exact c1
  obtain ⟨i0, i1, i2, j0, j1, j2⟩ := box3 r0
  have hbW : b < W.heap.size := by have := hW0.size; omega
  clear r0 c0 c1 c2 hj HN
  have HW := Lib.hid hW0
  clear hW0
  have hwr : IntKind.i64.wrap (F + n) = F + n := by rw [IntKind.wrap_i64]; omega
  have hne : w.heap.size ≠ b := by omega
  go_region_held3 (fun w' => w'.cell? ⟨b, 0, none⟩ = some (.int .i64 F) ∧ w'.cell? ⟨b, 1, none⟩ = some (.int .i64 C) ∧ (w'.cell? ⟨w.heap.size, 0, none⟩).isSome = true ∧ (w'.cell? ⟨w.heap.size, 1, none⟩).isSome = true ∧ (w'.cell? ⟨w.heap.size, 2, none⟩).isSome = true ∧ w'.frozen? ⟨w.heap.size, 0, none⟩ = false ∧ w'.frozen? ⟨w.heap.size, 1, none⟩ = false ∧ w'.frozen? ⟨w.heap.size, 2, none⟩ = false) (first | assumption | exact keep8_set hne _ _ (keep8_set hne _ _ (keep8_set hne _ _ (by assumption))) | simp [*])
    (first
      | (go_at_call 32; refine (dateOf_any _ _ (by omega) (by omega)).mono ?_; rintro e w1 ⟨rfl, hb1⟩; have g1 := keep8 hb1 (by assumption))
      | (go_at_call 33; refine (onYear_no _ _ _ _ _ _ _ (by omega) (by omega) (by omega) (by omega) (by omega) (by omega) (by omega) (by omega) (by omega)).mono ?_; rintro e w2 ⟨rfl, hb2⟩; have g2 := keep8 hb2 (by assumption); obtain ⟨u0, e0⟩ := Option.isSome_iff_exists.1 g2.2.2.1; obtain ⟨u1, e1⟩ := Option.isSome_iff_exists.1 g2.2.2.2.1; obtain ⟨u2, e2⟩ := Option.isSome_iff_exists.1 g2.2.2.2.2.1))
  all_goals
    go_wp2
    obtain ⟨t0, t1, t2⟩ := stores3 w.heap.size (.int .i64 0) (.int .i64 0) (.int .i64 0) w2 e0 e1 e2
    have hz1 := hb1.size
    have hz2 := hb2.size
    simp at hz1
    refine bodyPost_ret (v := .tuple #[dateV 0 0 0, .bool false]) (by simp [results, Ybad.results22, go_sem, t0, t1, t2]) rfl ⟨rfl, ?_⟩
    exact (((((HW.out.drew).trans (hb1.mono (by simp; omega))).trans (hb2.mono (by omega))).setCell (Nat.le_refl _) _).setCell (Nat.le_refl _) _).setCell (Nat.le_refl _) _

/-! ### reckon at a year whose century lies in block b -/
theorem cyc_bd (y : Int) (h0 : 1583 ≤ y) (h1 : y ≤ 9223372036854775807) : 0 ≤ cyc y ∧ cyc y ≤ 1000000000000 := by
  unfold cyc gap
  omega
theorem reckon_ok (b : Nat) (y : Int) (w : World) (hc : CentAt b y w) (y0 : 1583 ≤ y) (y1 : y ≤ 9223372036854775807) (hok : eY y ≤ 9223372036854775807) :
    Calls Ybad.prog 22 #[.pointer (some ⟨b, 0, none⟩), .int .i64 y, .int .i64 (y % 100), .int .i64 (y % 7), .int .i64 (y % 19)] w fun e w' =>
      e = .returned (.tuple #[dateV (eY y) (eM y) (eD y), .bool true]) ∧ Below w.heap.size w w' := by
  have h1 := fr_bd y
  have h2 := cyc_bd y y0 y1
  have h3 := mar_bd y
  exact reckon_yes b y (y % 100) (y % 7) (y % 19) (fr y) (cyc y) (mar y) w y0 y1 (block_lt_of_cell hc.1) hc.1 hc.2.1 hc.2.2.1 (by omega) (by omega) (by omega) (by omega) (by omega) (by omega) h1.1 h1.2 h2.1 h2.2 h3.1 h3.2 (days y) rfl hok
theorem reckon_past (b : Nat) (y : Int) (w : World) (hc : CentAt b y w) (y0 : 1583 ≤ y) (y1 : y ≤ 9223372036854775807) (hok : 9223372036854775807 < eY y) :
    Calls Ybad.prog 22 #[.pointer (some ⟨b, 0, none⟩), .int .i64 y, .int .i64 (y % 100), .int .i64 (y % 7), .int .i64 (y % 19)] w fun e w' =>
      e = .returned (.tuple #[dateV 0 0 0, .bool false]) ∧ Below w.heap.size w w' := by
  have h1 := fr_bd y
  have h2 := cyc_bd y y0 y1
  have h3 := mar_bd y
  exact reckon_no b y (y % 100) (y % 7) (y % 19) (fr y) (cyc y) (mar y) w y0 y1 (block_lt_of_cell hc.1) hc.1 hc.2.1 hc.2.2.1 (by omega) (by omega) (by omega) (by omega) (by omega) (by omega) h1.1 h1.2 h2.1 h2.2 h3.1 h3.2 (days y) rfl hok

end Go.Proofs.YbulkdgfqDoor
