import Derived.Test.YbulkdgfqDoorDates
import Derived.Deep.AppendLies
namespace Go.Proofs.YbulkdgfqDoor
open Go.RowKit

set_option maxHeartbeats 1000000 in
theorem yield_sib (by' bc bo bk : Nat) (y i k : Int) (w : World) (cy : w.cell? ⟨by', 0, none⟩ = some (.int .i64 y)) (cc : w.cell? ⟨bc, 0, none⟩ = some (.int .i64 i)) (ck : w.cell? ⟨bk, 0, none⟩ = some (.int .i64 k))
    (fc : w.frozen? ⟨bc, 0, none⟩ = false) (hky : bk ≠ bc) (i0 : 0 ≤ i) (ik : i ≤ k) (k1 : k ≤ 1000) (y0 : 1583 ≤ y + i) (yl : -9223372036854775808 ≤ y) (yh : y ≤ 9223372036854775807) (y1 : y + i ≤ 9223372036854775807) (hok : eY (y + i) ≤ 9223372036854775807) :
    Calls Ybad.prog 15 #[dateV (eY (y + i)) (eM (y + i)) (eD (y + i)), .pointer (some ⟨by', 0, none⟩), .pointer (some ⟨bc, 0, none⟩), .pointer (some ⟨bo, 0, none⟩), .pointer (some ⟨bk, 0, none⟩)] w fun e w' =>
      e = .returned (.bool true) ∧ w'.cell? ⟨bc, 0, none⟩ = some (.int .i64 (i + 1)) ∧ w'.frozen? ⟨bc, 0, none⟩ = false ∧ w.grownBy w' (some bc) := by
  have lc := block_lt_of_cell cc
  have lk := block_lt_of_cell ck
  have ly := block_lt_of_cell cy
  go_enter Ybad.func15, Ybad.ntmps15
  go_wp2_with (go_at_call 14; refine (easter_ok _ _ (by omega) (by omega) hok).mono ?_; rintro e w1 ⟨rfl, hb1⟩; refine Hid.out ?_)
  refine Lib.hid ?_
  have hg : w.grownBy w1 (some bc) := Lib.grownBy_below (World.grownBy_alloc w _ _) hb1
  have hg0 : w.grownBy w1 none := Lib.grownBy_below (World.grownBy_alloc w _ _) hb1
  have d1 : w1.cell? ⟨bc, 0, none⟩ = some (.int .i64 i) := hg0.cell cc (by simp)
  have d2 : w1.cell? ⟨bk, 0, none⟩ = some (.int .i64 k) := hg0.cell ck (by simp)
  have d3 : w1.frozen? ⟨bc, 0, none⟩ = false := (hg0.frozen_far _ lc (by simp)).trans fc
  clear hg0
  have d4 : w1.heap[w.heap.size]? = some (.cells #[.int .i64 (eY (y + i)), .int .i64 (eM (y + i)), .int .i64 (eD (y + i))] 40) := box_below (box_new _ _) hb1
  obtain ⟨q0, q1, q2, _, _, _⟩ := box_cells d4
  have hz : bc < w1.heap.size := block_lt_of_cell d1
  have hz2 : bk < w1.heap.size := block_lt_of_cell d2
  have hz3 : w.heap.size < w1.heap.size := block_lt_of_cell q0
  have HG := Lib.hid hg
  clear hb1 hg cc ck cy fc d4
  go_wp2
  go_ret
  refine ⟨rfl, ?_, ?_, Lib.grownBy_allocR (Lib.grownBy_setB HG.out 0 _) _⟩
  · rw [World.cell?_alloc_lt _ _ _ (by simpa using hz)]
    exact World.cell?_setCell_same _ _ _ d1
  · rw [frozen?_alloc_cells, World.frozen?_setCell]
    exact d3

/-- the captured values of the law's second closure -/
abbrev yieldV (by' bc bo bk : Nat) : Value := .func (.func 15) #[] #[.pointer (some ⟨by', 0, none⟩), .pointer (some ⟨bc, 0, none⟩), .pointer (some ⟨bo, 0, none⟩), .pointer (some ⟨bk, 0, none⟩)]

theorem yield_at (by' bc bo bk : Nat) (y Y k : Int) (w : World) (cy : w.cell? ⟨by', 0, none⟩ = some (.int .i64 y)) (cc : w.cell? ⟨bc, 0, none⟩ = some (.int .i64 (Y - y))) (ck : w.cell? ⟨bk, 0, none⟩ = some (.int .i64 k))
    (fc : w.frozen? ⟨bc, 0, none⟩ = false) (hky : bk ≠ bc) (h0 : y ≤ Y) (hk : Y ≤ y + k) (k1 : k ≤ 1000) (y0 : 1583 ≤ y) (y1 : Y ≤ 9223372036854775807) (hok : eY Y ≤ 9223372036854775807) :
    Calls Ybad.prog 15 #[dateV (eY Y) (eM Y) (eD Y), .pointer (some ⟨by', 0, none⟩), .pointer (some ⟨bc, 0, none⟩), .pointer (some ⟨bo, 0, none⟩), .pointer (some ⟨bk, 0, none⟩)] w fun e w' =>
      e = .returned (.bool true) ∧ w'.cell? ⟨bc, 0, none⟩ = some (.int .i64 (Y + 1 - y)) ∧ w'.frozen? ⟨bc, 0, none⟩ = false ∧ w.grownBy w' (some bc) := by
  have h := yield_sib by' bc bo bk y (Y - y) k w cy cc ck fc hky (by omega) (by omega) k1 (by omega) (by omega) (by omega) (by omega) (by rw [show y + (Y - y) = Y from by omega]; exact hok)
  rw [show y + (Y - y) = Y from by omega, show Y - y + 1 = Y + 1 - y from by omega] at h
  exact h

/-- what holds at every year of the run: 'Y - y' dates have been handed over, none of them wrong -/
structure SibW (B bl by' bc bo bk : Nat) (y l k Y : Int) (w wr : World) : Prop where
  cl : wr.cell? ⟨bl, 0, none⟩ = some (.int .i64 l)
  cy : wr.cell? ⟨by', 0, none⟩ = some (.int .i64 y)
  ck : wr.cell? ⟨bk, 0, none⟩ = some (.int .i64 k)
  co : wr.cell? ⟨bo, 0, none⟩ = some (.bool true)
  cc : wr.cell? ⟨bc, 0, none⟩ = some (.int .i64 (Y - y))
  fc : wr.frozen? ⟨bc, 0, none⟩ = false
  bel : Below B w wr
  hB : B ≤ wr.heap.size

/-- the blocks are apart -/
structure SibB (B bl by' bc bo bk bt : Nat) : Prop where
  h1 : bl ≠ bc
  h2 : by' ≠ bc
  h3 : bk ≠ bc
  h4 : bo ≠ bc
  h5 : bt ≠ bc
  g1 : bl ≠ bt
  g2 : by' ≠ bt
  g3 : bk ≠ bt
  g4 : bo ≠ bt
  hc : B ≤ bc
  ht : B ≤ bt

theorem SibW.grown {B bl by' bc bo bk : Nat} {y l k Y : Int} {w wr w' : World} (h : SibW B bl by' bc bo bk y l k Y w wr) {r : Nat} (hg : wr.grownBy w' (some r)) (hB : B ≤ r)
    (n1 : bl ≠ r) (n2 : by' ≠ r) (n3 : bk ≠ r) (n4 : bo ≠ r) (n5 : bc ≠ r) : SibW B bl by' bc bo bk y l k Y w w' where
  cl := hg.cell h.cl (by intro e; exact n1 (Option.some.inj e))
  cy := hg.cell h.cy (by intro e; exact n2 (Option.some.inj e))
  ck := hg.cell h.ck (by intro e; exact n3 (Option.some.inj e))
  co := hg.cell h.co (by intro e; exact n4 (Option.some.inj e))
  cc := hg.cell h.cc (by intro e; exact n5 (Option.some.inj e))
  fc := (hg.frozen_far _ (block_lt_of_cell h.cc) (by intro e; exact n5 (Option.some.inj e))).trans h.fc
  bel := h.bel.grown hg h.hB (fun k e => by cases e; exact hB)
  hB := Nat.le_trans h.hB hg.size
theorem SibW.below {B bl by' bc bo bk : Nat} {y l k Y : Int} {w wr w' : World} (h : SibW B bl by' bc bo bk y l k Y w wr) (hb : Below wr.heap.size wr w') : SibW B bl by' bc bo bk y l k Y w w' where
  cl := (hb.cell (p := ⟨bl, 0, none⟩) (block_lt_of_cell h.cl)).trans h.cl
  cy := (hb.cell (p := ⟨by', 0, none⟩) (block_lt_of_cell h.cy)).trans h.cy
  ck := (hb.cell (p := ⟨bk, 0, none⟩) (block_lt_of_cell h.ck)).trans h.ck
  co := (hb.cell (p := ⟨bo, 0, none⟩) (block_lt_of_cell h.co)).trans h.co
  cc := (hb.cell (p := ⟨bc, 0, none⟩) (block_lt_of_cell h.cc)).trans h.cc
  fc := (hb.frozen (p := ⟨bc, 0, none⟩) (block_lt_of_cell h.cc)).trans h.fc
  bel := h.bel.trans (hb.mono h.hB)
  hB := Nat.le_trans h.hB hb.size
theorem SibW.yielded {B bl by' bc bo bk : Nat} {y l k Y : Int} {w wr w' : World} (h : SibW B bl by' bc bo bk y l k Y w wr) (hg : wr.grownBy w' (some bc)) (hc : w'.cell? ⟨bc, 0, none⟩ = some (.int .i64 (Y + 1 - y)))
    (hf : w'.frozen? ⟨bc, 0, none⟩ = false) (hB : B ≤ bc) (n1 : bl ≠ bc) (n2 : by' ≠ bc) (n3 : bk ≠ bc) (n4 : bo ≠ bc) : SibW B bl by' bc bo bk y l k (Y + 1) w w' where
  cl := hg.cell h.cl (by intro e; exact n1 (Option.some.inj e))
  cy := hg.cell h.cy (by intro e; exact n2 (Option.some.inj e))
  ck := hg.cell h.ck (by intro e; exact n3 (Option.some.inj e))
  co := hg.cell h.co (by intro e; exact n4 (Option.some.inj e))
  cc := hc
  fc := hf
  bel := h.bel.grown hg h.hB (fun k e => by cases e; exact hB)
  hB := Nat.le_trans h.hB hg.size

theorem CentAt.grown {b : Nat} {y : Int} {w w' : World} {r : Nat} (h : CentAt b y w) (hg : w.grownBy w' (some r)) (hne : b ≠ r) : CentAt b y w' := by
  obtain ⟨h0, h1, h2, h3, h4, h5⟩ := h
  have hlt := block_lt_of_cell h0
  have hn : some b ≠ some r := fun e => hne (Option.some.inj e)
  exact ⟨hg.cell h0 hn, hg.cell h1 hn, hg.cell h2 hn, (hg.frozen_far ⟨b, 0, none⟩ hlt hn).trans h3, (hg.frozen_far ⟨b, 1, none⟩ hlt hn).trans h4, (hg.frozen_far ⟨b, 2, none⟩ hlt hn).trans h5⟩
theorem CentAt.below {b : Nat} {y : Int} {w w' : World} (h : CentAt b y w) (hb : Below w.heap.size w w') : CentAt b y w' := by
  obtain ⟨h0, h1, h2, h3, h4, h5⟩ := h
  have hlt := block_lt_of_cell h0
  exact ⟨(hb.cell (p := ⟨b, 0, none⟩) hlt).trans h0, (hb.cell (p := ⟨b, 1, none⟩) hlt).trans h1, (hb.cell (p := ⟨b, 2, none⟩) hlt).trans h2, (hb.frozen (p := ⟨b, 0, none⟩) hlt).trans h3, (hb.frozen (p := ⟨b, 1, none⟩) hlt).trans h4, (hb.frozen (p := ⟨b, 2, none⟩) hlt).trans h5⟩
theorem CentAt.cent {b : Nat} {y z : Int} {w : World} (h : CentAt b y w) (hc : y / 100 = z / 100) : CentAt b z w := by
  unfold CentAt at h ⊢
  rw [← fr_cent y z hc, ← cyc_cent y z hc, ← mar_cent y z hc]
  exact h

theorem int_eq {k : IntKind} {a b : Int} (h : a = b) : Value.int k a = Value.int k b := by rw [h]

set_option maxHeartbeats 4000000 in
theorem seq_sib (B bl bf by' bc bo bk : Nat) (y l k : Int) (w : World) (hb : SibB B bl by' bc bo bk w.heap.size) (hl : l = y + k) (hyl : y ≤ l) (k1 : k ≤ 1000) (y0 : 1583 ≤ y) (l1 : l ≤ 9223372036854775807) (hok : eY l ≤ 9223372036854775807)
    (hw : SibW B bl by' bc bo bk y l k y w w) (cf : w.cell? ⟨bf, 0, none⟩ = some (.int .i64 y)) :
    Calls Ybad.prog 20 #[yieldV by' bc bo bk, .pointer (some ⟨bl, 0, none⟩), .pointer (some ⟨bf, 0, none⟩)] w fun e w' =>
      e = .returned (.tuple #[]) ∧ SibW B bl by' bc bo bk y l k (l + 1) w w' := by
  have cl := hw.cl
  have ll := block_lt_of_cell cl
  have lf := block_lt_of_cell cf
  have hne : ¬ l < y := by omega
  have HW := Lib.hid (hw.below ((Below.refl w.heap.size w).alloc (Nat.le_refl _) zeroC))
  have HL := Lib.hid hl
  have HK := Lib.hid hok
  have HBB := Lib.hid hb
  have hbn := Lib.hid (box_new w zeroC)
  clear hw hl hok hb
  go_enter Ybad.func20, Ybad.ntmps20
  go_wp2_with fail
  clear cl cf
  go_loopw [5] (fun Yv wr => ∃ Y : Int, y ≤ Y ∧ Y ≤ l ∧ Yv = .int .i64 Y ∧ SibW B bl by' bc bo bk y l k Y w wr ∧ ∃ a b c : Int, wr.cell? ⟨w.heap.size, 0, none⟩ = some (.int .i64 a) ∧ wr.cell? ⟨w.heap.size, 1, none⟩ = some (.int .i64 b) ∧ wr.cell? ⟨w.heap.size, 2, none⟩ = some (.int .i64 c) ∧ wr.frozen? ⟨w.heap.size, 0, none⟩ = false ∧ wr.frozen? ⟨w.heap.size, 1, none⟩ = false ∧ wr.frozen? ⟨w.heap.size, 2, none⟩ = false) (fun Yv _ => (l + 1 - intOf Yv).toNat)
  case atStart => exact ⟨y, Int.le_refl _, hyl, rfl, HW.out, 0, 0, 0, box_cells hbn.out⟩
  case round =>
    obtain ⟨Y, hY0, hY1, rfl, hsw, a, b, c, c0, c1, c2, f0, f1, f2⟩ := hrel
    obtain ⟨wo, hwo⟩ : ∃ wo : World, wo = wr := ⟨_, rfl⟩
    subst hwo
    have HSW := Lib.hid hsw
    clear hsw HW hbn
    go_wp2_with (go_at_call 21; refine (set_any w.heap.size Y a b c _ (by omega) (by omega) c0 c1 c2 f0 f1 f2).mono ?_; rintro e w1 ⟨rfl, hcent, hg1⟩; refine Hid.out ?_)
    refine Lib.hid ?_
    have hb := HBB.out
    have HS1 := Lib.hid (HSW.out.grown hg1 hb.ht hb.g1 hb.g2 hb.g3 hb.g4 (fun e => hb.h5 e.symm))
    have HC1 := Lib.hid hcent
    clear hb hcent hg1 c0 c1 c2 f0 f1 f2 HSW
    go_wp2_with fail
    go_loopw [5, 6, 7, 8] (fun Yv nv bv cv wr => ∃ Z : Int, Y ≤ Z ∧ Z ≤ l ∧ Yv = .int .i64 Z ∧ bv = .int .i64 (Z % 7) ∧ cv = .int .i64 (Z % 19) ∧ SibW B bl by' bc bo bk y l k Z w wr ∧
      ((nv = .int .i64 (Z % 100) ∧ CentAt w.heap.size Z wr) ∨ (nv = .int .i64 100 ∧ Y < Z ∧ CentAt w.heap.size (Z - 1) wr))) (fun Yv _ _ _ _ => (l + 1 - intOf Yv).toNat)
    case atStart => exact ⟨Y, Int.le_refl _, hY1, rfl, rfl, rfl, HS1.out, .inl ⟨rfl, HC1.out⟩⟩
    case round =>
      obtain ⟨Z, hZ0, hZ1, rfl, rfl, rfl, hsw, hor⟩ := hrel
      rcases hor with ⟨rfl, hcent⟩ | ⟨rfl, hlt, hcent⟩
      · have hokZ : eY Z ≤ 9223372036854775807 := by have := eY_mono Z l hZ1; have := HK.out; omega
        have HSW := Lib.hid hsw
        have HC := Lib.hid hcent
        clear hsw hcent HS1 HC1
        go_wp2_with (go_at_call 22; refine (reckon_ok w.heap.size Z _ HC.out (by omega) (by omega) hokZ).mono ?_; rintro e w2 ⟨rfl, hb2⟩; refine Hid.out ?_)
        refine Lib.hid ?_
        have HS2 := Lib.hid ((HSW.out.below hb2).below ((Below.refl w2.heap.size w2).alloc (Nat.le_refl _) (.cells #[.int .i64 (eY Z), .int .i64 (eM Z), .int .i64 (eD Z)] 40)))
        have HC2 := Lib.hid ((HC.out.below hb2).below ((Below.refl w2.heap.size w2).alloc (Nat.le_refl _) (.cells #[.int .i64 (eY Z), .int .i64 (eM Z), .int .i64 (eD Z)] 40)))
        clear HSW HC hb2
        have hZk : Z ≤ y + k := by have := HL.out; omega
        go_wp2_with (go_at_call 15; refine (yield_at by' bc bo bk y Z k _ HS2.out.cy HS2.out.cc HS2.out.ck HS2.out.fc HBB.out.h3 (by omega) hZk k1 y0 (by omega) hokZ).mono ?_; rintro e w3 ⟨rfl, hc3, hf3, hg3⟩; refine Hid.out ?_)
        refine Lib.hid ?_
        have hb := HBB.out
        have HS3 := Lib.hid (HS2.out.yielded hg3 hc3 hf3 hb.hc hb.h1 hb.h2 hb.h3 hb.h4)
        have HC3 := Lib.hid (HC2.out.grown hg3 hb.h5)
        clear hb hg3 hc3 hf3 HS2 HC2
        have cl3 := HS3.out.cl
        by_cases hZl : Z = l
        · have hq : (Z == l) = true := by rw [hZl]; simp
          have HZ := Lib.hid hZl
          clear hZl
          go_wp2_with fail
          refine bodyPost_ret (v := .tuple #[]) (by simp [results, Ybad.results20, go_sem]) rfl ⟨rfl, ?_⟩
          have h3 := HS3.out
          rw [HZ.out] at h3
          exact h3
        · have hq : (Z == l) = false := by simpa using hZl
          have hZlt : Z < l := by omega
          have hor : ∀ x : Int, x = Z % 100 + 1 → (Value.int .i64 x = .int .i64 ((Z + 1) % 100) ∧ CentAt w.heap.size (Z + 1) w3) ∨ (Value.int .i64 x = .int .i64 100 ∧ Y < Z + 1 ∧ CentAt w.heap.size (Z + 1 - 1) w3) := by
            intro x hx
            by_cases h99 : Z % 100 = 99
            · exact .inr ⟨int_eq (by omega), by omega, by rw [show Z + 1 - 1 = Z from by omega]; exact HC3.out⟩
            · exact .inl ⟨int_eq (by omega), HC3.out.cent (by omega)⟩
          have HO := Lib.hid hor
          clear hor hZl
          have hb0 : 0 ≤ Z % 7 ∧ Z % 7 ≤ 6 := by omega
          have hc0 : 0 ≤ Z % 19 ∧ Z % 19 ≤ 18 := by omega
          by_cases h7 : Z % 7 = 6
          · by_cases h19 : Z % 19 = 18
            · have t7 : (Z % 7 + 1 == 7) = true := by rw [h7]; rfl
              have t19 : (Z % 19 + 1 == 19) = true := by rw [h19]; rfl
              have H7 := Lib.hid h7
              have H19 := Lib.hid h19
              clear h7 h19
              go_wp2_with fail
              go_roundw
              case rel => exact ⟨Z + 1, by omega, by omega, rfl, int_eq (by have := H7.out; omega), int_eq (by have := H19.out; omega), HS3.out, HO.out _ rfl⟩
              case measure => simp [intOf]; omega
            · have t7 : (Z % 7 + 1 == 7) = true := by rw [h7]; rfl
              have t19 : (Z % 19 + 1 == 19) = false := by rw [beq_eq_false_iff_ne]; omega
              have H7 := Lib.hid h7
              have H19 := Lib.hid h19
              clear h7 h19
              go_wp2_with fail
              go_roundw
              case rel => exact ⟨Z + 1, by omega, by omega, rfl, int_eq (by have := H7.out; omega), int_eq (by have := H19.out; omega), HS3.out, HO.out _ rfl⟩
              case measure => simp [intOf]; omega
          · by_cases h19 : Z % 19 = 18
            · have t7 : (Z % 7 + 1 == 7) = false := by rw [beq_eq_false_iff_ne]; omega
              have t19 : (Z % 19 + 1 == 19) = true := by rw [h19]; rfl
              have H7 := Lib.hid h7
              have H19 := Lib.hid h19
              clear h7 h19
              go_wp2_with fail
              go_roundw
              case rel => exact ⟨Z + 1, by omega, by omega, rfl, int_eq (by have := H7.out; omega), int_eq (by have := H19.out; omega), HS3.out, HO.out _ rfl⟩
              case measure => simp [intOf]; omega
            · have t7 : (Z % 7 + 1 == 7) = false := by rw [beq_eq_false_iff_ne]; omega
              have t19 : (Z % 19 + 1 == 19) = false := by rw [beq_eq_false_iff_ne]; omega
              have H7 := Lib.hid h7
              have H19 := Lib.hid h19
              clear h7 h19
              go_wp2_with fail
              go_roundw
              case rel => exact ⟨Z + 1, by omega, by omega, rfl, int_eq (by have := H7.out; omega), int_eq (by have := H19.out; omega), HS3.out, HO.out _ rfl⟩
              case measure => simp [intOf]; omega
      · go_wp2_with fail
        go_roundw
        case rel => exact ⟨Z, by omega, hZ1, rfl, hsw, _, _, _, hcent⟩
        case measure => simp [intOf]; omega

end Go.Proofs.YbulkdgfqDoor
