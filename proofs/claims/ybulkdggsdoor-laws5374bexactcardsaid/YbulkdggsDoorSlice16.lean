import Derived.Test.YbulkdggsDoorSlice
namespace Go.Proofs.YbulkdggsDoor
open Go.RowKit
set_option linter.unusedVariables false

theorem put64_bytes (g o n c' m : Nat) (b0 b1 b2 b3 b4 b5 b6 b7 : Int) (W : World) (hn : 8 ≤ n) (h0 : isB b0) (h1 : isB b1) (h2 : isB b2) (h3 : isB b3) (h4 : isB b4) (h5 : isB b5) (h6 : isB b6) (h7 : isB b7) (hT : There g m W) (hm : o + 8 ≤ m) :
    Calls Ybad.prog 14 #[.slice (some ⟨g, o, none⟩) n c', .int .u64 (be8 b0 b1 b2 b3 b4 b5 b6 b7)] W fun e w' => e = .returned (.tuple #[]) ∧ w' = W.setCells g o [.int .u8 b0, .int .u8 b1, .int .u8 b2, .int .u8 b3, .int .u8 b4, .int .u8 b5, .int .u8 b6, .int .u8 b7] := by
  unfold isB at h0 h1 h2 h3 h4 h5 h6 h7
  obtain ⟨x0, c0⟩ := Option.isSome_iff_exists.1 (hT (o + 0) (by omega)).1
  obtain ⟨x1, c1⟩ := Option.isSome_iff_exists.1 (hT (o + 1) (by omega)).1
  obtain ⟨x2, c2⟩ := Option.isSome_iff_exists.1 (hT (o + 2) (by omega)).1
  obtain ⟨x3, c3⟩ := Option.isSome_iff_exists.1 (hT (o + 3) (by omega)).1
  obtain ⟨x4, c4⟩ := Option.isSome_iff_exists.1 (hT (o + 4) (by omega)).1
  obtain ⟨x5, c5⟩ := Option.isSome_iff_exists.1 (hT (o + 5) (by omega)).1
  obtain ⟨x6, c6⟩ := Option.isSome_iff_exists.1 (hT (o + 6) (by omega)).1
  obtain ⟨x7, c7⟩ := Option.isSome_iff_exists.1 (hT (o + 7) (by omega)).1
  refine (put64_any g o n c' (be8 b0 b1 b2 b3 b4 b5 b6 b7) x0 x1 x2 x3 x4 x5 x6 x7 W hn (by unfold be8; omega) c0 c1 c2 c3 c4 c5 c6 c7 (hT (o + 0) (by omega)).2 (hT (o + 1) (by omega)).2 (hT (o + 2) (by omega)).2 (hT (o + 3) (by omega)).2 (hT (o + 4) (by omega)).2 (hT (o + 5) (by omega)).2 (hT (o + 6) (by omega)).2 (hT (o + 7) (by omega)).2).mono ?_
  rintro e w' ⟨rfl, rfl⟩
  refine ⟨rfl, ?_⟩
  rw [show be8 b0 b1 b2 b3 b4 b5 b6 b7 / 72057594037927936 = b0 from by unfold be8; omega, show be8 b0 b1 b2 b3 b4 b5 b6 b7 / 281474976710656 % 256 = b1 from by unfold be8; omega, show be8 b0 b1 b2 b3 b4 b5 b6 b7 / 1099511627776 % 256 = b2 from by unfold be8; omega, show be8 b0 b1 b2 b3 b4 b5 b6 b7 / 4294967296 % 256 = b3 from by unfold be8; omega, show be8 b0 b1 b2 b3 b4 b5 b6 b7 / 16777216 % 256 = b4 from by unfold be8; omega, show be8 b0 b1 b2 b3 b4 b5 b6 b7 / 65536 % 256 = b5 from by unfold be8; omega, show be8 b0 b1 b2 b3 b4 b5 b6 b7 / 256 % 256 = b6 from by unfold be8; omega, show be8 b0 b1 b2 b3 b4 b5 b6 b7 % 256 = b7 from by unfold be8; omega]
theorem setCells_append (g : Nat) : ∀ (A B : List Value) (o : Nat) (W : World), W.setCells g o (A ++ B) = (W.setCells g o A).setCells g (o + A.length) B := by
  intro A
  induction A with
  | nil => intro B o W; rfl
  | cons v A ih =>
    intro B o W
    show (W.setCell ⟨g, o, none⟩ v).setCells g (o + 1) (A ++ B) = ((W.setCell ⟨g, o, none⟩ v).setCells g (o + 1) A).setCells g (o + (A.length + 1)) B
    rw [ih, show o + 1 + A.length = o + (A.length + 1) from by omega]
theorem setCells_drewN (g k : Nat) : ∀ (A : List Value) (o : Nat) (W : World), (W.drewN k).setCells g o A = (W.setCells g o A).drewN k := by
  intro A
  induction A with
  | nil => intro o W; rfl
  | cons v A ih => intro o W; exact ih (o + 1) (W.setCell ⟨g, o, none⟩ v)
theorem setCells_drew (g : Nat) (A : List Value) (o : Nat) (W : World) : W.drew.setCells g o A = (W.setCells g o A).drew := setCells_drewN g 1 A o W
theorem ptr_other (a b : Addr) (w : World) (hne : a ≠ b) (ha : ∃ c t, w.heap[a.block]? = some (.cells c t)) (hb : ∃ c t, w.heap[b.block]? = some (.cells c t)) : (Op.equalIn 9999 30 (.pointer (some a)) (.pointer (some b))).run Ybad.prog w = .ok false w := by
  obtain ⟨ca, ta, ha⟩ := ha
  obtain ⟨cb, tb, hb⟩ := hb
  rw [equalIn_ptr 9998]
  exact run_sameAddr_other w hne ha hb
theorem Sx.setCells {N g n : Nat} {u v : Value} {W : World} (h : W.cell? ⟨N, 0, none⟩ = some u ∧ W.cell? ⟨N, 1, none⟩ = some v ∧ There g n W) (hne : N ≠ g) (vs : List Value) (o : Nat) : (W.setCells g o vs).cell? ⟨N, 0, none⟩ = some u ∧ (W.setCells g o vs).cell? ⟨N, 1, none⟩ = some v ∧ There g n (W.setCells g o vs) :=
  ⟨(cell_setCells_far W g o vs _ hne).trans h.1, (cell_setCells_far W g o vs _ hne).trans h.2.1, h.2.2.setCells 0 vs o⟩

theorem Src.drew {N : Nat} {v : Value} {zs : List Int} {W : World} (h : Src N v zs W) : Src N v zs W.drew := by
  rcases h with h | ⟨g, cap, h1, h2, h3, h4⟩
  · exact .inl h
  · exact .inr ⟨g, cap, h1, h2, h3, fun j u hj => h4 j u hj⟩
theorem src_two {N g m : Nat} {W : World} (hN : N ≤ g) (zs ys : List Int) (hl : zs.length = m) (hp : 0 < m) (hT : There g (zs ++ ys).length W) (cap : Nat) :
    Src N (.slice (some ⟨g, 0, none⟩) (zs ++ ys).length cap) (zs ++ ys) ((W.setCells g 0 (zs.map (Value.int .u8))).drew.setCells g m (ys.map (Value.int .u8))) := by
  have h := src_set (cap := cap) (zs := zs ++ ys) hN (by rw [List.length_append]; omega) hT
  rw [List.map_append, setCells_append, List.length_map, hl, Nat.zero_add] at h
  rw [setCells_drew]
  exact h.drew
theorem src16 {N g : Nat} {W : World} (hN : N ≤ g) (hT : There g 16 W) (b0 b1 b2 b3 b4 b5 b6 b7 b8 b9 b10 b11 b12 b13 b14 b15 : Int) : Src N (.slice (some ⟨g, 0, none⟩) 16 16) [b0, b1, b2, b3, b4, b5, b6, b7, b8, b9, b10, b11, b12, b13, b14, b15] ((W.setCells g 0 [.int .u8 b0, .int .u8 b1, .int .u8 b2, .int .u8 b3, .int .u8 b4, .int .u8 b5, .int .u8 b6, .int .u8 b7]).drew.setCells g 8 [.int .u8 b8, .int .u8 b9, .int .u8 b10, .int .u8 b11, .int .u8 b12, .int .u8 b13, .int .u8 b14, .int .u8 b15]) :=
  src_two (m := 8) hN [b0, b1, b2, b3, b4, b5, b6, b7] [b8, b9, b10, b11, b12, b13, b14, b15] rfl (by omega) hT 16

set_option maxHeartbeats 8000000 in
theorem asSlice_16 (b0 b1 b2 b3 b4 b5 b6 b7 b8 b9 b10 b11 b12 b13 b14 b15 : Int) (p4 p6 : Addr) (w : World) (h0 : isB b0) (h1 : isB b1) (h2 : isB b2) (h3 : isB b3) (h4 : isB b4) (h5 : isB b5) (h6 : isB b6) (h7 : isB b7) (h8 : isB b8) (h9 : isB b9) (h10 : isB b10) (h11 : isB b11) (h12 : isB b12) (h13 : isB b13) (h14 : isB b14) (h15 : isB b15) (hG : Glob p4 p6 w) :
    Calls Ybad.prog 8 #[addrV (be8 b0 b1 b2 b3 b4 b5 b6 b7) (be8 b8 b9 b10 b11 b12 b13 b14 b15) (some p6)] w fun e w' => ∃ v, e = .returned v ∧ Src w.heap.size v [b0, b1, b2, b3, b4, b5, b6, b7, b8, b9, b10, b11, b12, b13, b14, b15] w' ∧ Below w.heap.size w w' := by
  have hz := hG.z0
  have hz4 := hG.z4
  have hl : 5 < w.heap.size := block_lt_of_cell hz
  have hl3 : 3 < w.heap.size := block_lt_of_cell hz4
  have he := eql32_sn
  have hG2 := hG.below ((Below.refl w.heap.size w).alloc (Nat.le_refl _) (.cells #[.int .u64 (be8 b0 b1 b2 b3 b4 b5 b6 b7), .int .u64 (be8 b8 b9 b10 b11 b12 b13 b14 b15), .pointer (some p6)] 34))
  have he2 := ptr_other p6 p4 (w.alloc (.cells #[.int .u64 (be8 b0 b1 b2 b3 b4 b5 b6 b7), .int .u64 (be8 b8 b9 b10 b11 b12 b13 b14 b15), .pointer (some p6)] 34)) hG.ne hG2.h6 hG2.h4
  have hT := there_new (w.alloc (.cells #[.int .u64 (be8 b0 b1 b2 b3 b4 b5 b6 b7), .int .u64 (be8 b8 b9 b10 b11 b12 b13 b14 b15), .pointer (some p6)] 34)) 16 #[.int .u8 0, .int .u8 0, .int .u8 0, .int .u8 0, .int .u8 0, .int .u8 0, .int .u8 0, .int .u8 0, .int .u8 0, .int .u8 0, .int .u8 0, .int .u8 0, .int .u8 0, .int .u8 0, .int .u8 0, .int .u8 0] 24 rfl
  rw [show (w.alloc (.cells #[.int .u64 (be8 b0 b1 b2 b3 b4 b5 b6 b7), .int .u64 (be8 b8 b9 b10 b11 b12 b13 b14 b15), .pointer (some p6)] 34)).heap.size = w.heap.size + 1 from by simp] at hT
  have hlo : ((w.alloc (.cells #[.int .u64 (be8 b0 b1 b2 b3 b4 b5 b6 b7), .int .u64 (be8 b8 b9 b10 b11 b12 b13 b14 b15), .pointer (some p6)] 34)).alloc (.cells #[.int .u8 0, .int .u8 0, .int .u8 0, .int .u8 0, .int .u8 0, .int .u8 0, .int .u8 0, .int .u8 0, .int .u8 0, .int .u8 0, .int .u8 0, .int .u8 0, .int .u8 0, .int .u8 0, .int .u8 0, .int .u8 0] 24)).cell? ⟨w.heap.size, 1, none⟩ = some (.int .u64 (be8 b8 b9 b10 b11 b12 b13 b14 b15)) :=
    (box_cell (box_old (box_new _ _)) 1).1
  have hhi : ((w.alloc (.cells #[.int .u64 (be8 b0 b1 b2 b3 b4 b5 b6 b7), .int .u64 (be8 b8 b9 b10 b11 b12 b13 b14 b15), .pointer (some p6)] 34)).alloc (.cells #[.int .u8 0, .int .u8 0, .int .u8 0, .int .u8 0, .int .u8 0, .int .u8 0, .int .u8 0, .int .u8 0, .int .u8 0, .int .u8 0, .int .u8 0, .int .u8 0, .int .u8 0, .int .u8 0, .int .u8 0, .int .u8 0] 24)).cell? ⟨w.heap.size, 0, none⟩ = some (.int .u64 (be8 b0 b1 b2 b3 b4 b5 b6 b7)) :=
    (box_cell (box_old (box_new _ _)) 0).1
  have hbel : Below w.heap.size w ((w.alloc (.cells #[.int .u64 (be8 b0 b1 b2 b3 b4 b5 b6 b7), .int .u64 (be8 b8 b9 b10 b11 b12 b13 b14 b15), .pointer (some p6)] 34)).alloc (.cells #[.int .u8 0, .int .u8 0, .int .u8 0, .int .u8 0, .int .u8 0, .int .u8 0, .int .u8 0, .int .u8 0, .int .u8 0, .int .u8 0, .int .u8 0, .int .u8 0, .int .u8 0, .int .u8 0, .int .u8 0, .int .u8 0] 24)) := ((Below.refl _ _).alloc (Nat.le_refl _) _).alloc (by simp) _
  have HS := Lib.hid (And.intro hhi (And.intro hlo hT))
  have HB := Lib.hid hbel
  clear hG hT hlo hhi hbel hG2
  go_enter Ybad.func8, Ybad.ntmps8
  go_wp2_with fail
  clear he2
  generalize (w.alloc (.cells #[.int .u64 (be8 b0 b1 b2 b3 b4 b5 b6 b7), .int .u64 (be8 b8 b9 b10 b11 b12 b13 b14 b15), .pointer (some p6)] 34)).alloc (.cells #[.int .u8 0, .int .u8 0, .int .u8 0, .int .u8 0, .int .u8 0, .int .u8 0, .int .u8 0, .int .u8 0, .int .u8 0, .int .u8 0, .int .u8 0, .int .u8 0, .int .u8 0, .int .u8 0, .int .u8 0, .int .u8 0] 24) = W at HS HB ⊢
  have hS := HS.out
  go_region_held3 (fun W => W.cell? ⟨w.heap.size, 0, none⟩ = some (.int .u64 (be8 b0 b1 b2 b3 b4 b5 b6 b7)) ∧ W.cell? ⟨w.heap.size, 1, none⟩ = some (.int .u64 (be8 b8 b9 b10 b11 b12 b13 b14 b15)) ∧ There (w.heap.size + 1) 16 W) (first | assumption | exact hS)
    (first
      | (go_at_call 14; refine (put64_bytes _ _ _ _ 16 b0 b1 b2 b3 b4 b5 b6 b7 _ (by omega) h0 h1 h2 h3 h4 h5 h6 h7 (by exact hS.2.2) (by omega)).mono ?_; rintro e w1 ⟨rfl, rfl⟩; have hS2 := Sx.setCells (W := W.drew) hS (show w.heap.size ≠ w.heap.size + 1 by omega) [.int .u8 b0, .int .u8 b1, .int .u8 b2, .int .u8 b3, .int .u8 b4, .int .u8 b5, .int .u8 b6, .int .u8 b7] 0))
  all_goals
    go_wp2_with fail
    have HF := Lib.hid (src16 (N := w.heap.size) (W := W.drew) (g := w.heap.size + 1) (by omega) hS.2.2 b0 b1 b2 b3 b4 b5 b6 b7 b8 b9 b10 b11 b12 b13 b14 b15)
    have HB2 := Lib.hid (Below.setCells (g := w.heap.size + 1) HB.out.drew (by omega) [.int .u8 b0, .int .u8 b1, .int .u8 b2, .int .u8 b3, .int .u8 b4, .int .u8 b5, .int .u8 b6, .int .u8 b7] 0)
    have HS2 := Lib.hid hS2
    clear hS hS2 HS HB
    generalize W.drew.setCells (w.heap.size + 1) 0 [.int .u8 b0, .int .u8 b1, .int .u8 b2, .int .u8 b3, .int .u8 b4, .int .u8 b5, .int .u8 b6, .int .u8 b7] = W2 at HF HB2 HS2 ⊢
    have hT := HS2.out
    go_region_held3 (fun W => W.cell? ⟨w.heap.size, 0, none⟩ = some (.int .u64 (be8 b0 b1 b2 b3 b4 b5 b6 b7)) ∧ W.cell? ⟨w.heap.size, 1, none⟩ = some (.int .u64 (be8 b8 b9 b10 b11 b12 b13 b14 b15)) ∧ There (w.heap.size + 1) 16 W) (first | assumption | exact hT)
      (first
        | (go_at_call 14; refine (put64_bytes _ _ _ _ 16 b8 b9 b10 b11 b12 b13 b14 b15 _ (by omega) h8 h9 h10 h11 h12 h13 h14 h15 (by exact hT.2.2) (by omega)).mono ?_; rintro e w1 ⟨rfl, rfl⟩; have hT2 := Sx.setCells (W := W2.drew) hT (show w.heap.size ≠ w.heap.size + 1 by omega) [.int .u8 b8, .int .u8 b9, .int .u8 b10, .int .u8 b11, .int .u8 b12, .int .u8 b13, .int .u8 b14, .int .u8 b15] 8))
    all_goals
      go_wp2
      go_ret
      exact ⟨_, rfl, HF.out, Below.setCells HB2.out.drew (by omega) _ _⟩

end Go.Proofs.YbulkdggsDoor
