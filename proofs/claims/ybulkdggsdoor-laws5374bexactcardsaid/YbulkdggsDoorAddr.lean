import Derived.Test.YbulkdggsDoorBytes
namespace Go.Proofs.YbulkdggsDoor
open Go.RowKit
set_option linter.unusedVariables false

/-- the package-level variables, as the row lists them -/
structure Glob (p4 p6 : Addr) (w : World) : Prop where
  a0 : w.cell? ⟨0, 0, none⟩ = some (.int .u16 1)
  a1 : w.cell? ⟨0, 1, none⟩ = some (.int .u8 85)
  b0 : w.cell? ⟨1, 0, none⟩ = some (.int .u16 2)
  b1 : w.cell? ⟨1, 1, none⟩ = some (.int .u8 85)
  z4 : w.cell? ⟨3, 0, none⟩ = some (.pointer (some p4))
  z6 : w.cell? ⟨4, 0, none⟩ = some (.pointer (some p6))
  z0 : w.cell? ⟨5, 0, none⟩ = some (.pointer none)
  h4 : ∃ c t, w.heap[p4.block]? = some (.cells c t)
  h6 : ∃ c t, w.heap[p6.block]? = some (.cells c t)
  ne : p6 ≠ p4
theorem lt_of_some {w : World} {k : Nat} {x : Obj} (h : w.heap[k]? = some x) : k < w.heap.size := by
  rcases Nat.lt_or_ge k w.heap.size with h' | h'
  · exact h'
  · rw [Array.getElem?_eq_none h'] at h
    cases h
theorem Glob.below {p4 p6 : Addr} {w w' : World} (h : Glob p4 p6 w) (hb : Below w.heap.size w w') : Glob p4 p6 w' where
  a0 := (hb.cell (block_lt_of_cell h.a0)).trans h.a0
  a1 := (hb.cell (block_lt_of_cell h.a1)).trans h.a1
  b0 := (hb.cell (block_lt_of_cell h.b0)).trans h.b0
  b1 := (hb.cell (block_lt_of_cell h.b1)).trans h.b1
  z4 := (hb.cell (block_lt_of_cell h.z4)).trans h.z4
  z6 := (hb.cell (block_lt_of_cell h.z6)).trans h.z6
  z0 := (hb.cell (block_lt_of_cell h.z0)).trans h.z0
  h4 := by
    obtain ⟨c, t, h4⟩ := h.h4
    exact ⟨c, t, (hb.block _ (lt_of_some h4)).trans h4⟩
  h6 := by
    obtain ⟨c, t, h6⟩ := h.h6
    exact ⟨c, t, (hb.block _ (lt_of_some h6)).trans h6⟩
  ne := h.ne

/-- an address, as a value -/
abbrev addrV (hi lo : Int) (z : Option Addr) : Value := .agg #[.int .u64 hi, .int .u64 lo, .pointer z]
def lo4 (a b c d : Int) : Int := 281470681743360 + a * 16777216 + b * 65536 + c * 256 + d

theorem or_hi (i : Nat) (x y : Int) (hx₀ : 0 ≤ x) (hx : x % 2 ^ i = 0) (hx₁ : x < 2 ^ 64) (hy₀ : 0 ≤ y) (hy : y < 2 ^ i) (hy₁ : y < 2 ^ 64) : bits .or .u64 x y = x + y :=
  bits_join .u64 64 (by decide) wraps_u64 i x y hx₀ hx hx₁ hy₀ hy hy₁

set_option maxHeartbeats 4000000 in
theorem from4_any (a b c d : Int) (p4 p6 : Addr) (w : World) (ha : isB a) (hb : isB b) (hc : isB c) (hd : isB d) (hG : Glob p4 p6 w) :
    Calls Ybad.prog 6 #[.agg #[.int .u8 a, .int .u8 b, .int .u8 c, .int .u8 d]] w fun e w' => e = .returned (addrV 0 (lo4 a b c d) (some p4)) ∧ Below w.heap.size w w' := by
  unfold isB at ha hb hc hd
  have hz := hG.z4
  have hl := block_lt_of_cell hz
  have o1 : bits .or .u64 281470681743360 (a * 16777216) = 281470681743360 + a * 16777216 := or_hi 32 _ _ (by omega) (by decide) (by omega) (by omega) (by omega) (by omega)
  have o2 : bits .or .u64 (281470681743360 + a * 16777216) (b * 65536) = 281470681743360 + a * 16777216 + b * 65536 := or_hi 24 _ _ (by omega) (by omega) (by omega) (by omega) (by omega) (by omega)
  have o3 : bits .or .u64 (281470681743360 + a * 16777216 + b * 65536) (c * 256) = 281470681743360 + a * 16777216 + b * 65536 + c * 256 := or_hi 16 _ _ (by omega) (by omega) (by omega) (by omega) (by omega) (by omega)
  have o4 : bits .or .u64 (281470681743360 + a * 16777216 + b * 65536 + c * 256) d = lo4 a b c d := or_hi 8 _ _ (by omega) (by omega) (by omega) (by omega) (by omega) (by omega)
  clear hG
  go_enter Ybad.func6, Ybad.ntmps6
  go_wp2
  exact bodyPost_ret (v := addrV 0 (lo4 a b c d) (some p4)) (by simp [results, Ybad.results6, go_sem]) rfl ⟨rfl, ((Below.refl _ _).alloc (Nat.le_refl _) _).alloc (by simp) _⟩

theorem box_new (w : World) (o : Obj) : (w.alloc o).heap[w.heap.size]? = some o := by
  show (w.heap.push o)[w.heap.size]? = _
  simp
theorem lt_of_box {w : World} {k : Nat} {x : Obj} (h : w.heap[k]? = some x) : k < w.heap.size := by
  rcases Nat.lt_or_ge k w.heap.size with h' | h'
  · exact h'
  · rw [Array.getElem?_eq_none h'] at h
    cases h
theorem box_old {w : World} {o : Obj} {k : Nat} {x : Obj} (h : w.heap[k]? = some x) : (w.alloc o).heap[k]? = some x := by
  rw [Below.heap_alloc w o k (lt_of_box h)]
  exact h
theorem box_below {w w' : World} {k : Nat} {x : Obj} (h : w.heap[k]? = some x) (hb : Below w.heap.size w w') : w'.heap[k]? = some x := by
  rw [hb.block k (lt_of_box h)]
  exact h
theorem box_cell {w : World} {k : Nat} {c : Array Value} {t : TypeId} (h : w.heap[k]? = some (.cells c t)) (j : Nat) : w.cell? ⟨k, j, none⟩ = c[j]? ∧ w.frozen? ⟨k, j, none⟩ = false := by
  unfold World.cell? World.frozen?
  rw [h]
  simp

/-- sixteen bytes, as an array's cells -/
abbrev cells16 (b0 b1 b2 b3 b4 b5 b6 b7 b8 b9 b10 b11 b12 b13 b14 b15 : Int) : Array Value := #[.int .u8 b0, .int .u8 b1, .int .u8 b2, .int .u8 b3, .int .u8 b4, .int .u8 b5, .int .u8 b6, .int .u8 b7, .int .u8 b8, .int .u8 b9, .int .u8 b10, .int .u8 b11, .int .u8 b12, .int .u8 b13, .int .u8 b14, .int .u8 b15]

theorem be_lo {W : World} {g : Nat} {b0 b1 b2 b3 b4 b5 b6 b7 b8 b9 b10 b11 b12 b13 b14 b15 : Int} (h : W.heap[g]? = some (.cells (cells16 b0 b1 b2 b3 b4 b5 b6 b7 b8 b9 b10 b11 b12 b13 b14 b15) 24)) (h0 : isB b0) (h1 : isB b1) (h2 : isB b2) (h3 : isB b3) (h4 : isB b4) (h5 : isB b5) (h6 : isB b6) (h7 : isB b7) (h8 : isB b8) (h9 : isB b9) (h10 : isB b10) (h11 : isB b11) (h12 : isB b12) (h13 : isB b13) (h14 : isB b14) (h15 : isB b15) (n c : Nat) (hn : 8 ≤ n) :
    Calls Ybad.prog 12 #[.slice (some ⟨g, 0, none⟩) n c] W fun e w' => e = .returned (.int .u64 (be8 b0 b1 b2 b3 b4 b5 b6 b7)) ∧ ∃ k, w' = W.drewN k :=
  be64_any g 0 n c b0 b1 b2 b3 b4 b5 b6 b7 W hn h0 h1 h2 h3 h4 h5 h6 h7 (box_cell h 0).1 (box_cell h 1).1 (box_cell h 2).1 (box_cell h 3).1 (box_cell h 4).1 (box_cell h 5).1 (box_cell h 6).1 (box_cell h 7).1
theorem be_hi {W : World} {g : Nat} {b0 b1 b2 b3 b4 b5 b6 b7 b8 b9 b10 b11 b12 b13 b14 b15 : Int} (h : W.heap[g]? = some (.cells (cells16 b0 b1 b2 b3 b4 b5 b6 b7 b8 b9 b10 b11 b12 b13 b14 b15) 24)) (h0 : isB b0) (h1 : isB b1) (h2 : isB b2) (h3 : isB b3) (h4 : isB b4) (h5 : isB b5) (h6 : isB b6) (h7 : isB b7) (h8 : isB b8) (h9 : isB b9) (h10 : isB b10) (h11 : isB b11) (h12 : isB b12) (h13 : isB b13) (h14 : isB b14) (h15 : isB b15) (n c : Nat) (hn : 8 ≤ n) :
    Calls Ybad.prog 12 #[.slice (some ⟨g, 8, none⟩) n c] W fun e w' => e = .returned (.int .u64 (be8 b8 b9 b10 b11 b12 b13 b14 b15)) ∧ ∃ k, w' = W.drewN k :=
  be64_any g 8 n c b8 b9 b10 b11 b12 b13 b14 b15 W hn h8 h9 h10 h11 h12 h13 h14 h15 (box_cell h 8).1 (box_cell h 9).1 (box_cell h 10).1 (box_cell h 11).1 (box_cell h 12).1 (box_cell h 13).1 (box_cell h 14).1 (box_cell h 15).1

theorem isSome_setCell (w : World) (p a : Addr) (v : Value) (h : (w.cell? a).isSome = true) : ((w.setCell p v).cell? a).isSome = true := by
  obtain ⟨u, hu⟩ := Option.isSome_iff_exists.1 h
  obtain ⟨v', hv'⟩ := cell?_setCell_some (p := p) (x := v) hu
  rw [hv']
  rfl
theorem ne_off {b i j : Nat} (h : i ≠ j) : (⟨b, i, none⟩ : Addr) ≠ ⟨b, j, none⟩ := fun e => by
  injection e with _ e2 _
  exact h e2
theorem stores3 (b : Nat) {v0 v1 v2 : Value} (x0 x1 x2 : Value) (w : World)
    (c0 : w.cell? ⟨b, 0, none⟩ = some v0) (c1 : w.cell? ⟨b, 1, none⟩ = some v1) (c2 : w.cell? ⟨b, 2, none⟩ = some v2) :
    (((w.setCell ⟨b, 0, none⟩ x0).setCell ⟨b, 1, none⟩ x1).setCell ⟨b, 2, none⟩ x2).cell? ⟨b, 0, none⟩ = some x0 ∧
    (((w.setCell ⟨b, 0, none⟩ x0).setCell ⟨b, 1, none⟩ x1).setCell ⟨b, 2, none⟩ x2).cell? ⟨b, 1, none⟩ = some x1 ∧
    (((w.setCell ⟨b, 0, none⟩ x0).setCell ⟨b, 1, none⟩ x1).setCell ⟨b, 2, none⟩ x2).cell? ⟨b, 2, none⟩ = some x2 := by
  have s1 : (w.setCell ⟨b, 0, none⟩ x0).cell? ⟨b, 1, none⟩ = some v1 := by rw [World.cell?_setCell_other _ _ _ _ (ne_off (by omega))]; exact c1
  have s2 : (w.setCell ⟨b, 0, none⟩ x0).cell? ⟨b, 2, none⟩ = some v2 := by rw [World.cell?_setCell_other _ _ _ _ (ne_off (by omega))]; exact c2
  have s3 : ((w.setCell ⟨b, 0, none⟩ x0).setCell ⟨b, 1, none⟩ x1).cell? ⟨b, 2, none⟩ = some v2 := by rw [World.cell?_setCell_other _ _ _ _ (ne_off (by omega))]; exact s2
  refine ⟨?_, ?_, World.cell?_setCell_same _ _ _ s3⟩
  · rw [World.cell?_setCell_other _ _ _ _ (ne_off (by omega)), World.cell?_setCell_other _ _ _ _ (ne_off (by omega))]
    exact World.cell?_setCell_same _ _ _ c0
  · rw [World.cell?_setCell_other _ _ _ _ (ne_off (by omega))]
    exact World.cell?_setCell_same _ _ _ s1

/-- what is held over AddrFrom16's one region -/
abbrev S16 (N : Nat) (p6 : Addr) (o : Obj) (W : World) : Prop := W.cell? ⟨4, 0, none⟩ = some (.pointer (some p6)) ∧ W.heap[N]? = some o ∧ (W.cell? ⟨N + 1, 0, none⟩).isSome = true ∧ (W.cell? ⟨N + 1, 1, none⟩).isSome = true ∧ (W.cell? ⟨N + 1, 2, none⟩).isSome = true ∧ W.frozen? ⟨N + 1, 0, none⟩ = false ∧ W.frozen? ⟨N + 1, 1, none⟩ = false ∧ W.frozen? ⟨N + 1, 2, none⟩ = false
theorem S16.of {N : Nat} {p6 : Addr} {o : Obj} {W : World} (h : S16 N p6 o W) : S16 N p6 o W := h
theorem S16.drewN {N : Nat} {p6 : Addr} {o : Obj} {W : World} (h : S16 N p6 o W) (k : Nat) : S16 N p6 o (W.drewN k) := h
theorem S16.set {N : Nat} {p6 : Addr} {o : Obj} {W : World} (h : S16 N p6 o W) (hN : 4 < N) (i : Nat) (v : Value) : S16 N p6 o (W.setCell ⟨N + 1, i, none⟩ v) := by
  obtain ⟨h0, h1, h2, h3, h4, h5, h6, h7⟩ := h
  refine ⟨?_, ?_, isSome_setCell _ _ _ _ h2, isSome_setCell _ _ _ _ h3, isSome_setCell _ _ _ _ h4, ?_, ?_, ?_⟩
  · rw [World.cell?_setCell_far _ _ _ _ (by show N + 1 ≠ 4; omega)]; exact h0
  · rw [Below.heap_setCell _ _ _ _ (by show N ≠ N + 1; omega)]; exact h1
  all_goals (rw [World.frozen?_setCell]; assumption)

set_option maxHeartbeats 4000000 in
theorem from16_any (b0 b1 b2 b3 b4 b5 b6 b7 b8 b9 b10 b11 b12 b13 b14 b15 : Int) (p4 p6 : Addr) (w : World) (h0 : isB b0) (h1 : isB b1) (h2 : isB b2) (h3 : isB b3) (h4 : isB b4) (h5 : isB b5) (h6 : isB b6) (h7 : isB b7) (h8 : isB b8) (h9 : isB b9) (h10 : isB b10) (h11 : isB b11) (h12 : isB b12) (h13 : isB b13) (h14 : isB b14) (h15 : isB b15) (hG : Glob p4 p6 w) :
    Calls Ybad.prog 7 #[.agg (cells16 b0 b1 b2 b3 b4 b5 b6 b7 b8 b9 b10 b11 b12 b13 b14 b15)] w fun e w' => e = .returned (addrV (be8 b0 b1 b2 b3 b4 b5 b6 b7) (be8 b8 b9 b10 b11 b12 b13 b14 b15) (some p6)) ∧ Below w.heap.size w w' := by
  have hz := hG.z6
  have hl : 4 < w.heap.size := block_lt_of_cell hz
  have hS : S16 w.heap.size p6 (.cells (cells16 b0 b1 b2 b3 b4 b5 b6 b7 b8 b9 b10 b11 b12 b13 b14 b15) 24) ((w.alloc (.cells (cells16 b0 b1 b2 b3 b4 b5 b6 b7 b8 b9 b10 b11 b12 b13 b14 b15) 24)).alloc (.cells #[.int .u64 0, .int .u64 0, .pointer none] 34)) := by
    have hn := box_new (w.alloc (.cells (cells16 b0 b1 b2 b3 b4 b5 b6 b7 b8 b9 b10 b11 b12 b13 b14 b15) 24)) (.cells #[.int .u64 0, .int .u64 0, .pointer none] 34)
    rw [show (w.alloc (.cells (cells16 b0 b1 b2 b3 b4 b5 b6 b7 b8 b9 b10 b11 b12 b13 b14 b15) 24)).heap.size = w.heap.size + 1 from by simp] at hn
    refine ⟨?_, box_old (box_new _ _), ?_, ?_, ?_, (box_cell hn 0).2, (box_cell hn 1).2, (box_cell hn 2).2⟩
    · rw [World.cell?_alloc_lt _ _ _ (by simp; omega), World.cell?_alloc_lt _ _ _ hl]; exact hz
    · rw [(box_cell hn 0).1]; rfl
    · rw [(box_cell hn 1).1]; rfl
    · rw [(box_cell hn 2).1]; rfl
  have hbel : Below w.heap.size w ((w.alloc (.cells (cells16 b0 b1 b2 b3 b4 b5 b6 b7 b8 b9 b10 b11 b12 b13 b14 b15) 24)).alloc (.cells #[.int .u64 0, .int .u64 0, .pointer none] 34)) := ((Below.refl _ _).alloc (Nat.le_refl _) _).alloc (by simp) _
  have HBEL := Lib.hid hbel
  clear hG hbel hz
  go_enter Ybad.func7, Ybad.ntmps7
  go_wp2_with fail
  generalize (w.alloc (.cells (cells16 b0 b1 b2 b3 b4 b5 b6 b7 b8 b9 b10 b11 b12 b13 b14 b15) 24)).alloc (.cells #[.int .u64 0, .int .u64 0, .pointer none] 34) = W at hS HBEL ⊢
  obtain ⟨u0, e0⟩ := Option.isSome_iff_exists.1 hS.2.2.1
  obtain ⟨u1, e1⟩ := Option.isSome_iff_exists.1 hS.2.2.2.1
  obtain ⟨u2, e2⟩ := Option.isSome_iff_exists.1 hS.2.2.2.2.1
  have z5 := hS.2.2.2.2.2.1
  have z6 := hS.2.2.2.2.2.2.1
  have z7 := hS.2.2.2.2.2.2.2
  go_region_held3 (fun W => W.cell? ⟨4, 0, none⟩ = some (.pointer (some p6)) ∧ W.heap[w.heap.size]? = some (.cells (cells16 b0 b1 b2 b3 b4 b5 b6 b7 b8 b9 b10 b11 b12 b13 b14 b15) 24) ∧ (W.cell? ⟨w.heap.size + 1, 0, none⟩).isSome = true ∧ (W.cell? ⟨w.heap.size + 1, 1, none⟩).isSome = true ∧ (W.cell? ⟨w.heap.size + 1, 2, none⟩).isSome = true ∧ W.frozen? ⟨w.heap.size + 1, 0, none⟩ = false ∧ W.frozen? ⟨w.heap.size + 1, 1, none⟩ = false ∧ W.frozen? ⟨w.heap.size + 1, 2, none⟩ = false) (first | assumption | exact hS | exact S16.drewN (by assumption) _ | exact ((S16.set (by assumption) hl _ _).set hl _ _).set hl _ _)
    (first
      | (go_at_call_of 12 (0 : Nat); refine (be_lo (by exact (S16.of ‹_›).2.1) h0 h1 h2 h3 h4 h5 h6 h7 h8 h9 h10 h11 h12 h13 h14 h15 _ _ (by omega)).mono ?_; rintro e w1 ⟨rfl, k, rfl⟩)
      | (go_at_call 12; refine (be_hi (by exact (S16.of ‹_›).2.1) h0 h1 h2 h3 h4 h5 h6 h7 h8 h9 h10 h11 h12 h13 h14 h15 _ _ (by omega)).mono ?_; rintro e w1 ⟨rfl, k, rfl⟩))
  all_goals
    go_wp2
    have st := fun n => stores3 (w.heap.size + 1) (.int .u64 (be8 b0 b1 b2 b3 b4 b5 b6 b7)) (.int .u64 (be8 b8 b9 b10 b11 b12 b13 b14 b15)) (.pointer (some p6)) (W.drewN n) e0 e1 e2
    refine bodyPost_ret (v := addrV (be8 b0 b1 b2 b3 b4 b5 b6 b7) (be8 b8 b9 b10 b11 b12 b13 b14 b15) (some p6)) (by simp [results, Ybad.results7, go_sem, st]) rfl ⟨rfl, ?_⟩
    exact (((below_drewN HBEL.out _).setCell (by show w.heap.size ≤ w.heap.size + 1; omega) _).setCell (by show w.heap.size ≤ w.heap.size + 1; omega) _).setCell (by show w.heap.size ≤ w.heap.size + 1; omega) _

end Go.Proofs.YbulkdggsDoor
