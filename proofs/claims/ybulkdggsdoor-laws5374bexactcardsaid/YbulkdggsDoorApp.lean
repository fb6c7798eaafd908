import Derived.Test.YbulkdggsDoorFam
import Derived.Laws.AppendOwnNone
namespace Go.Proofs.YbulkdggsDoor
open Go.RowKit
set_option linter.unusedVariables false

theorem info5 : (Ybad.prog.info? 5).map (fun i => (i.zero, i.size, i.bytes)) = some (some (.int .u8 0), 1, 1) := by kernel_rfl
/-- bytes, as cells -/
abbrev cellsOf (zs : List Int) : List Value := zs.map (Value.int .u8)
theorem one_cells (zs : List Int) (u : Value) (h : u ∈ cellsOf zs) : u.oneCell' = true := by
  simp at h
  obtain ⟨z, _, rfl⟩ := h
  rfl
theorem add_off (b j : Nat) : (⟨b, 0, none⟩ : Addr).add j = ⟨b, j, none⟩ := by cases j <;> simp [Addr.add]
theorem news_new (w : World) (zs : List Int) (t : TypeId) (j : Nat) (u : Value) (h : (cellsOf zs)[j]? = some u) : (w.alloc (.cells (cellsOf zs).toArray t)).cell? ((⟨w.heap.size, 0, none⟩ : Addr).add j) = some u := by
  rw [add_off, (box_cell (box_new w (.cells (cellsOf zs).toArray t)) j).1]
  simpa using h
theorem row_below {B : Nat} {w w' : World} {v : Value} {n : Nat} {xs : List Value} {e : TypeId} {s : Nat} (ho : w.ownsRow B e s v n xs) (hg : w.grownBy w' v.ownBlock) (hB : B ≤ w.heap.size) : Below B w w' :=
  (Below.refl B w).grown hg hB (fun k hk => (ho.lt k hk).1)

set_option maxHeartbeats 4000000 in
theorem app16_any (B n : Nat) (v : Int) (sv : Value) (xs : List Value) (w : World) (hv : 0 ≤ v ∧ v < 65536) (hown : w.ownsRow B 5 1 sv n xs) (hB : B ≤ w.heap.size) (hn : n ≤ 1000000) :
    Calls Ybad.prog 15 #[.agg #[], sv, .int .u16 v] w fun e w' => ∃ v', e = .returned v' ∧ w'.ownsRow B 5 1 v' (n + 2) (xs ++ cellsOf [v / 256, v % 256]) ∧ Below B w w' := by
  obtain ⟨i0, hi1, hi2, hi3, hi4⟩ := info_parts info5
  have HO := Lib.hid ((hown.alloc (.cells #[] 55)).alloc (.cells #[.int .u8 (v / 256), .int .u8 (v % 256)] 5))
  have HN := Lib.hid (fun j u => news_new (w.alloc (.cells #[] 55)) [v / 256, v % 256] 5 j u)
  clear hown
  go_enter Ybad.func15, Ybad.ntmps15
  go_wp2_with (at_builtin; refine wpList_append_own _ rfl _ _ 35 rfl B 5 i0 (.int .u8 0) 1 1 Ybad.underlying35 hi1 hi2 hi3 hi4 rfl (by decide) sv n xs rfl HO.out ⟨w.heap.size + 1, 0, none⟩ 2 2 (cellsOf [v / 256, v % 256]) rfl rfl (by simpa using HN.out) (one_cells _) (by unfold maxLen; omega) (by omega) (by simp; omega) ?_; refine Hid.out ?_)
  refine Lib.hid ?_
  intro v' w1 hown' hgrow hiff
  have HB := Lib.hid (((Below.refl B w).alloc hB (.cells #[] 55)).alloc (by simp; omega) (.cells #[.int .u8 (v / 256), .int .u8 (v % 256)] 5) |>.trans (row_below HO.out hgrow (by simp; omega)))
  have HO2 := Lib.hid hown'
  clear hown' hgrow hiff HO HN
  go_wp2
  go_ret
  exact ⟨_, rfl, HO2.out, HB.out⟩

set_option maxHeartbeats 4000000 in
theorem app32_any (B n : Nat) (v : Int) (sv : Value) (xs : List Value) (w : World) (hv : 0 ≤ v ∧ v < 4294967296) (hown : w.ownsRow B 5 1 sv n xs) (hB : B ≤ w.heap.size) (hn : n ≤ 1000000) :
    Calls Ybad.prog 10 #[.agg #[], sv, .int .u32 v] w fun e w' => ∃ v', e = .returned v' ∧ w'.ownsRow B 5 1 v' (n + 4) (xs ++ cellsOf [v / 16777216, v / 65536 % 256, v / 256 % 256, v % 256]) ∧ Below B w w' := by
  obtain ⟨i0, hi1, hi2, hi3, hi4⟩ := info_parts info5
  have HO := Lib.hid ((hown.alloc (.cells #[] 55)).alloc (.cells #[.int .u8 (v / 16777216), .int .u8 (v / 65536 % 256), .int .u8 (v / 256 % 256), .int .u8 (v % 256)] 5))
  have HN := Lib.hid (fun j u => news_new (w.alloc (.cells #[] 55)) [v / 16777216, v / 65536 % 256, v / 256 % 256, v % 256] 5 j u)
  clear hown
  go_enter Ybad.func10, Ybad.ntmps10
  go_wp2_with (at_builtin; refine wpList_append_own _ rfl _ _ 35 rfl B 5 i0 (.int .u8 0) 1 1 Ybad.underlying35 hi1 hi2 hi3 hi4 rfl (by decide) sv n xs rfl HO.out ⟨w.heap.size + 1, 0, none⟩ 4 4 (cellsOf [v / 16777216, v / 65536 % 256, v / 256 % 256, v % 256]) rfl rfl (by simpa using HN.out) (one_cells _) (by unfold maxLen; omega) (by omega) (by simp; omega) ?_; refine Hid.out ?_)
  refine Lib.hid ?_
  intro v' w1 hown' hgrow hiff
  have HB := Lib.hid (((Below.refl B w).alloc hB (.cells #[] 55)).alloc (by simp; omega) (.cells #[.int .u8 (v / 16777216), .int .u8 (v / 65536 % 256), .int .u8 (v / 256 % 256), .int .u8 (v % 256)] 5) |>.trans (row_below HO.out hgrow (by simp; omega)))
  have HO2 := Lib.hid hown'
  clear hown' hgrow hiff HO HN
  go_wp2
  go_ret
  exact ⟨_, rfl, HO2.out, HB.out⟩

/-- the step of 'b = append(b, x)' with a literal of one byte -/
theorem one_new (w : World) (z : Int) (j : Nat) (u : Value) (h : (cellsOf [z])[j]? = some u) : (w.alloc (.cells #[.int .u8 z] 5)).cell? ((⟨w.heap.size, 0, none⟩ : Addr).add j) = some u := news_new w [z] 5 j u h

set_option maxHeartbeats 4000000 in
theorem start_any (L : Int) (w : World) (hL : 0 ≤ L ∧ L ≤ 100) (hl2 : 2 < w.heap.size) :
    Calls Ybad.prog 9 #[.int .u16 4, .int .i64 L] w fun e w' => ∃ v', e = .returned v' ∧ w'.ownsRow w.heap.size 5 1 v' 4 (cellsOf [1, 0, 4, L]) ∧ Below w.heap.size w w' := by
  obtain ⟨i0, hi1, hi2, hi3, hi4⟩ := info_parts info5
  obtain ⟨n, rfl⟩ : ∃ n : Nat, L = n := ⟨L.toNat, by omega⟩
  go_enter Ybad.func9, Ybad.ntmps9
  go_wp2_with (at_make; refine wpList_make_own _ rfl _ _ 35 rfl w.heap.size 5 i0 (.int .u8 0) 1 Ybad.underlying35 hi1 hi2 hi3 .i64 .i64 _ (4 + n) rfl rfl (by omega) (by rw [hi4]; omega) (by unfold maxLen; omega) (Nat.le_refl _) ?_; refine Hid.out ?_)
  refine Lib.hid ?_
  intro w1 ho1 hg1
  have hb1 : Below w.heap.size w w1 := (Below.refl _ _).grown hg1 (Nat.le_refl _) (fun k hk => by cases hk)
  have HO1 := Lib.hid (ho1.alloc (.cells #[.int .u8 1] 5))
  have HB1 := Lib.hid (hb1.alloc (o := .cells #[.int .u8 1] 5) hb1.size)
  have hz1 := hb1.size
  clear ho1 hg1 hb1
  go_wp2_with (at_builtin; refine wpList_append_own _ rfl _ _ 35 rfl w.heap.size 5 i0 (.int .u8 0) 1 1 Ybad.underlying35 hi1 hi2 hi3 hi4 rfl (by decide) (.slice (some ⟨w.heap.size, 0, none⟩) 0 (4 + n)) (0) ([]) rfl HO1.out ⟨w1.heap.size, 0, none⟩ 1 1 (cellsOf [1]) rfl rfl (one_new w1 1) (one_cells _) (by unfold maxLen; omega) (by omega) (by simp; omega) ?_; refine Hid.out ?_)
  refine Lib.hid ?_
  intro v2 w2 ho2 hg2 hi2'
  have HB2 := Lib.hid (HB1.out.trans (row_below HO1.out hg2 (by simp; omega)))
  have HO2 := Lib.hid ho2
  have hz2 := HB2.out.size
  clear ho2 hg2 hi2' HO1 HB1
  go_wp2_with (go_at_call 15; refine (app16_any w.heap.size 1 4 v2 (cellsOf [1]) _ (by omega) HO2.out hz2 (by omega)).mono ?_; rintro e w3 ⟨v3, rfl, ho3, hb3⟩; refine Hid.out ?_)
  refine Lib.hid ?_
  have HB3 := Lib.hid (HB2.out.trans hb3)
  have hz3 := HB3.out.size
  have HO3 := Lib.hid (ho3.alloc (.cells #[.int .u8 n] 5))
  clear ho3 hb3 HO2 HB2
  go_wp2_with (at_builtin; refine wpList_append_own _ rfl _ _ 35 rfl w.heap.size 5 i0 (.int .u8 0) 1 1 Ybad.underlying35 hi1 hi2 hi3 hi4 rfl (by decide) (v3) (1 + 2) (cellsOf [1] ++ cellsOf [4 / 256, 4 % 256]) rfl HO3.out ⟨w3.heap.size, 0, none⟩ 1 1 (cellsOf [(n : Int)]) rfl rfl (one_new w3 n) (one_cells _) (by unfold maxLen; omega) (by omega) (by simp; omega) ?_; refine Hid.out ?_)
  refine Lib.hid ?_
  intro v4 w4 ho4 hg4 hi4'
  have HB4 := Lib.hid ((HB3.out.alloc (o := .cells #[.int .u8 n] 5) hz3).trans (row_below HO3.out hg4 (by simp; omega)))
  have HO4 := Lib.hid ho4
  clear ho4 hg4 hi4' HO3 HB3
  go_wp2
  go_ret
  exact ⟨_, rfl, HO4.out, HB4.out⟩

end Go.Proofs.YbulkdggsDoor
