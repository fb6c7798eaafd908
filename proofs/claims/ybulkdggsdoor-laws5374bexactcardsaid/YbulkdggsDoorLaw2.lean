import Derived.Test.YbulkdggsDoorEq
namespace Go.Proofs.YbulkdggsDoor
open Go.RowKit
set_option linter.unusedVariables false

set_option maxRecDepth 100000 in
set_option maxHeartbeats 16000000 in
theorem law_some (b_ off n cc : Nat) (ys : List Int) (hn : n ≤ 4096) (hyl : ys.length = n * 8) (hyB : ∀ y ∈ ys, isB y) (r0 r1 r2 r3 r4 r5 r6 r7 k a b c d b0 b1 b2 b3 b4 b5 b6 b7 b8 b9 b10 b11 b12 b13 b14 b15 t hi lo : Int) (z : Option Addr) (zs : List Int) (p4 p6 : Addr) (w : World) (hys : ∀ j u, (cellsOf ys)[j]? = some u → w.cell? ((⟨b_, off, none⟩ : Addr).add j) = some u) (hG : Glob p4 p6 w) (hr0 : isB r0) (hr1 : isB r1) (hr2 : isB r2) (hr3 : isB r3) (hr4 : isB r4) (hr5 : isB r5) (hr6 : isB r6) (hr7 : isB r7) (hk : isB k) (ht : 0 ≤ t ∧ t < 4294967296) (hzl : zs.length ≤ 16) (hzB : ∀ x ∈ zs, isB x)
    (hAddr : ∀ W, Glob p4 p6 W → Calls Ybad.prog 4 #[.int .u8 k, .agg #[.int .u8 a, .int .u8 b, .int .u8 c, .int .u8 d], .agg (cells16 b0 b1 b2 b3 b4 b5 b6 b7 b8 b9 b10 b11 b12 b13 b14 b15)] W fun e w' => ∃ sp ce, e = .returned (.tuple #[addrV hi lo z, .slice sp zs.length ce]) ∧ EpAt sp ce zs w' ∧ Below W.heap.size W w')
    (hRoute : ∀ W (ca : Option Addr) (cl cc' : Nat), Glob p4 p6 W → Calls Ybad.prog 5 #[.agg #[.int .u8 r0, .int .u8 r1, .int .u8 r2, .int .u8 r3, .int .u8 r4, .int .u8 r5, .int .u8 r6, .int .u8 r7, .int .u64 hi, .int .u64 lo, .pointer z, .int .u32 t], .slice ca cl cc'] W fun e w' => RoutePost (wire r0 r1 r2 r3 r4 r5 r6 r7 t zs) (if k % 3 = 1 then 1 else 2) (.slice ca cl cc') W e w') :
    Calls Ybad.prog 3 #[.agg #[.int .u8 r0, .int .u8 r1, .int .u8 r2, .int .u8 r3, .int .u8 r4, .int .u8 r5, .int .u8 r6, .int .u8 r7], .int .u8 k, .agg #[.int .u8 a, .int .u8 b, .int .u8 c, .int .u8 d], .agg (cells16 b0 b1 b2 b3 b4 b5 b6 b7 b8 b9 b10 b11 b12 b13 b14 b15), .int .u32 t, .slice (some ⟨b_, off, none⟩) n cc] w fun e w' => e = .returned (.bool true) ∧ Below w.heap.size w w' := by
  unfold isB at hk
  obtain ⟨i0, hi1, hi2, hi3, hi4⟩ := info_parts info5
  obtain ⟨j0, hj1, hj2, hj3, hj4⟩ := info_parts info48
  have h0' := @three_boxes w (.cells #[.int .u8 r0, .int .u8 r1, .int .u8 r2, .int .u8 r3, .int .u8 r4, .int .u8 r5, .int .u8 r6, .int .u8 r7] 22) (.cells #[.int .u8 a, .int .u8 b, .int .u8 c, .int .u8 d] 23) (.cells (cells16 b0 b1 b2 b3 b4 b5 b6 b7 b8 b9 b10 b11 b12 b13 b14 b15) 24)
  have HX := Lib.hid h0'.1
  have HB := Lib.hid h0'.2
  have HG := Lib.hid (hG.below h0'.2)
  have HA := Lib.hid hAddr
  have HR := Lib.hid hRoute
  clear h0' hG hAddr hRoute
  go_enter Ybad.func3, Ybad.ntmps3
  go_wp2_with (go_at_call 4; refine (HA.out _ HG.out).mono ?_; rintro e w1 ⟨sp, ce, rfl, hep1, hb1⟩; refine Hid.out ?_)
  refine Lib.hid ?_
  have hB1 := HB.out.trans (hb1.mono HB.out.size)
  have hX1 := box_below HX.out.1 hb1
  have hz1 := hB1.size
  have hzN : w.heap.size < w1.heap.size := lt_of_box hX1
  have hb1' : Below w1.heap.size w1 (w1.alloc (.cells #[.int .u64 hi, .int .u64 lo, .pointer z] 34)) := (Below.refl _ _).alloc (Nat.le_refl _) _
  have H34 : Hid ((w1.alloc (.cells #[.int .u64 hi, .int .u64 lo, .pointer z] 34)).heap[w1.heap.size]? = some (.cells #[.int .u64 hi, .int .u64 lo, .pointer z] 34)) := Lib.hid (box_new _ _)
  have HB0 := Lib.hid (hB1.trans (hb1'.mono hz1))
  have HX0 := Lib.hid (box_below hX1 hb1')
  have HG0 := Lib.hid ((HG.out.below hb1).below hb1')
  have HE0 := Lib.hid (hep1.below hb1')
  have HY := Lib.hid hys
  have hne := fun W : World => ne26_some W ⟨b_, off, none⟩ n cc
  clear HA HB HX hep1 hb1 HG hb1' hB1 hX1 hys
  go_wp2_with (at_make; refine wpList_make_full _ rfl _ _ 26 rfl (w1.heap.size + 1) 48 j0 (.agg (Array.replicate 8 (.int .u8 0))) 8 Ybad.underlying26 hj1 hj2 hj3 .i64 .i64 _ _ n rfl rfl rfl rfl (by rw [hj4]; omega) (by unfold maxLen; omega) (by simp) ?_; refine Hid.out ?_)
  refine Lib.hid ?_
  intro wa hoa hga
  obtain ⟨cur, hcur, hsz⟩ := own_raw hoa
  have hsa : (w1.alloc (.cells #[.int .u64 hi, .int .u64 lo, .pointer z] 34)).heap.size = w1.heap.size + 1 := by simp
  have hba : Below (w1.heap.size + 1) (w1.alloc (.cells #[.int .u64 hi, .int .u64 lo, .pointer z] 34)) wa := (Below.refl _ _).grown hga (by simp) (fun k hk => by cases hk)
  have HCU := Lib.hid (And.intro hcur hsz)
  have HBA := Lib.hid hba
  have HYA : Hid (∀ j u, (cellsOf ys)[j]? = some u → wa.cell? ((⟨b_, off, none⟩ : Addr).add j) = some u) := Lib.hid (fun j u hj => by
    have h0 := HY.out j u hj
    have h1 : ((⟨b_, off, none⟩ : Addr).add j).block < w.heap.size := block_lt_of_cell h0
    rw [hba.cell (by omega), HB0.out.cell h1]
    exact h0)
  clear hoa hga hcur hsz hba
  go_wp2_with (refine wpList_copy_whole rfl _ _ 26 26 rfl 48 8 Ybad.underlying26 size48 (w1.heap.size + 1) n n ⟨b_, off, none⟩ cc rfl rfl cur 48 HCU.out.1 HCU.out.2 (cellsOf ys) (by simp [hyl]) HYA.out (one_cells _) (w1.heap.size + 1) _ HBA.out (Nat.le_refl _) ?_; refine Hid.out ?_)
  refine Lib.hid ?_
  intro wb hrow hbb
  have hlb : w1.heap.size + 1 < wb.heap.size := lt_of_box hrow
  have hbb' : Below (w1.alloc (.cells #[.int .u64 hi, .int .u64 lo, .pointer z] 34)).heap.size (w1.alloc (.cells #[.int .u64 hi, .int .u64 lo, .pointer z] 34)) wb := by rw [hsa]; exact hbb
  have HB1 := Lib.hid (HB0.out.trans (hbb'.mono HB0.out.size))
  have HX1 := Lib.hid (box_below HX0.out hbb')
  have HG1 := Lib.hid (HG0.out.below hbb')
  have HE1 := Lib.hid (HE0.out.below hbb')
  have H341 := Lib.hid (box_below H34.out hbb')
  have HCS1 := Lib.hid hrow
  clear hrow hbb hbb' HB0 HX0 HG0 HE0 H34 HCU HBA HYA hsa
  obtain ⟨ws, hws⟩ : ∃ ws, ws = wire r0 r1 r2 r3 r4 r5 r6 r7 t zs := ⟨_, rfl⟩
  have hM : ws.length = 13 + zs.length + 4 := by rw [hws]; simp [wire]; omega
  obtain ⟨K, hK⟩ : ∃ K, K = strOf ws := ⟨_, rfl⟩
  obtain ⟨f, hf⟩ : ∃ f : Int, f = (if k % 3 = 1 then 1 else 2) := ⟨_, rfl⟩
  have HRT := Lib.hid (fun W ca cl cc' hW => by have h := HR.out W ca cl cc' hW; rw [← hws, ← hf] at h; exact h)
  have HE := Lib.hid (And.intro hws (And.intro hM (And.intro hK hf)))
  clear HR hws hM hK hf
  have l0 := (box_cell HX1.out 0).1
  have l1 := (box_cell HX1.out 1).1
  have l2 := (box_cell HX1.out 2).1
  have l3 := (box_cell HX1.out 3).1
  have l4 := (box_cell HX1.out 4).1
  have l5 := (box_cell HX1.out 5).1
  have l6 := (box_cell HX1.out 6).1
  have l7 := (box_cell HX1.out 7).1
  have m0 := (box_cell H341.out 0).1
  have m1 := (box_cell H341.out 1).1
  have m2 := (box_cell H341.out 2).1
  go_wp2_with (go_at_call 5; refine (HRT.out _ _ _ _ HG1.out).mono ?_; rintro e w2 hpost; obtain ⟨gR, cR, rfl, hgR, hcR, hb2⟩ := hpost; rw [← HE.out.2.2.1, HE.out.2.1]; refine Hid.out ?_)
  refine Lib.hid ?_
  clear l0 l1 l2 l3 l4 l5 l6 l7
  obtain ⟨o42, ho42⟩ : ∃ o : Obj, o = .cells #[.int .u16 f, .int .u8 85, .string K, .slice (some ⟨gR, 0, none⟩) (13 + zs.length + 4) cR, .slice (some ⟨w1.heap.size + 1, 0, none⟩) n n] 42 := ⟨_, rfl⟩
  have hB2 : Below w.heap.size w w2 := HB1.out.trans (hb2.mono HB1.out.size)
  have hlw : w1.heap.size + 1 < w2.heap.size := by have := hb2.size; omega
  have hb2' : Below w2.heap.size w2 ((w2.alloc (.cells #[.int .u16 f, .int .u8 85, .string K, .slice (some ⟨gR, 0, none⟩) (13 + zs.length + 4) cR, .slice (some ⟨w1.heap.size + 1, 0, none⟩) n n] 42)).alloc (.cells #[.int .u8 1, .int .u8 0, .int .u8 4, .int .u8 (13 + (zs.length : Int))] 5)) := ((Below.refl _ _).alloc (Nat.le_refl _) _).alloc (by simp) _
  have HB2 := Lib.hid (hB2.trans (hb2'.mono hB2.size))
  have HX2 := Lib.hid (box_below (box_below HX1.out hb2) hb2')
  have HCS2 := Lib.hid (box_below HCS1.out hb2)
  have HG2 := Lib.hid (HG1.out.below hb2)
  have HE2 := Lib.hid (HE1.out.below hb2)
  have HBB := Lib.hid hb2'
  have h42 : ((w2.alloc (.cells #[.int .u16 f, .int .u8 85, .string K, .slice (some ⟨gR, 0, none⟩) (13 + zs.length + 4) cR, .slice (some ⟨w1.heap.size + 1, 0, none⟩) n n] 42)).alloc (.cells #[.int .u8 1, .int .u8 0, .int .u8 4, .int .u8 (13 + (zs.length : Int))] 5)).heap[w2.heap.size]? = some (.cells #[.int .u16 f, .int .u8 85, .string K, .slice (some ⟨gR, 0, none⟩) (13 + zs.length + 4) cR, .slice (some ⟨w1.heap.size + 1, 0, none⟩) n n] 42) := box_old (box_new _ _)
  have H42 := Lib.hid h42
  have hown : ((w2.alloc (.cells #[.int .u16 f, .int .u8 85, .string K, .slice (some ⟨gR, 0, none⟩) (13 + zs.length + 4) cR, .slice (some ⟨w1.heap.size + 1, 0, none⟩) n n] 42)).alloc (.cells #[.int .u8 1, .int .u8 0, .int .u8 4, .int .u8 (13 + (zs.length : Int))] 5)).ownsRow (w2.heap.size + 1) 5 1 (.slice (some ⟨w2.heap.size + 1, 0, none⟩) 4 4) 4 (cellsOf [1, 0, 4, 13 + (zs.length : Int)]) := by
    have h := own_new (w2.alloc (.cells #[.int .u16 f, .int .u8 85, .string K, .slice (some ⟨gR, 0, none⟩) (13 + zs.length + 4) cR, .slice (some ⟨w1.heap.size + 1, 0, none⟩) n n] 42)) (w2.heap.size + 1) 4 [1, 0, 4, 13 + (zs.length : Int)] rfl (by simp) (by omega)
    simpa using h
  have HO2 := Lib.hid hown
  have hgl : gR < w2.heap.size := by
    have h := hcR 0 (.int .u8 1) (by rw [HE.out.1]; rfl)
    exact block_lt_of_cell h
  have HC2 := Lib.hid hcR
  have hz2 : w2.heap.size + 1 ≤ ((w2.alloc (.cells #[.int .u16 f, .int .u8 85, .string K, .slice (some ⟨gR, 0, none⟩) (13 + zs.length + 4) cR, .slice (some ⟨w1.heap.size + 1, 0, none⟩) n n] 42)).alloc (.cells #[.int .u8 1, .int .u8 0, .int .u8 4, .int .u8 (13 + (zs.length : Int))] 5)).heap.size := by simp
  have HZ2 := Lib.hid hz2
  clear HB1 HX1 HG1 HE1 hcR hb2 hB2 HRT h42 hown hb2' hz2 ho42 o42
  go_wp2_with (at_builtin; refine wpList_append_own _ rfl _ _ 35 rfl (w2.heap.size + 1) 5 i0 (.int .u8 0) 1 1 Ybad.underlying35 hi1 hi2 hi3 hi4 rfl (by decide) ((.slice (some ⟨w2.heap.size + 1, 0, none⟩) 4 4)) (4) (cellsOf [1, 0, 4, 13 + (zs.length : Int)]) rfl HO2.out ⟨w.heap.size, 0, none⟩ 8 8 (cellsOf [r0, r1, r2, r3, r4, r5, r6, r7]) rfl rfl (arr_news HX2.out) (one_cells _) (by unfold maxLen; omega) (by omega) HZ2.out ?_; refine Hid.out ?_)
  refine Lib.hid ?_
  intro v3 w3 ho3 hg3 hi3'
  have hk3 := row_below HO2.out hg3 HZ2.out
  have hz3 : w2.heap.size + 1 ≤ w3.heap.size := Nat.le_trans HZ2.out hk3.size
  have HK3 := Lib.hid hk3
  have ho3' : w3.ownsRow (w2.heap.size + 1) 5 1 v3 12 (cellsOf ([1, 0, 4, 13 + (zs.length : Int)] ++ [r0, r1, r2, r3, r4, r5, r6, r7])) := ho3
  have HO3 := Lib.hid (ho3'.alloc (.cells #[.int .u8 (8 * (zs.length : Int) + 32)] 5))
  clear ho3 ho3' hg3 hi3' HO2 hk3
  go_wp2_with (at_builtin; refine wpList_append_own _ rfl _ _ 35 rfl (w2.heap.size + 1) 5 i0 (.int .u8 0) 1 1 Ybad.underlying35 hi1 hi2 hi3 hi4 rfl (by decide) (v3) (12) (cellsOf ([1, 0, 4, 13 + (zs.length : Int)] ++ [r0, r1, r2, r3, r4, r5, r6, r7])) rfl HO3.out ⟨w3.heap.size, 0, none⟩ 1 1 (cellsOf [8 * (zs.length : Int) + 32]) rfl rfl (one_new w3 (8 * (zs.length : Int) + 32)) (one_cells _) (by unfold maxLen; omega) (by omega) (by simp; omega) ?_; refine Hid.out ?_)
  refine Lib.hid ?_
  intro v4 w4 ho4 hg4 hi4'
  have HK4 := Lib.hid ((HK3.out.alloc (o := .cells #[.int .u8 (8 * (zs.length : Int) + 32)] 5) hz3).trans (row_below HO3.out hg4 (by simp; omega)))
  have hz4 : w2.heap.size + 1 ≤ w4.heap.size := Nat.le_trans HZ2.out HK4.out.size
  have ho4' : w4.ownsRow (w2.heap.size + 1) 5 1 v4 13 (cellsOf ([1, 0, 4, 13 + (zs.length : Int)] ++ [r0, r1, r2, r3, r4, r5, r6, r7] ++ [8 * (zs.length : Int) + 32])) := ho4
  have HO4 := Lib.hid ho4'
  have HE4 := Lib.hid (HE2.out.below (HBB.out.trans (HK4.out.mono (by omega))))
  clear ho4 ho4' hg4 hi4' HO3 HK3
  go_wp2_with (at_builtin; refine wpList_append_ep rfl _ _ rfl (w2.heap.size + 1) 13 v4 (cellsOf ([1, 0, 4, 13 + (zs.length : Int)] ++ [r0, r1, r2, r3, r4, r5, r6, r7] ++ [8 * (zs.length : Int) + 32])) rfl HO4.out sp ce zs rfl HE4.out (by omega) hzl hz4 ?_; refine Hid.out ?_)
  refine Lib.hid ?_
  intro v5 w5 ho5 hb5
  have HK5 := Lib.hid (HK4.out.trans hb5)
  have hz5 : w2.heap.size + 1 ≤ w5.heap.size := Nat.le_trans HZ2.out HK5.out.size
  have ho5' : w5.ownsRow (w2.heap.size + 1) 5 1 v5 (13 + zs.length) (cellsOf ([1, 0, 4, 13 + (zs.length : Int)] ++ [r0, r1, r2, r3, r4, r5, r6, r7] ++ [8 * (zs.length : Int) + 32] ++ zs)) := by
    rw [show cellsOf ([1, 0, 4, 13 + (zs.length : Int)] ++ [r0, r1, r2, r3, r4, r5, r6, r7] ++ [8 * (zs.length : Int) + 32] ++ zs) = cellsOf ([1, 0, 4, 13 + (zs.length : Int)] ++ [r0, r1, r2, r3, r4, r5, r6, r7] ++ [8 * (zs.length : Int) + 32]) ++ cellsOf zs from List.map_append]
    exact ho5
  have HO5 := Lib.hid (ho5'.alloc (.cells #[.int .u8 (t / 16777216), .int .u8 (t / 65536 % 256), .int .u8 (t / 256 % 256), .int .u8 (t % 256)] 5))
  have HN5 := Lib.hid (fun j u => news_new w5 [t / 16777216, t / 65536 % 256, t / 256 % 256, t % 256] 5 j u)
  clear ho5 ho5' hb5 HO4 HK4 HE4
  go_wp2_with (at_builtin; refine wpList_append_own _ rfl _ _ 35 rfl (w2.heap.size + 1) 5 i0 (.int .u8 0) 1 1 Ybad.underlying35 hi1 hi2 hi3 hi4 rfl (by decide) v5 (13 + zs.length) (cellsOf ([1, 0, 4, 13 + (zs.length : Int)] ++ [r0, r1, r2, r3, r4, r5, r6, r7] ++ [8 * (zs.length : Int) + 32] ++ zs)) rfl HO5.out ⟨w5.heap.size, 0, none⟩ 4 4 (cellsOf [t / 16777216, t / 65536 % 256, t / 256 % 256, t % 256]) rfl rfl HN5.out (one_cells _) (by unfold maxLen; omega) (by omega) (by simp; omega) ?_; refine Hid.out ?_)
  refine Lib.hid ?_
  intro v6 w6 ho6 hg6 hi6'
  have hk6 := ((HK5.out.alloc (o := .cells #[.int .u8 (t / 16777216), .int .u8 (t / 65536 % 256), .int .u8 (t / 256 % 256), .int .u8 (t % 256)] 5) hz5).trans (row_below HO5.out hg6 (by simp; omega)))
  have ho : w6.ownsRow (w2.heap.size + 1) 5 1 v6 (13 + zs.length + 4) (cellsOf ws) := by
    rw [HE.out.1, show wire r0 r1 r2 r3 r4 r5 r6 r7 t zs = [1, 0, 4, 13 + (zs.length : Int)] ++ [r0, r1, r2, r3, r4, r5, r6, r7] ++ [8 * (zs.length : Int) + 32] ++ zs ++ [t / 16777216, t / 65536 % 256, t / 256 % 256, t % 256] from rfl, show cellsOf ([1, 0, 4, 13 + (zs.length : Int)] ++ [r0, r1, r2, r3, r4, r5, r6, r7] ++ [8 * (zs.length : Int) + 32] ++ zs ++ [t / 16777216, t / 65536 % 256, t / 256 % 256, t % 256]) = cellsOf ([1, 0, 4, 13 + (zs.length : Int)] ++ [r0, r1, r2, r3, r4, r5, r6, r7] ++ [8 * (zs.length : Int) + 32] ++ zs) ++ cellsOf [t / 16777216, t / 65536 % 256, t / 256 % 256, t % 256] from List.map_append]
    exact ho6
  obtain ⟨g7, c7, hv7, hg7⟩ := own_shape ho
  subst hv7
  have hmono := hk6.mono (B' := w2.heap.size) (by omega)
  have hk6' := HBB.out.trans hmono
  have hall : ∀ x ∈ ws, isB x := by
    rw [HE.out.1]
    exact wire_isB hr0 hr1 hr2 hr3 hr4 hr5 hr6 hr7 ht hzl hzB
  have HS := Lib.hid (Seen.mk (f := f) (K := K) (gR := gR) (cR := cR) (cs := .slice (some ⟨w1.heap.size + 1, 0, none⟩) n n) (ws := ws) (G := w2.heap.size) (g7 := g7) (c7 := c7) (p4 := p4) (p6 := p6) (W := w6) ((hk6.block w2.heap.size (by omega)).trans H42.out)
    (fun j u hj => (hk6'.cell (p := ⟨gR, j, none⟩) hgl).trans (HC2.out j u hj)) ho (HG2.out.below hk6') hall HE.out.2.2.1)
  have HB6 := Lib.hid (HB2.out.trans (hk6.mono (by omega)))
  have HCS6 := Lib.hid (box_below HCS2.out hk6')
  clear ho6 hg6 hi6' hk6 ho hmono hk6' hall HO5 HN5 HK5 HBB H42 HC2 HG2 HE2 HX2 HB2 HZ2
  have e3 := HS.out.e3
  go_wp2_with fail
  clear e3
  have hMM : 0 < 13 + zs.length + 4 ∧ 13 + zs.length + 4 ≤ 100 := by omega
  generalize 13 + zs.length + 4 = M at HS hMM ⊢
  go_loopw [18] (fun iv wr => ∃ j : Nat, j ≤ M ∧ iv = .int .i64 j ∧ Below w6.heap.size w6 wr) (fun iv _ => M - (intOf iv).toNat)
  case atStart => exact ⟨0, Nat.zero_le _, rfl, Below.refl _ _⟩
  case round =>
    obtain ⟨j, hj, rfl, hb⟩ := hrel
    have HW := Lib.hid hb
    have hSw := HS.out.below hMM.1 hb
    have HSw := Lib.hid hSw
    clear hb
    by_cases hlt : j < M
    · have e3 := hSw.e3
      obtain ⟨x, hx, ea, eb⟩ := hSw.two j hlt
      clear hSw
      go_wp2_with fail
      go_quiet (fail)
      go_wp2
      go_roundw
      case rel => exact ⟨j + 1, by omega, by go_num, below_drewN HW.out _⟩
      case measure => simp [intOf]; omega
    · obtain rfl : j = M := by omega
      have HGw := Lib.hid hSw.glob
      have e0 := hSw.e0
      have e1 := hSw.e1
      have e2 := hSw.e2
      have e4 := hSw.e4
      have hcv := hSw.conv
      have hf := HE.out.2.2.2
      have HB7 := Lib.hid (HB6.out.trans (HW.out.mono HB6.out.size))
      have HCS7 := Lib.hid (box_below HCS6.out HW.out)
      clear hSw HS HW HE HB6 hlt hj
      by_cases h3 : k % 3 = 1
      · rw [if_pos h3] at hf
        subst hf
        have ga := HGw.out.a0
        have gb := HGw.out.a1
        have gl := block_lt_of_cell ga
        have hq := fun W : World => eq26_some W ⟨b_, off, none⟩ n cc
        have hq2 := fun W : World => eq26_some W ⟨w1.heap.size + 1, 0, none⟩ n n
        go_wp2_with fail
        clear hq hq2 hne hcv e0 e1 e2 ga gb gl
        go_loopw [19] (fun iv w8 => ∃ j : Nat, j ≤ n ∧ iv = .int .i64 j ∧ Below wr.heap.size wr w8) (fun iv _ => n - (intOf iv).toNat)
        case atStart => exact ⟨0, Nat.zero_le _, rfl, Below.refl _ _⟩
        case round =>
          obtain ⟨j, hj, rfl, hbl⟩ := hrel
          have hB8 := HB7.out.trans (hbl.mono HB7.out.size)
          have e48 := (hbl.cell (block_lt_of_cell e4)).trans e4
          have hc8 := box_below HCS7.out hbl
          have HB8 := Lib.hid hB8
          have HBL := Lib.hid hbl
          by_cases hlt : j < n
          · have hy8 : ∀ j u, (cellsOf ys)[j]? = some u → wr.cell? ((⟨b_, off, none⟩ : Addr).add j) = some u := fun j u hj => (hB8.cell (block_lt_of_cell (HY.out j u hj))).trans (HY.out j u hj)
            have p0 := eight0 hc8 hyl hlt 0 (by omega)
            have q0 := eight hy8 hyl hlt 0 (by omega)
            generalize ys.getD (j * 8 + 0) 0 = y0 at p0 q0
            have p1 := eight0 hc8 hyl hlt 1 (by omega)
            have q1 := eight hy8 hyl hlt 1 (by omega)
            generalize ys.getD (j * 8 + 1) 0 = y1 at p1 q1
            have p2 := eight0 hc8 hyl hlt 2 (by omega)
            have q2 := eight hy8 hyl hlt 2 (by omega)
            generalize ys.getD (j * 8 + 2) 0 = y2 at p2 q2
            have p3 := eight0 hc8 hyl hlt 3 (by omega)
            have q3 := eight hy8 hyl hlt 3 (by omega)
            generalize ys.getD (j * 8 + 3) 0 = y3 at p3 q3
            have p4 := eight0 hc8 hyl hlt 4 (by omega)
            have q4 := eight hy8 hyl hlt 4 (by omega)
            generalize ys.getD (j * 8 + 4) 0 = y4 at p4 q4
            have p5 := eight0 hc8 hyl hlt 5 (by omega)
            have q5 := eight hy8 hyl hlt 5 (by omega)
            generalize ys.getD (j * 8 + 5) 0 = y5 at p5 q5
            have p6 := eight0 hc8 hyl hlt 6 (by omega)
            have q6 := eight hy8 hyl hlt 6 (by omega)
            generalize ys.getD (j * 8 + 6) 0 = y6 at p6 q6
            have p7 := eight0 hc8 hyl hlt 7 (by omega)
            have q7 := eight hy8 hyl hlt 7 (by omega)
            generalize ys.getD (j * 8 + 7) 0 = y7 at p7 q7
            simp only [Nat.add_zero] at p0 q0
            have hes := fun W : World => eq48 W y0 y1 y2 y3 y4 y5 y6 y7
            clear e4 hbl hc8 hB8 hy8
            go_wp2_with fail
            go_quiet (fail)
            go_wp2
            go_roundw
            case rel => exact ⟨j + 1, by omega, by go_num, below_drewN HBL.out _⟩
            case measure => simp [intOf]; omega
          · clear e4 hbl hc8
            go_wp2
            go_ret
            exact ⟨rfl, HB8.out⟩
      · rw [if_neg h3] at hf
        subst hf
        have ga := HGw.out.b0
        have gb := HGw.out.b1
        have gl := block_lt_of_cell ga
        have hq := fun W : World => eq26_some W ⟨b_, off, none⟩ n cc
        have hq2 := fun W : World => eq26_some W ⟨w1.heap.size + 1, 0, none⟩ n n
        go_wp2_with fail
        clear hq hq2 hne hcv e0 e1 e2 ga gb gl
        go_loopw [19] (fun iv w8 => ∃ j : Nat, j ≤ n ∧ iv = .int .i64 j ∧ Below wr.heap.size wr w8) (fun iv _ => n - (intOf iv).toNat)
        case atStart => exact ⟨0, Nat.zero_le _, rfl, Below.refl _ _⟩
        case round =>
          obtain ⟨j, hj, rfl, hbl⟩ := hrel
          have hB8 := HB7.out.trans (hbl.mono HB7.out.size)
          have e48 := (hbl.cell (block_lt_of_cell e4)).trans e4
          have hc8 := box_below HCS7.out hbl
          have HB8 := Lib.hid hB8
          have HBL := Lib.hid hbl
          by_cases hlt : j < n
          · have hy8 : ∀ j u, (cellsOf ys)[j]? = some u → wr.cell? ((⟨b_, off, none⟩ : Addr).add j) = some u := fun j u hj => (hB8.cell (block_lt_of_cell (HY.out j u hj))).trans (HY.out j u hj)
            have p0 := eight0 hc8 hyl hlt 0 (by omega)
            have q0 := eight hy8 hyl hlt 0 (by omega)
            generalize ys.getD (j * 8 + 0) 0 = y0 at p0 q0
            have p1 := eight0 hc8 hyl hlt 1 (by omega)
            have q1 := eight hy8 hyl hlt 1 (by omega)
            generalize ys.getD (j * 8 + 1) 0 = y1 at p1 q1
            have p2 := eight0 hc8 hyl hlt 2 (by omega)
            have q2 := eight hy8 hyl hlt 2 (by omega)
            generalize ys.getD (j * 8 + 2) 0 = y2 at p2 q2
            have p3 := eight0 hc8 hyl hlt 3 (by omega)
            have q3 := eight hy8 hyl hlt 3 (by omega)
            generalize ys.getD (j * 8 + 3) 0 = y3 at p3 q3
            have p4 := eight0 hc8 hyl hlt 4 (by omega)
            have q4 := eight hy8 hyl hlt 4 (by omega)
            generalize ys.getD (j * 8 + 4) 0 = y4 at p4 q4
            have p5 := eight0 hc8 hyl hlt 5 (by omega)
            have q5 := eight hy8 hyl hlt 5 (by omega)
            generalize ys.getD (j * 8 + 5) 0 = y5 at p5 q5
            have p6 := eight0 hc8 hyl hlt 6 (by omega)
            have q6 := eight hy8 hyl hlt 6 (by omega)
            generalize ys.getD (j * 8 + 6) 0 = y6 at p6 q6
            have p7 := eight0 hc8 hyl hlt 7 (by omega)
            have q7 := eight hy8 hyl hlt 7 (by omega)
            generalize ys.getD (j * 8 + 7) 0 = y7 at p7 q7
            simp only [Nat.add_zero] at p0 q0
            have hes := fun W : World => eq48 W y0 y1 y2 y3 y4 y5 y6 y7
            clear e4 hbl hc8 hB8 hy8
            go_wp2_with fail
            go_quiet (fail)
            go_wp2
            go_roundw
            case rel => exact ⟨j + 1, by omega, by go_num, below_drewN HBL.out _⟩
            case measure => simp [intOf]; omega
          · clear e4 hbl hc8
            go_wp2
            go_ret
            exact ⟨rfl, HB8.out⟩

end Go.Proofs.YbulkdggsDoor
