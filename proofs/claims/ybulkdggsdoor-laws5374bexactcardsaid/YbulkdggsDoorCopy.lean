import Derived.Test.YbulkdggsDoorRoute
import Derived.Laws.CopyOwn
import Derived.OwnWalk
namespace Go.Proofs.YbulkdggsDoor
open Go.RowKit
set_option linter.unusedVariables false

theorem run_copy_whole {P : Program} (w : World) (dT sT ty elem : TypeId) (size g n dCap : Nat) (a : Addr) (sCap : Nat) (cur : Array Value) (t : TypeId) (cs : List Value)
    (hu : P.underlying dT = some (.slice elem)) (hs : (P.info? elem).map (·.size) = some size)
    (hg : w.heap[g]? = some (.cells cur t (0, 0))) (hn : cs.length = n * size)
    (hsrc : ∀ j v, cs[j]? = some v → w.cell? (a.add j) = some v) (hfit : cur.size = n * size) (h1 : ∀ v ∈ cs, v.oneCell' = true) :
    (Builtin.copy_ #[dT, sT] ty #[.slice (some ⟨g, 0, none⟩) n dCap, .slice (some a) n sCap]).run P w = .ok (goInt n) (w.setRow g cs.toArray) := by
  have hl := run_loadCells_list (P := P) w a cs hsrc
  have hst := run_storeCells_at P g 0 t cs 0 cur w hg (by omega) h1
  have hd : cur.toList.take (0 + 0) ++ cs ++ cur.toList.drop (0 + 0 + cs.length) = cs := by
    have : cur.toList.drop (0 + 0 + cs.length) = [] := List.drop_eq_nil_of_le (by simp; omega)
    rw [this]
    simp
  rw [hd] at hst
  cases hq : P.info? elem with
  | none => simp [hq] at hs
  | some i =>
    have hi : i.size = size := by simpa [hq] using hs
    have hm : Nat.min n n = n := Nat.min_self n
    simp [Builtin.copy_, run_underlying hu, Builtin.lenOf, Builtin.firstCells, sizeOf, typeInfo, hq, hi, hm, ← hn, hl, hst]

theorem wpList_copy_whole {P : Program} {w : World} {ops : Array Oper} {rest : List Oper} {o : Oper} {a : Act} {Q : Exit → Act → World → Prop} (hgd : o.guard = none) (d s : Operand) (dT sT : TypeId)
    (ho : o.op = .call { callee := .builtin .copy, args := #[d, s], argTypes := #[dT, sT] }) (elem : TypeId) (size : Nat) (hu : P.underlying dT = some (.slice elem)) (hsz : (P.info? elem).map (·.size) = some size)
    (g n dCap : Nat) (ad : Addr) (sCap : Nat) (hd : a.eval d = .slice (some ⟨g, 0, none⟩) n dCap) (hs : a.eval s = .slice (some ad) n sCap)
    (cur : Array Value) (t : TypeId) (hg : w.heap[g]? = some (.cells cur t (0, 0))) (hfit : cur.size = n * size) (cs : List Value) (hn : cs.length = n * size)
    (hsrc : ∀ j v, cs[j]? = some v → w.cell? (ad.add j) = some v) (h1 : ∀ v ∈ cs, v.oneCell' = true) (B : Nat) (w0 : World) (hb : Below B w0 w) (hBg : B ≤ g)
    (h : ∀ w', w'.heap[g]? = some (.cells cs.toArray t (0, 0)) → Below B w0 w' → wpList P ops Q rest (a.put o.dst (goInt n)) w') : wpList P ops Q (o :: rest) a w := by
  refine wpList_plain hgd fun K hK => ?_
  have hrun := run_copy_whole (P := P) w dT sT o.type elem size g n dCap ad sCap cur t cs hu hsz hg hn hsrc hfit h1
  unfold Oper.wp
  simp [execOp, ho, resolve, invoke, builtin, hd, hs, hrun, Result.andThen]
  exact hK _ _ (h _ (setRow_heap w g _ _ t _ hg) (below_setRow hb hBg _))

theorem own_raw {w : World} {B e s n g cap : Nat} {xs : List Value} (h : w.ownsRow B e s (.slice (some ⟨g, 0, none⟩) n cap) n xs) : ∃ cur, w.heap[g]? = some (.cells cur e (0, 0)) ∧ cur.size = cap * s := by
  rcases h.2 with ⟨h1, _⟩ | ⟨g', cap', cur, hv, hb, hg, h3, h4, h5, h6⟩
  · cases h1
  · cases hv
    exact ⟨cur, hg, h5⟩

theorem size5 : (Ybad.prog.info? 5).map (·.size) = some 1 := by kernel_rfl
theorem size48 : (Ybad.prog.info? 48).map (·.size) = some 8 := by kernel_rfl

theorem three_boxes {w : World} {o0 o1 o2 : Obj} : ((((w.alloc o0).alloc o1).alloc o2).heap[w.heap.size]? = some o0 ∧ (((w.alloc o0).alloc o1).alloc o2).heap[w.heap.size + 1]? = some o1 ∧ (((w.alloc o0).alloc o1).alloc o2).heap[w.heap.size + 1 + 1]? = some o2) ∧ Below w.heap.size w (((w.alloc o0).alloc o1).alloc o2) := by
  have h1 := box_new (w.alloc o0) o1
  have h2 := box_new ((w.alloc o0).alloc o1) o2
  rw [show (w.alloc o0).heap.size = w.heap.size + 1 from by simp] at h1
  rw [show ((w.alloc o0).alloc o1).heap.size = w.heap.size + 1 + 1 from by simp] at h2
  exact ⟨⟨box_old (box_old (box_new _ _)), box_old h1, h2⟩, (((Below.refl _ _).alloc (Nat.le_refl _) _).alloc (by simp) _).alloc (by simp; omega) _⟩
theorem arr_news {W : World} {g : Nat} {cs : List Value} {t : TypeId} (h : W.heap[g]? = some (.cells cs.toArray t)) (j : Nat) (u : Value) (hj : cs[j]? = some u) : W.cell? ((⟨g, 0, none⟩ : Addr).add j) = some u := by
  rw [add_off, (box_cell h j).1]
  simpa using hj

set_option maxHeartbeats 4000000 in
theorem baddr_0 (k : Int) (as4 bs : Array Value) (w : World) (hk : isB k) (h3 : k % 3 = 0) (ha : as4.size = 4) (hb : bs.size = 16) :
    Calls Ybad.prog 4 #[.int .u8 k, .agg as4, .agg bs] w fun e w' => e = .returned (.tuple #[addrV 0 0 none, .slice none 0 0]) ∧ Below w.heap.size w w' := by
  unfold isB at hk
  go_enter Ybad.func4, Ybad.ntmps4
  go_wp2
  exact bodyPost_ret (v := .tuple #[addrV 0 0 none, .slice none 0 0]) (by simp [results, Ybad.results4, go_sem]) rfl ⟨rfl, three_boxes.2⟩

set_option maxHeartbeats 8000000 in
theorem baddr_1 (k a b c d : Int) (bs : Array Value) (w : World) (p4 p6 : Addr) (hG : Glob p4 p6 w) (hk : isB k) (hk3 : k % 3 = 1) (ha : isB a) (hb : isB b) (hc : isB c) (hd : isB d) (hbs : bs.size = 16) :
    Calls Ybad.prog 4 #[.int .u8 k, .agg #[.int .u8 a, .int .u8 b, .int .u8 c, .int .u8 d], .agg bs] w fun e w' => ∃ g, e = .returned (.tuple #[addrV 0 (lo4 a b c d) (some p4), .slice (some ⟨g, 0, none⟩) 4 4]) ∧ w.heap.size ≤ g ∧ w'.heap[g]? = some (.cells (cellsOf [a, b, c, d]).toArray 5) ∧ Below w.heap.size w w' := by
  unfold isB at hk
  obtain ⟨i0, hi1, hi2, hi3, hi4⟩ := info_parts info5
  have h0' := @three_boxes w (.cells #[.int .u8 a, .int .u8 b, .int .u8 c, .int .u8 d] 23) (.cells bs 24) (.cells #[.int .u64 0, .int .u64 0, .pointer none] 34)
  have HX := Lib.hid h0'.1
  have HB := Lib.hid h0'.2
  have HG := Lib.hid hG
  clear h0' hG
  go_enter Ybad.func4, Ybad.ntmps4
  go_wp2_with (at_make; refine wpList_make_full _ rfl _ _ 35 rfl w.heap.size 5 i0 (.int .u8 0) 1 Ybad.underlying35 hi1 hi2 hi3 .i64 .i64 _ _ 4 rfl rfl rfl rfl (by rw [hi4]; omega) (by unfold maxLen; omega) HB.out.size ?_; refine Hid.out ?_)
  refine Lib.hid ?_
  intro w1 ho1 hg1
  have hb1 : Below w.heap.size w w1 := HB.out.grown hg1 HB.out.size (fun k hk => by cases hk)
  obtain ⟨cur, hcur, hsz⟩ := own_raw ho1
  have hX0 : w1.heap[w.heap.size]? = some (.cells #[.int .u8 a, .int .u8 b, .int .u8 c, .int .u8 d] 23) := (hg1.block w.heap.size (lt_of_box HX.out.1) (by simp)).trans HX.out.1
  have hX2 : w1.heap[w.heap.size + 1 + 1]? = some (.cells #[.int .u64 0, .int .u64 0, .pointer none] 34) := (hg1.block (w.heap.size + 1 + 1) (lt_of_box HX.out.2.2) (by simp)).trans HX.out.2.2
  have HX1 := Lib.hid (And.intro hX0 hX2)
  have HB1 := Lib.hid hb1
  have hcur' : w1.heap[w.heap.size + 1 + 1 + 1]? = some (.cells cur 5) := by simpa using hcur
  have HC := Lib.hid (And.intro hcur' hsz)
  clear ho1 hg1 hb1 hcur hsz HX HB hX0 hX2 hcur'
  have t1 : ∀ j u, (cellsOf [a, b, c, d])[j]? = some u → w1.cell? ((⟨w.heap.size, 0, none⟩ : Addr).add j) = some u := arr_news HX1.out.1
  have t2 : cur.size = 4 * 1 := HC.out.2
  have T := Lib.hid (And.intro t1 t2)
  clear t1 t2
  go_wp2_with (refine wpList_copy_whole rfl _ _ 35 35 rfl 5 1 Ybad.underlying35 size5 (w.heap.size + 1 + 1 + 1) 4 4 ⟨w.heap.size, 0, none⟩ 4 rfl rfl cur 5 HC.out.1 T.out.2 (cellsOf [a, b, c, d]) rfl T.out.1 (one_cells _) (w.heap.size + 1 + 1 + 1) w1 (Below.refl _ _) (Nat.le_refl _) ?_; refine Hid.out ?_)
  refine Lib.hid ?_
  intro w2 hrow hb2
  have hX0 : w2.heap[w.heap.size]? = some (.cells #[.int .u8 a, .int .u8 b, .int .u8 c, .int .u8 d] 23) := (hb2.block w.heap.size (by omega)).trans HX1.out.1
  have hX2 : w2.heap[w.heap.size + 1 + 1]? = some (.cells #[.int .u64 0, .int .u64 0, .pointer none] 34) := (hb2.block (w.heap.size + 1 + 1) (by omega)).trans HX1.out.2
  have HX2 := Lib.hid (And.intro hX0 hX2)
  have HB2 := Lib.hid (HB1.out.trans (hb2.mono (by omega)))
  have HG2 := Lib.hid (HG.out.below HB2.out)
  have HR2 := Lib.hid hrow
  clear hrow hb2 HC HB1 HX1 hX0 hX2 HG
  have l0 := (box_cell HX2.out.1 0).1
  have l1 := (box_cell HX2.out.1 1).1
  have l2 := (box_cell HX2.out.1 2).1
  have l3 := (box_cell HX2.out.1 3).1
  go_wp2_with (go_at_call 6; refine (from4_any a b c d p4 p6 _ ha hb hc hd HG2.out).mono ?_; rintro e w3 ⟨rfl, hb3⟩; refine Hid.out ?_)
  refine Lib.hid ?_
  clear l0 l1 l2 l3
  have HR3 := Lib.hid (box_below HR2.out hb3)
  have hX3 := box_below HX2.out.2 hb3
  have HB3 := Lib.hid (HB2.out.trans (hb3.mono HB2.out.size))
  obtain ⟨e0, f0⟩ := box_cell hX3 0
  obtain ⟨e1, f1⟩ := box_cell hX3 1
  obtain ⟨e2, f2⟩ := box_cell hX3 2
  simp at e0 e1 e2
  clear HR2 HX2 HB2 HG2 hb3 hX3
  go_wp2
  have st := stores3 (w.heap.size + 1 + 1) (.int .u64 0) (.int .u64 (lo4 a b c d)) (.pointer (some p4)) w3 e0 e1 e2
  refine bodyPost_ret (v := .tuple #[addrV 0 (lo4 a b c d) (some p4), .slice (some ⟨w.heap.size + 1 + 1 + 1, 0, none⟩) 4 4]) (by simp [results, Ybad.results4, go_sem, st]) rfl ⟨w.heap.size + 1 + 1 + 1, rfl, by omega, ?_, ?_⟩
  · rw [Below.heap_setCell _ _ _ _ (by show w.heap.size + 1 + 1 + 1 ≠ w.heap.size + 1 + 1; omega), Below.heap_setCell _ _ _ _ (by show w.heap.size + 1 + 1 + 1 ≠ w.heap.size + 1 + 1; omega), Below.heap_setCell _ _ _ _ (by show w.heap.size + 1 + 1 + 1 ≠ w.heap.size + 1 + 1; omega)]
    exact HR3.out
  · exact ((HB3.out.setCell (by show w.heap.size ≤ w.heap.size + 1 + 1; omega) _).setCell (by show w.heap.size ≤ w.heap.size + 1 + 1; omega) _).setCell (by show w.heap.size ≤ w.heap.size + 1 + 1; omega) _

set_option maxHeartbeats 8000000 in
theorem baddr_2 (k b0 b1 b2 b3 b4 b5 b6 b7 b8 b9 b10 b11 b12 b13 b14 b15 : Int) (as4 : Array Value) (w : World) (p4 p6 : Addr) (hG : Glob p4 p6 w) (hk : isB k) (hk3 : k % 3 = 2) (h0 : isB b0) (h1 : isB b1) (h2 : isB b2) (h3 : isB b3) (h4 : isB b4) (h5 : isB b5) (h6 : isB b6) (h7 : isB b7) (h8 : isB b8) (h9 : isB b9) (h10 : isB b10) (h11 : isB b11) (h12 : isB b12) (h13 : isB b13) (h14 : isB b14) (h15 : isB b15) (has : as4.size = 4) :
    Calls Ybad.prog 4 #[.int .u8 k, .agg as4, .agg (cells16 b0 b1 b2 b3 b4 b5 b6 b7 b8 b9 b10 b11 b12 b13 b14 b15)] w fun e w' => ∃ g, e = .returned (.tuple #[addrV (be8 b0 b1 b2 b3 b4 b5 b6 b7) (be8 b8 b9 b10 b11 b12 b13 b14 b15) (some p6), .slice (some ⟨g, 0, none⟩) 16 16]) ∧ w.heap.size ≤ g ∧ w'.heap[g]? = some (.cells (cellsOf [b0, b1, b2, b3, b4, b5, b6, b7, b8, b9, b10, b11, b12, b13, b14, b15]).toArray 5) ∧ Below w.heap.size w w' := by
  unfold isB at hk
  obtain ⟨i0, hi1, hi2, hi3, hi4⟩ := info_parts info5
  have h0' := @three_boxes w (.cells as4 23) (.cells (cells16 b0 b1 b2 b3 b4 b5 b6 b7 b8 b9 b10 b11 b12 b13 b14 b15) 24) (.cells #[.int .u64 0, .int .u64 0, .pointer none] 34)
  have HX := Lib.hid h0'.1
  have HB := Lib.hid h0'.2
  have HG := Lib.hid hG
  clear h0' hG
  go_enter Ybad.func4, Ybad.ntmps4
  go_wp2_with (at_make; refine wpList_make_full _ rfl _ _ 35 rfl w.heap.size 5 i0 (.int .u8 0) 1 Ybad.underlying35 hi1 hi2 hi3 .i64 .i64 _ _ 16 rfl rfl rfl rfl (by rw [hi4]; omega) (by unfold maxLen; omega) HB.out.size ?_; refine Hid.out ?_)
  refine Lib.hid ?_
  intro w1 ho1 hg1
  have hb1 : Below w.heap.size w w1 := HB.out.grown hg1 HB.out.size (fun k hk => by cases hk)
  obtain ⟨cur, hcur, hsz⟩ := own_raw ho1
  have hX0 : w1.heap[(w.heap.size + 1)]? = some (.cells (cells16 b0 b1 b2 b3 b4 b5 b6 b7 b8 b9 b10 b11 b12 b13 b14 b15) 24) := (hg1.block (w.heap.size + 1) (lt_of_box HX.out.2.1) (by simp)).trans HX.out.2.1
  have hX2 : w1.heap[w.heap.size + 1 + 1]? = some (.cells #[.int .u64 0, .int .u64 0, .pointer none] 34) := (hg1.block (w.heap.size + 1 + 1) (lt_of_box HX.out.2.2) (by simp)).trans HX.out.2.2
  have HX1 := Lib.hid (And.intro hX0 hX2)
  have HB1 := Lib.hid hb1
  have hcur' : w1.heap[w.heap.size + 1 + 1 + 1]? = some (.cells cur 5) := by simpa using hcur
  have HC := Lib.hid (And.intro hcur' hsz)
  clear ho1 hg1 hb1 hcur hsz HX HB hX0 hX2 hcur'
  have t1 : ∀ j u, (cellsOf [b0, b1, b2, b3, b4, b5, b6, b7, b8, b9, b10, b11, b12, b13, b14, b15])[j]? = some u → w1.cell? ((⟨(w.heap.size + 1), 0, none⟩ : Addr).add j) = some u := arr_news HX1.out.1
  have t2 : cur.size = 16 * 1 := HC.out.2
  have T := Lib.hid (And.intro t1 t2)
  clear t1 t2
  go_wp2_with (refine wpList_copy_whole rfl _ _ 35 35 rfl 5 1 Ybad.underlying35 size5 (w.heap.size + 1 + 1 + 1) 16 16 ⟨(w.heap.size + 1), 0, none⟩ 16 rfl rfl cur 5 HC.out.1 T.out.2 (cellsOf [b0, b1, b2, b3, b4, b5, b6, b7, b8, b9, b10, b11, b12, b13, b14, b15]) rfl T.out.1 (one_cells _) (w.heap.size + 1 + 1 + 1) w1 (Below.refl _ _) (Nat.le_refl _) ?_; refine Hid.out ?_)
  refine Lib.hid ?_
  intro w2 hrow hb2
  have hX0 : w2.heap[(w.heap.size + 1)]? = some (.cells (cells16 b0 b1 b2 b3 b4 b5 b6 b7 b8 b9 b10 b11 b12 b13 b14 b15) 24) := (hb2.block (w.heap.size + 1) (by omega)).trans HX1.out.1
  have hX2 : w2.heap[w.heap.size + 1 + 1]? = some (.cells #[.int .u64 0, .int .u64 0, .pointer none] 34) := (hb2.block (w.heap.size + 1 + 1) (by omega)).trans HX1.out.2
  have HX2 := Lib.hid (And.intro hX0 hX2)
  have HB2 := Lib.hid (HB1.out.trans (hb2.mono (by omega)))
  have HG2 := Lib.hid (HG.out.below HB2.out)
  have HR2 := Lib.hid hrow
  clear hrow hb2 HC HB1 HX1 hX0 hX2 HG
  have l0 := (box_cell HX2.out.1 0).1
  have l1 := (box_cell HX2.out.1 1).1
  have l2 := (box_cell HX2.out.1 2).1
  have l3 := (box_cell HX2.out.1 3).1
  have l4 := (box_cell HX2.out.1 4).1
  have l5 := (box_cell HX2.out.1 5).1
  have l6 := (box_cell HX2.out.1 6).1
  have l7 := (box_cell HX2.out.1 7).1
  have l8 := (box_cell HX2.out.1 8).1
  have l9 := (box_cell HX2.out.1 9).1
  have l10 := (box_cell HX2.out.1 10).1
  have l11 := (box_cell HX2.out.1 11).1
  have l12 := (box_cell HX2.out.1 12).1
  have l13 := (box_cell HX2.out.1 13).1
  have l14 := (box_cell HX2.out.1 14).1
  have l15 := (box_cell HX2.out.1 15).1
  go_wp2_with (go_at_call 7; refine (from16_any b0 b1 b2 b3 b4 b5 b6 b7 b8 b9 b10 b11 b12 b13 b14 b15 p4 p6 _ h0 h1 h2 h3 h4 h5 h6 h7 h8 h9 h10 h11 h12 h13 h14 h15 HG2.out).mono ?_; rintro e w3 ⟨rfl, hb3⟩; refine Hid.out ?_)
  refine Lib.hid ?_
  clear l0 l1 l2 l3 l4 l5 l6 l7 l8 l9 l10 l11 l12 l13 l14 l15
  have HR3 := Lib.hid (box_below HR2.out hb3)
  have hX3 := box_below HX2.out.2 hb3
  have HB3 := Lib.hid (HB2.out.trans (hb3.mono HB2.out.size))
  obtain ⟨e0, f0⟩ := box_cell hX3 0
  obtain ⟨e1, f1⟩ := box_cell hX3 1
  obtain ⟨e2, f2⟩ := box_cell hX3 2
  simp at e0 e1 e2
  clear HR2 HX2 HB2 HG2 hb3 hX3
  go_wp2
  have st := stores3 (w.heap.size + 1 + 1) (.int .u64 (be8 b0 b1 b2 b3 b4 b5 b6 b7)) (.int .u64 (be8 b8 b9 b10 b11 b12 b13 b14 b15)) (.pointer (some p6)) w3 e0 e1 e2
  refine bodyPost_ret (v := .tuple #[addrV (be8 b0 b1 b2 b3 b4 b5 b6 b7) (be8 b8 b9 b10 b11 b12 b13 b14 b15) (some p6), .slice (some ⟨w.heap.size + 1 + 1 + 1, 0, none⟩) 16 16]) (by simp [results, Ybad.results4, go_sem, st]) rfl ⟨w.heap.size + 1 + 1 + 1, rfl, by omega, ?_, ?_⟩
  · rw [Below.heap_setCell _ _ _ _ (by show w.heap.size + 1 + 1 + 1 ≠ w.heap.size + 1 + 1; omega), Below.heap_setCell _ _ _ _ (by show w.heap.size + 1 + 1 + 1 ≠ w.heap.size + 1 + 1; omega), Below.heap_setCell _ _ _ _ (by show w.heap.size + 1 + 1 + 1 ≠ w.heap.size + 1 + 1; omega)]
    exact HR3.out
  · exact ((HB3.out.setCell (by show w.heap.size ≤ w.heap.size + 1 + 1; omega) _).setCell (by show w.heap.size ≤ w.heap.size + 1 + 1; omega) _).setCell (by show w.heap.size ≤ w.heap.size + 1 + 1; omega) _

end Go.Proofs.YbulkdggsDoor
