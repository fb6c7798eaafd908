import Derived.Test.YbulkdggsMid
namespace Go.Proofs.Ybulkdggs
open Go.RowKit Go.Maps
set_option linter.unusedVariables false
attribute [local irreducible] kOf

set_option maxRecDepth 100000 in
set_option maxHeartbeats 16000000 in
theorem law_some (b off n cc : Nat) (sF iF : Nat → Int) (xF : Nat → Nat) (qs qi os oi : Int) (w : World) (hn : n ≤ 1024) (hE : Ents w b off n sF iF xF) (hblt : b < w.heap.size) (hqs : 0 ≤ qs ∧ qs ≤ 65535) (hqi : 0 ≤ qi ∧ qi ≤ 4294967295) (hos : 0 ≤ os ∧ os ≤ 65535) (hoi : 0 ≤ oi ∧ oi ≤ 4294967295) :
    Calls Yba.prog 4 #[.slice (some ⟨b, off, none⟩) n cc, .int .u16 qs, .int .u32 qi, .int .u16 os, .int .u32 oi] w fun e w' => e = .returned (.bool true) ∧ Below w.heap.size w w' := by
  have HE := Lib.hid hE
  clear hE
  have hbits := bits_run
  go_enter Yba.func4, Yba.ntmps4
  go_wp2_with (go_at_call 9; refine (new_any _).mono ?_; rintro e w1 hpost; obtain ⟨g, bR, bS, rfl, hfr, hreg, hb1⟩ := hpost; refine Hid.out ?_)
  refine Lib.hid ?_
  have HF := Lib.hid hfr
  have HR := Lib.hid hreg
  have HB := Lib.hid hb1
  clear hfr hreg hb1
  go_wp2_with fail
  go_loopw [28] (fun iv W => ∃ j : Nat, j ≤ n ∧ iv = .int .i64 j ∧ Reg g bR bS j 0 (DK sF iF xF j) (.map []) W ∧ Below w.heap.size w W) (fun iv _ => n - (intOf iv).toNat)
  case atStart => exact ⟨0, Nat.zero_le _, rfl, HR.out, HB.out⟩
  case round =>
    clear HR HB
    obtain ⟨j, hj, rfl, hr, hbl⟩ := hrel
    by_cases hlt : j < n
    · have hlti : (j : Int) < n := by omega
      have hEw := HE.out.below hbl hblt
      have q0 := hEw.c0 j hlt
      have q1 := hEw.c1 j hlt
      have q2 := hEw.c2 j hlt
      obtain ⟨f1, f2, f3, q3, q4, q5⟩ := hEw.cb j hlt
      have hsb := hEw.sb j hlt
      have hib := hEw.ib j hlt
      have hD : DK sF iF xF (j + 1) = (DK sF iF xF j).put (kOf (sF j % 3) (iF j % 4)) (.held (.float .f64 (xF j))) := rfl
      have HD := Lib.hid hD
      clear hEw hD
      generalize sF j = s at q0 hsb HD
      generalize iF j = i at q1 hib HD
      generalize xF j = x at q2 HD
      have hkey := key_of (s % 3) (i % 4) (by omega) (by omega)
      have hb5 : Below wr.heap.size wr (wr.alloc (.cells #[.int .u16 s, .int .u32 i, .float .f64 x, .bool f1, .bool f2, .bool f3] 46)) := (Below.refl _ _).alloc (Nat.le_refl _) _
      have hltR : bR < wr.heap.size := hr.oR.lt
      have HR5 := Lib.hid (And.intro (hr.below hb5) (hbl.trans (hb5.mono hbl.size)))
      have HS := Lib.hid (SQ.of (x := wr.heap.size) (v := x) (f1 := f1) (f2 := f2) (f3 := f3) hkey (by omega) ⟨HR5.out.1.c6, box_new _ _, ⟨j, _, Nat.le_refl _, HR5.out.1.oR⟩, ⟨HF.out.2.2.2.2.1.symm, by omega⟩⟩)
      have HKY := Lib.hid hkey
      clear hr hbl hb5 hkey
      go_wp2_with fail
      have hs := HS.out
      clear HS q0 q1 q2 q3 q4 q5
      generalize wr.alloc (.cells #[.int .u16 s, .int .u32 i, .float .f64 x, .bool f1, .bool f2, .bool f3] 46) = W5 at hs HR5 ⊢
      go_region_held3 (fun W => W.cell? ⟨g, 6, none⟩ = some (.map (some bR)) ∧ W.cell? ⟨wr.heap.size, 0, none⟩ = some (.int .u16 s) ∧ W.cell? ⟨wr.heap.size, 1, none⟩ = some (.int .u32 i) ∧ W.cell? ⟨wr.heap.size, 2, none⟩ = some (.float .f64 x) ∧
        (Instr.mapUpdate 26 (.map (some bR)) (.agg #[.int .u16 (s % 3), .int .u32 (i % 4)]) (.float .f64 x)).run Yba.prog W = .ok () (storeW 26 bR (.agg #[.int .u16 (s % 3), .int .u32 (i % 4)]) (.float .f64 x) W) ∧ UQ (j + 1) g bR wr.heap.size s i x f1 f2 f3 W) (first | with_reducible assumption | (with_reducible refine SQ.store HKY.out (by omega) ?_; with_reducible assumption) | (with_reducible refine SQ.up HKY.out (by omega) ?_; (repeat (with_reducible first | exact hs | refine SQ.drew HKY.out (by omega) ?_)); done))
        (first
          | (go_at_call 5; refine (key_any s i _ hsb hib).mono ?_; rintro e w7 ⟨rfl, hb7⟩; have g70 := SQ.bel HKY.out (by omega) (SQ.drew HKY.out (by omega) hs) hb7; have g71 := SQ.up HKY.out (by omega) g70))
      all_goals
        clear hs
        have h7 := (HR5.out.1.below (Below.refl W5.heap.size W5).drew).below hb7
        have b7 := HR5.out.2.trans (((Below.refl W5.heap.size W5).drew.trans hb7).mono HR5.out.2.size)
        have HST := Lib.hid (And.intro (h7.store (v := .float .f64 x) (by omega) ⟨HF.out.2.2.2.1, HF.out.2.2.2.2.1⟩ HKY.out) b7)
        clear h7 b7 g70 g71 hb7
        go_wp2
        go_roundw
        case rel =>
          refine ⟨j + 1, by omega, by go_num, ?_, below_turned HST.out.2 HST.out.1.2 HF.out.2.1 HST.out.2.size⟩
          rw [HD.out]
          exact HST.out.1.1
        case measure => simp [intOf]; omega
    · obtain rfl : j = n := by omega
      have HAT := Lib.hid (fun a c ha hc => DK_at sF iF xF a c ha hc j (fun k hk => ⟨(HE.out.sb k hk).1, (HE.out.ib k hk).1⟩))
      have HR1 := Lib.hid hr
      have HB1 := Lib.hid hbl
      clear hr hbl
      have hka := key_of (qs % 3) (qi % 4) (by omega) (by omega)
      have hkb := key_of (os % 3) (oi % 4) (by omega) (by omega)
      have HKA := Lib.hid hka
      have HKB := Lib.hid hkb
      have HLA := Lib.hid (key_lit (qs % 3) (qi % 4) (by omega) (by omega))
      clear hka hkb
      go_wp2_with (go_at_call 5; refine (key_any qs qi _ hqs hqi).mono ?_; rintro e w3 ⟨rfl, hb3⟩; refine Hid.out ?_)
      refine Lib.hid ?_
      have hb4 : Below w3.heap.size w3 ((w3.alloc (.cells #[.int .u16 (qs % 3), .int .u32 (qi % 4)] 48)).alloc (.cells #[.int .u16 (qs % 3), .int .u32 (qi % 4)] 48)) := ((Below.refl _ _).alloc (Nat.le_refl _) _).alloc (by simp) _
      have hr4 := (HR1.out.below hb3).below hb4
      have hB3 := HB1.out.trans (hb3.mono HB1.out.size)
      have hB4 := hB3.trans (hb4.mono hB3.size)
      have hd4 : ((w3.alloc (.cells #[.int .u16 (qs % 3), .int .u32 (qi % 4)] 48)).alloc (.cells #[.int .u16 (qs % 3), .int .u32 (qi % 4)] 48)).heap[w3.heap.size]? = some (.cells #[.int .u16 (qs % 3), .int .u32 (qi % 4)] 48) := box_below (box_new _ _) ((Below.refl _ _).alloc (Nat.le_refl _) _)
      have hs4 : ((w3.alloc (.cells #[.int .u16 (qs % 3), .int .u32 (qi % 4)] 48)).alloc (.cells #[.int .u16 (qs % 3), .int .u32 (qi % 4)] 48)).heap[w3.heap.size + 1]? = some (.cells #[.int .u16 (qs % 3), .int .u32 (qi % 4)] 48) := by
        have h := box_new (w3.alloc (.cells #[.int .u16 (qs % 3), .int .u32 (qi % 4)] 48)) (.cells #[.int .u16 (qs % 3), .int .u32 (qi % 4)] 48)
        rwa [show (w3.alloc (.cells #[.int .u16 (qs % 3), .int .u32 (qi % 4)] 48)).heap.size = w3.heap.size + 1 from by simp] at h
      have hgl : g < w3.heap.size := block_lt_of_cell (HR1.out.below hb3).c3
      have hSl : bS < w3.heap.size := (HR1.out.below hb3).oS.lt
      have H4 := Lib.hid (And.intro hr4 (And.intro hB4 (And.intro hd4 hs4)))
      clear hb3 hb4 hr4 hB3 hB4 hd4 hs4 HR1 HB1
      go_wp2_with (go_at_call 10; refine (scrape_any g bR bS j (w3.heap.size + 1) (DK sF iF xF j) (.map []) (qs % 3) (qi % 4) _ H4.out.1 ⟨HF.out.2.2.2.1, HF.out.2.2.2.2.1, HF.out.2.2.2.2.2, by omega, by omega⟩ HKA.out H4.out.2.2.2).mono ?_; rintro e w5 ⟨rfl, hr5, hz5, ho5, hs5⟩; refine Hid.out ?_)
      refine Lib.hid ?_
      have hd5 : w5.heap[w3.heap.size]? = some (.cells #[.int .u16 (qs % 3), .int .u32 (qi % 4)] 48) := (hs5 w3.heap.size (lt_of_box H4.out.2.2.1) (by omega) (by omega)).trans H4.out.2.2.1
      have hB5 : Below w.heap.size w w5 := H4.out.2.1.trans ⟨ho5.1, ho5.2.1, ho5.2.2, hz5, fun k hk => hs5 k (Nat.lt_of_lt_of_le hk H4.out.2.1.size) (by have := HF.out.1; omega) (by have := HF.out.2.2.1; omega)⟩
      have hSat : ((DataW.map [] : DataW Value).put (kOf (qs % 3) (qi % 4)) (.held zeroS)).atKey (kOf (qs % 3) (qi % 4)) (.held zeroS) = .held zeroS := atKey_put_same isMap_empty HLA.out _ _
      have hShas : Maps.has ((DataW.map [] : DataW Value).put (kOf (qs % 3) (qi % 4)) (.held zeroS)) (kOf (qs % 3) (qi % 4)) = true := has_put_same isMap_empty HLA.out _
      have H5 := Lib.hid (And.intro hr5 (And.intro hB5 (And.intro hd5 (And.intro hSat hShas))))
      have l0 := (box_cell hd5 0).1
      have l1 := (box_cell hd5 1).1
      clear hr5 hz5 ho5 hs5 hd5 hB5 hSat hShas H4
      go_wp2_with (go_at_call 6; refine (fig_hit g bR bS j 1 (DK sF iF xF j) _ (qs % 3) (qi % 4) _ H5.out.1 HKA.out H5.out.2.2.2.1 H5.out.2.2.2.2).mono ?_; rintro e w6 ⟨rfl, hb6⟩; refine Hid.out ?_)
      refine Lib.hid ?_
      have H6 := Lib.hid (And.intro (H5.out.1.below hb6) (And.intro (H5.out.2.1.trans (hb6.mono H5.out.2.1.size)) (box_below H5.out.2.2.1 hb6)))
      clear l0 l1 hb6 H5
      go_wp2_with (go_at_call 5; refine (key_any os oi _ hos hoi).mono ?_; rintro e w7 ⟨rfl, hb7⟩; refine Hid.out ?_)
      refine Lib.hid ?_
      have hb8 : Below w7.heap.size w7 (w7.alloc (.cells #[.int .u16 (os % 3), .int .u32 (oi % 4)] 48)) := (Below.refl _ _).alloc (Nat.le_refl _) _
      have hB7 := H6.out.2.1.trans (hb7.mono H6.out.2.1.size)
      have hd7 := box_below H6.out.2.2 hb7
      have H8 := Lib.hid (And.intro ((H6.out.1.below hb7).below hb8) (And.intro (hB7.trans (hb8.mono hB7.size)) (And.intro (box_below hd7 hb8) (box_new w7 (.cells #[.int .u16 (os % 3), .int .u32 (oi % 4)] 48)))))
      have l0 := (box_cell hd7 0).1
      have l1 := (box_cell hd7 1).1
      have hdl : w3.heap.size < w7.heap.size := lt_of_box hd7
      clear hb7 hb8 hB7 hd7 H6
      by_cases hm : os % 3 = qs % 3 ∧ oi % 4 = qi % 4
      · have heq := fun W : World => eq48_same (qs % 3) (qi % 4) W
        obtain ⟨hm1, hm2⟩ := hm
        rw [hm1, hm2] at H8
        simp only [hm1, hm2]
        go_wp2
        go_ret
        exact ⟨rfl, H8.out.2.1⟩
      · have heq := fun W : World => eq48_other (os % 3) (oi % 4) (qs % 3) (qi % 4) hm W
        have hne : kOf (os % 3) (oi % 4) ≠ kOf (qs % 3) (qi % 4) := fun e => hm (kOf_inj (by omega) (by omega) (by omega) (by omega) e)
        have hSat : ((DataW.map [] : DataW Value).put (kOf (qs % 3) (qi % 4)) (.held zeroS)).atKey (kOf (os % 3) (oi % 4)) (.held zeroS) = .held zeroS := (atKey_put_other hne _ _).trans rfl
        have hShas : Maps.has ((DataW.map [] : DataW Value).put (kOf (qs % 3) (qi % 4)) (.held zeroS)) (kOf (os % 3) (oi % 4)) = false := (has_put_other hne _).trans rfl
        obtain ⟨L, hL⟩ : ∃ L, L = lastR sF iF xF (os % 3) (oi % 4) j := ⟨_, rfl⟩
        have hat := HAT.out (os % 3) (oi % 4) (by omega) (by omega)
        rw [← hL] at hat
        have HLL := Lib.hid hL
        have HQ := Lib.hid (And.intro hSat (And.intro hShas hat))
        clear hm hne hSat hShas HAT hat hL
        go_wp2_with (go_at_call 6; refine (fig_miss g bR bS j 1 (DK sF iF xF j) _ (os % 3) (oi % 4) _ H8.out.1 HKB.out HQ.out.1 HQ.out.2.1 L.2 L.1 HQ.out.2.2.1 HQ.out.2.2.2).mono ?_; rintro e w9 ⟨rfl, hb9⟩; refine Hid.out ?_)
        refine Lib.hid ?_
        have hB9 := H8.out.2.1.trans (hb9.mono H8.out.2.1.size)
        have ho9 := box_below H8.out.2.2.2 hb9
        have m0 := (box_cell ho9 0).1
        have m1 := (box_cell ho9 1).1
        have HB9 := Lib.hid hB9
        clear l0 l1 hb9 hB9 ho9 H8
        go_wp2_with (go_at_call 7; refine (rep_some b off j cc sF iF xF (os % 3) (oi % 4) _ hn (HE.out.below HB9.out hblt)).mono ?_; rintro e w10 ⟨rfl, hb10⟩; refine Hid.out ?_)
        refine Lib.hid ?_
        rw [← HLL.out]
        have HB10 := Lib.hid (HB9.out.trans (hb10.mono HB9.out.size))
        clear hb10 HB9
        obtain ⟨x, q⟩ := L; cases q
        all_goals
          go_wp2
          go_ret
          exact ⟨rfl, HB10.out⟩

end Go.Proofs.Ybulkdggs
