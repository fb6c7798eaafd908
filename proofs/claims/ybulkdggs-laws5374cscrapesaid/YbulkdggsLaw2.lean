import Derived.Test.YbulkdggsLaw
namespace Go.Proofs.Ybulkdggs
open Go.RowKit Go.Maps
set_option linter.unusedVariables false
attribute [local irreducible] kOf

set_option maxRecDepth 100000 in
set_option maxHeartbeats 16000000 in
theorem law_zero (sp : Option Addr) (cc : Nat) (qs qi os oi : Int) (w : World)  (hqs : 0 ≤ qs ∧ qs ≤ 65535) (hqi : 0 ≤ qi ∧ qi ≤ 4294967295) (hos : 0 ≤ os ∧ os ≤ 65535) (hoi : 0 ≤ oi ∧ oi ≤ 4294967295) :
    Calls Yba.prog 4 #[.slice sp 0 cc, .int .u16 qs, .int .u32 qi, .int .u16 os, .int .u32 oi] w fun e w' => e = .returned (.bool true) ∧ Below w.heap.size w w' := by
  have hbits := bits_run
  go_enter Yba.func4, Yba.ntmps4
  go_wp2_with (go_at_call 9; refine (new_any _).mono ?_; rintro e w1 hpost; obtain ⟨g, bR, bS, rfl, hfr, hreg, hb1⟩ := hpost; refine Hid.out ?_)
  refine Lib.hid ?_
  have HF := Lib.hid hfr
  have HR := Lib.hid hreg
  have HB := Lib.hid hb1
  clear hfr hreg hb1
  go_wp2_with fail
  go_loopw [28] (fun iv W => iv = .int .i64 0 ∧ Reg g bR bS 0 0 (.map []) (.map []) W ∧ Below w.heap.size w W) (fun _ _ => 0)
  case atStart => exact ⟨rfl, HR.out, HB.out⟩
  case round =>
    clear HR HB
    obtain ⟨rfl, hr, hbl⟩ := hrel
    have HAT := Lib.hid (fun a c ha hc => DK_at (fun _ => 0) (fun _ => 0) (fun _ => 0) a c ha hc 0 (fun k hk => absurd hk (Nat.not_lt_zero k)))
    have HR1 := Lib.hid hr
    have HB1 := Lib.hid hbl
    clear hr hbl
    have hka := key_of (qs % 3) (qi % 4) (by omega) (by omega)
    have hkb := key_of (os % 3) (oi % 4) (by omega) (by omega)
    have HKA := Lib.hid hka
    have HKB := Lib.hid hkb
    have HLA := Lib.hid (key_lit (qs % 3) (qi % 4) (by omega) (by omega))
    clear hka hkb
    go_wp2_with (go_at_call 5; refine (key_any qs qi _ hqs hqi).mono ?_; rintro e w3 ⟨rfl, hb3⟩; refine Hid.out ?_)
    refine Lib.hid ?_
    have hb4 : Below w3.heap.size w3 ((w3.alloc (.cells #[.int .u16 (qs % 3), .int .u32 (qi % 4)] 48)).alloc (.cells #[.int .u16 (qs % 3), .int .u32 (qi % 4)] 48)) := ((Below.refl _ _).alloc (Nat.le_refl _) _).alloc (by simp) _
    have hr4 := (HR1.out.below hb3).below hb4
    have hB3 := HB1.out.trans (hb3.mono HB1.out.size)
    have hB4 := hB3.trans (hb4.mono hB3.size)
    have hd4 : ((w3.alloc (.cells #[.int .u16 (qs % 3), .int .u32 (qi % 4)] 48)).alloc (.cells #[.int .u16 (qs % 3), .int .u32 (qi % 4)] 48)).heap[w3.heap.size]? = some (.cells #[.int .u16 (qs % 3), .int .u32 (qi % 4)] 48) := box_below (box_new _ _) ((Below.refl _ _).alloc (Nat.le_refl _) _)
    have hs4 : ((w3.alloc (.cells #[.int .u16 (qs % 3), .int .u32 (qi % 4)] 48)).alloc (.cells #[.int .u16 (qs % 3), .int .u32 (qi % 4)] 48)).heap[w3.heap.size + 1]? = some (.cells #[.int .u16 (qs % 3), .int .u32 (qi % 4)] 48) := by
      have h := box_new (w3.alloc (.cells #[.int .u16 (qs % 3), .int .u32 (qi % 4)] 48)) (.cells #[.int .u16 (qs % 3), .int .u32 (qi % 4)] 48)
      rwa [show (w3.alloc (.cells #[.int .u16 (qs % 3), .int .u32 (qi % 4)] 48)).heap.size = w3.heap.size + 1 from by simp] at h
    have hgl : g < w3.heap.size := block_lt_of_cell (HR1.out.below hb3).c3
    have hSl : bS < w3.heap.size := (HR1.out.below hb3).oS.lt
    have H4 := Lib.hid (And.intro hr4 (And.intro hB4 (And.intro hd4 hs4)))
    clear hb3 hb4 hr4 hB3 hB4 hd4 hs4 HR1 HB1
    go_wp2_with (go_at_call 10; refine (scrape_any g bR bS 0 (w3.heap.size + 1) (DataW.map []) (.map []) (qs % 3) (qi % 4) _ H4.out.1 ⟨HF.out.2.2.2.1, HF.out.2.2.2.2.1, HF.out.2.2.2.2.2, by omega, by omega⟩ HKA.out H4.out.2.2.2).mono ?_; rintro e w5 ⟨rfl, hr5, hz5, ho5, hs5⟩; refine Hid.out ?_)
    refine Lib.hid ?_
    have hd5 : w5.heap[w3.heap.size]? = some (.cells #[.int .u16 (qs % 3), .int .u32 (qi % 4)] 48) := (hs5 w3.heap.size (lt_of_box H4.out.2.2.1) (by omega) (by omega)).trans H4.out.2.2.1
    have hB5 : Below w.heap.size w w5 := H4.out.2.1.trans ⟨ho5.1, ho5.2.1, ho5.2.2, hz5, fun k hk => hs5 k (Nat.lt_of_lt_of_le hk H4.out.2.1.size) (by have := HF.out.1; omega) (by have := HF.out.2.2.1; omega)⟩
    have hSat : ((DataW.map [] : DataW Value).put (kOf (qs % 3) (qi % 4)) (.held zeroS)).atKey (kOf (qs % 3) (qi % 4)) (.held zeroS) = .held zeroS := atKey_put_same isMap_empty HLA.out _ _
    have hShas : Maps.has ((DataW.map [] : DataW Value).put (kOf (qs % 3) (qi % 4)) (.held zeroS)) (kOf (qs % 3) (qi % 4)) = true := has_put_same isMap_empty HLA.out _
    have H5 := Lib.hid (And.intro hr5 (And.intro hB5 (And.intro hd5 (And.intro hSat hShas))))
    have l0 := (box_cell hd5 0).1
    have l1 := (box_cell hd5 1).1
    clear hr5 hz5 ho5 hs5 hd5 hB5 hSat hShas H4
    go_wp2_with (go_at_call 6; refine (fig_hit g bR bS 0 1 (DataW.map []) _ (qs % 3) (qi % 4) _ H5.out.1 HKA.out H5.out.2.2.2.1 H5.out.2.2.2.2).mono ?_; rintro e w6 ⟨rfl, hb6⟩; refine Hid.out ?_)
    refine Lib.hid ?_
    have H6 := Lib.hid (And.intro (H5.out.1.below hb6) (And.intro (H5.out.2.1.trans (hb6.mono H5.out.2.1.size)) (box_below H5.out.2.2.1 hb6)))
    clear l0 l1 hb6 H5
    go_wp2_with (go_at_call 5; refine (key_any os oi _ hos hoi).mono ?_; rintro e w7 ⟨rfl, hb7⟩; refine Hid.out ?_)
    refine Lib.hid ?_
    have hb8 : Below w7.heap.size w7 (w7.alloc (.cells #[.int .u16 (os % 3), .int .u32 (oi % 4)] 48)) := (Below.refl _ _).alloc (Nat.le_refl _) _
    have hB7 := H6.out.2.1.trans (hb7.mono H6.out.2.1.size)
    have hd7 := box_below H6.out.2.2 hb7
    have H8 := Lib.hid (And.intro ((H6.out.1.below hb7).below hb8) (And.intro (hB7.trans (hb8.mono hB7.size)) (And.intro (box_below hd7 hb8) (box_new w7 (.cells #[.int .u16 (os % 3), .int .u32 (oi % 4)] 48)))))
    have l0 := (box_cell hd7 0).1
    have l1 := (box_cell hd7 1).1
    have hdl : w3.heap.size < w7.heap.size := lt_of_box hd7
    clear hb7 hb8 hB7 hd7 H6
    by_cases hm : os % 3 = qs % 3 ∧ oi % 4 = qi % 4
    · have heq := fun W : World => eq48_same (qs % 3) (qi % 4) W
      obtain ⟨hm1, hm2⟩ := hm
      rw [hm1, hm2] at H8
      simp only [hm1, hm2]
      go_wp2
      go_ret
      exact ⟨rfl, H8.out.2.1⟩
    · have heq := fun W : World => eq48_other (os % 3) (oi % 4) (qs % 3) (qi % 4) hm W
      have hne : kOf (os % 3) (oi % 4) ≠ kOf (qs % 3) (qi % 4) := fun e => hm (kOf_inj (by omega) (by omega) (by omega) (by omega) e)
      have hSat : ((DataW.map [] : DataW Value).put (kOf (qs % 3) (qi % 4)) (.held zeroS)).atKey (kOf (os % 3) (oi % 4)) (.held zeroS) = .held zeroS := (atKey_put_other hne _ _).trans rfl
      have hShas : Maps.has ((DataW.map [] : DataW Value).put (kOf (qs % 3) (qi % 4)) (.held zeroS)) (kOf (os % 3) (oi % 4)) = false := (has_put_other hne _).trans rfl
      obtain ⟨L, hL⟩ : ∃ L, L = lastR (fun _ => 0) (fun _ => 0) (fun _ => 0) (os % 3) (oi % 4) 0 := ⟨_, rfl⟩
      have hat := HAT.out (os % 3) (oi % 4) (by omega) (by omega)
      rw [← hL] at hat
      have HLL := Lib.hid hL
      have HQ := Lib.hid (And.intro hSat (And.intro hShas hat))
      clear hm hne hSat hShas HAT hat hL
      go_wp2_with (go_at_call 6; refine (fig_miss g bR bS 0 1 (DataW.map []) _ (os % 3) (oi % 4) _ H8.out.1 HKB.out HQ.out.1 HQ.out.2.1 L.2 L.1 HQ.out.2.2.1 HQ.out.2.2.2).mono ?_; rintro e w9 ⟨rfl, hb9⟩; refine Hid.out ?_)
      refine Lib.hid ?_
      have hB9 := H8.out.2.1.trans (hb9.mono H8.out.2.1.size)
      have ho9 := box_below H8.out.2.2.2 hb9
      have m0 := (box_cell ho9 0).1
      have m1 := (box_cell ho9 1).1
      have HB9 := Lib.hid hB9
      clear l0 l1 hb9 hB9 ho9 H8
      go_wp2_with (go_at_call 7; refine (rep_zero sp cc (os % 3) (oi % 4) _).mono ?_; rintro e w10 ⟨rfl, hb10⟩; refine Hid.out ?_)
      refine Lib.hid ?_
      have hL0 : L = (0, false) := HLL.out
      have HB10 := Lib.hid (HB9.out.trans (hb10.mono HB9.out.size))
      clear hb10 HB9
      subst hL0
      all_goals
        go_wp2
        go_ret
        exact ⟨rfl, HB10.out⟩


set_option maxRecDepth 100000 in
set_option maxHeartbeats 4000000 in
theorem law_big (p : Option Addr) (n cc : Nat) (qs qi os oi : Int) (w : World) (hn : 1024 < n) (hm : n ≤ 9223372036854775807) :
    Calls Yba.prog 4 #[.slice p n cc, .int .u16 qs, .int .u32 qi, .int .u16 os, .int .u32 oi] w fun e w' => e = .returned (.bool true) ∧ Below w.heap.size w w' := by
  go_enter Yba.func4, Yba.ntmps4
  go_wp2
  go_ret
  exact ⟨rfl, Below.refl _ _⟩
end Go.Proofs.Ybulkdggs
