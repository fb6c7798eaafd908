/- The law, whole: for every input it answers true, and below the heap's old size nothing turns. -/
import Derived.Test.YbulkdggsDoorLaw2
import Derived.Test.YbulkdggsDoorLaw3
import Derived.Test.YbulkdggsDoorBig
import Derived.Test.YbulkdggsDoorSlice16
namespace Go.Proofs.YbulkdggsDoor
open Go.RowKit
set_option linter.unusedVariables false

/-- what the law needs of an endpoint -/
def Fit (r0 r1 r2 r3 r4 r5 r6 r7 k a b c d b0 b1 b2 b3 b4 b5 b6 b7 b8 b9 b10 b11 b12 b13 b14 b15 t hi lo : Int) (z : Option Addr) (zs : List Int) (p4 p6 : Addr) : Prop :=
  zs.length ≤ 16 ∧ (∀ x ∈ zs, isB x) ∧
  (∀ W, Glob p4 p6 W → Calls Ybad.prog 4 #[.int .u8 k, .agg #[.int .u8 a, .int .u8 b, .int .u8 c, .int .u8 d], .agg (cells16 b0 b1 b2 b3 b4 b5 b6 b7 b8 b9 b10 b11 b12 b13 b14 b15)] W fun e w' => ∃ sp ce, e = .returned (.tuple #[addrV hi lo z, .slice sp zs.length ce]) ∧ EpAt sp ce zs w' ∧ Below W.heap.size W w') ∧
  (∀ W (ca : Option Addr) (cl cc' : Nat), Glob p4 p6 W → Calls Ybad.prog 5 #[.agg #[.int .u8 r0, .int .u8 r1, .int .u8 r2, .int .u8 r3, .int .u8 r4, .int .u8 r5, .int .u8 r6, .int .u8 r7, .int .u64 hi, .int .u64 lo, .pointer z, .int .u32 t], .slice ca cl cc'] W fun e w' => RoutePost (wire r0 r1 r2 r3 r4 r5 r6 r7 t zs) (if k % 3 = 1 then 1 else 2) (.slice ca cl cc') W e w')

theorem ep_row {W : World} {g : Nat} {zs : List Int} {t : TypeId} {n : Nat} (h : W.heap[g]? = some (.cells (cellsOf zs).toArray t)) : EpAt (some ⟨g, 0, none⟩) n zs W :=
  .inr ⟨g, rfl, lt_of_box h, arr_news h⟩

theorem fit (r0 r1 r2 r3 r4 r5 r6 r7 k a b c d b0 b1 b2 b3 b4 b5 b6 b7 b8 b9 b10 b11 b12 b13 b14 b15 t : Int) (p4 p6 : Addr) (hr0 : isB r0) (hr1 : isB r1) (hr2 : isB r2) (hr3 : isB r3) (hr4 : isB r4) (hr5 : isB r5) (hr6 : isB r6) (hr7 : isB r7) (hk : isB k) (ha : isB a) (hbb : isB b) (hc : isB c) (hd : isB d) (hb0 : isB b0) (hb1 : isB b1) (hb2 : isB b2) (hb3 : isB b3) (hb4 : isB b4) (hb5 : isB b5) (hb6 : isB b6) (hb7 : isB b7) (hb8 : isB b8) (hb9 : isB b9) (hb10 : isB b10) (hb11 : isB b11) (hb12 : isB b12) (hb13 : isB b13) (hb14 : isB b14) (hb15 : isB b15) (ht : 0 ≤ t ∧ t < 4294967296) :
    ∃ hi lo z zs, Fit r0 r1 r2 r3 r4 r5 r6 r7 k a b c d b0 b1 b2 b3 b4 b5 b6 b7 b8 b9 b10 b11 b12 b13 b14 b15 t hi lo z zs p4 p6 := by
  by_cases h1 : k % 3 = 1
  · refine ⟨0, lo4 a b c d, some p4, [a, b, c, d], by simp, ?_, ?_, ?_⟩
    · intro x hx
      simp at hx
      rcases hx with rfl | rfl | rfl | rfl <;> assumption
    · intro W hW
      refine (baddr_1 k a b c d (cells16 b0 b1 b2 b3 b4 b5 b6 b7 b8 b9 b10 b11 b12 b13 b14 b15) W p4 p6 hW hk h1 ha hbb hc hd rfl).mono ?_
      rintro e w' ⟨g, rfl, hg, hrow, hbl⟩
      exact ⟨_, 4, rfl, ep_row hrow, hbl⟩
    · intro W ca cl cc' hW
      rw [if_pos h1]
      exact route_some r0 r1 r2 r3 r4 r5 r6 r7 0 (lo4 a b c d) t 1 (some p4) ca cl cc' p4 p6 W hW hr0 hr1 hr2 hr3 hr4 hr5 hr6 hr7 ht [a, b, c, d] (by simp) (by
        intro x hx
        simp at hx
        rcases hx with rfl | rfl | rfl | rfl <;> assumption)
        (fun W hW => asSlice_4 0 a b c d p4 p6 W ha hbb hc hd hW)
        (fun W hW => fam_any 0 (lo4 a b c d) (some p4) true W p4 p6 hW (fun W hW => is4_yes 0 (lo4 a b c d) W p4 p6 hW))
  · by_cases h2 : k % 3 = 2
    · refine ⟨be8 b0 b1 b2 b3 b4 b5 b6 b7, be8 b8 b9 b10 b11 b12 b13 b14 b15, some p6, [b0, b1, b2, b3, b4, b5, b6, b7, b8, b9, b10, b11, b12, b13, b14, b15], by simp, ?_, ?_, ?_⟩
      · intro x hx
        simp at hx
        rcases hx with rfl | rfl | rfl | rfl | rfl | rfl | rfl | rfl | rfl | rfl | rfl | rfl | rfl | rfl | rfl | rfl <;> assumption
      · intro W hW
        refine (baddr_2 k b0 b1 b2 b3 b4 b5 b6 b7 b8 b9 b10 b11 b12 b13 b14 b15 #[.int .u8 a, .int .u8 b, .int .u8 c, .int .u8 d] W p4 p6 hW hk h2 hb0 hb1 hb2 hb3 hb4 hb5 hb6 hb7 hb8 hb9 hb10 hb11 hb12 hb13 hb14 hb15 rfl).mono ?_
        rintro e w' ⟨g, rfl, hg, hrow, hbl⟩
        exact ⟨_, 16, rfl, ep_row hrow, hbl⟩
      · intro W ca cl cc' hW
        rw [if_neg h1]
        exact route_some r0 r1 r2 r3 r4 r5 r6 r7 (be8 b0 b1 b2 b3 b4 b5 b6 b7) (be8 b8 b9 b10 b11 b12 b13 b14 b15) t 2 (some p6) ca cl cc' p4 p6 W hW hr0 hr1 hr2 hr3 hr4 hr5 hr6 hr7 ht [b0, b1, b2, b3, b4, b5, b6, b7, b8, b9, b10, b11, b12, b13, b14, b15] (by simp) (by
          intro x hx
          simp at hx
          rcases hx with rfl | rfl | rfl | rfl | rfl | rfl | rfl | rfl | rfl | rfl | rfl | rfl | rfl | rfl | rfl | rfl <;> assumption)
          (fun W hW => asSlice_16 b0 b1 b2 b3 b4 b5 b6 b7 b8 b9 b10 b11 b12 b13 b14 b15 p4 p6 W hb0 hb1 hb2 hb3 hb4 hb5 hb6 hb7 hb8 hb9 hb10 hb11 hb12 hb13 hb14 hb15 hW)
          (fun W hW => fam_any _ _ (some p6) false W p4 p6 hW (fun W hW => is4_no _ _ W p4 p6 hW))
    · have h0 : k % 3 = 0 := by unfold isB at hk; omega
      refine ⟨0, 0, none, [], by simp, by simp, ?_, ?_⟩
      · intro W hW
        refine (baddr_0 k #[.int .u8 a, .int .u8 b, .int .u8 c, .int .u8 d] (cells16 b0 b1 b2 b3 b4 b5 b6 b7 b8 b9 b10 b11 b12 b13 b14 b15) W hk h0 rfl rfl).mono ?_
        rintro e w' ⟨rfl, hbl⟩
        exact ⟨none, 0, rfl, .inl ⟨rfl, rfl, rfl⟩, hbl⟩
      · intro W ca cl cc' hW
        rw [if_neg h1]
        exact route_nil r0 r1 r2 r3 r4 r5 r6 r7 0 0 t 2 none ca cl cc' p4 p6 W hW hr0 hr1 hr2 hr3 hr4 hr5 hr6 hr7 ht
          (fun W hW => asSlice_nil 0 0 p4 p6 W hW)
          (fun W hW => fam_any 0 0 none false W p4 p6 hW (fun W hW => is4_nil 0 0 W p4 p6 hW))

/-- the law at whatever communities -/
theorem law_any (r0 r1 r2 r3 r4 r5 r6 r7 k a b c d b0 b1 b2 b3 b4 b5 b6 b7 b8 b9 b10 b11 b12 b13 b14 b15 t : Int) (v : Value) (p4 p6 : Addr) (w : World) (hG : Glob p4 p6 w) (hr0 : isB r0) (hr1 : isB r1) (hr2 : isB r2) (hr3 : isB r3) (hr4 : isB r4) (hr5 : isB r5) (hr6 : isB r6) (hr7 : isB r7) (hk : isB k) (ha : isB a) (hbb : isB b) (hc : isB c) (hd : isB d) (hb0 : isB b0) (hb1 : isB b1) (hb2 : isB b2) (hb3 : isB b3) (hb4 : isB b4) (hb5 : isB b5) (hb6 : isB b6) (hb7 : isB b7) (hb8 : isB b8) (hb9 : isB b9) (hb10 : isB b10) (hb11 : isB b11) (hb12 : isB b12) (hb13 : isB b13) (hb14 : isB b14) (hb15 : isB b15) (ht : 0 ≤ t ∧ t < 4294967296)
    (hv : v = .slice none 0 0 ∨ ∃ (a : Addr) (n cc : Nat) (ys : List Int), v = .slice (some a) n cc ∧ n ≤ cc ∧ cc ≤ maxLen ∧ ys.length = n * 8 ∧ (∀ y ∈ ys, isB y) ∧ ∀ j u, (cellsOf ys)[j]? = some u → w.cell? (a.add j) = some u) :
    Calls Ybad.prog 3 #[.agg #[.int .u8 r0, .int .u8 r1, .int .u8 r2, .int .u8 r3, .int .u8 r4, .int .u8 r5, .int .u8 r6, .int .u8 r7], .int .u8 k, .agg #[.int .u8 a, .int .u8 b, .int .u8 c, .int .u8 d], .agg (cells16 b0 b1 b2 b3 b4 b5 b6 b7 b8 b9 b10 b11 b12 b13 b14 b15), .int .u32 t, v] w fun e w' => e = .returned (.bool true) ∧ Below w.heap.size w w' := by
  obtain ⟨hi, lo, z, zs, f1, f2, f3, f4⟩ := fit r0 r1 r2 r3 r4 r5 r6 r7 k a b c d b0 b1 b2 b3 b4 b5 b6 b7 b8 b9 b10 b11 b12 b13 b14 b15 t p4 p6 hr0 hr1 hr2 hr3 hr4 hr5 hr6 hr7 hk ha hbb hc hd hb0 hb1 hb2 hb3 hb4 hb5 hb6 hb7 hb8 hb9 hb10 hb11 hb12 hb13 hb14 hb15 ht
  rcases hv with rfl | ⟨ad, n, cc, ys, rfl, hnc, hcm, hyl, hyB, hys⟩
  · exact law_nil r0 r1 r2 r3 r4 r5 r6 r7 k a b c d b0 b1 b2 b3 b4 b5 b6 b7 b8 b9 b10 b11 b12 b13 b14 b15 t hi lo z zs p4 p6 w hG hr0 hr1 hr2 hr3 hr4 hr5 hr6 hr7 hk ht f1 f2 f3 f4
  · by_cases hbig : 4096 < n
    · exact law_big #[.int .u8 r0, .int .u8 r1, .int .u8 r2, .int .u8 r3, .int .u8 r4, .int .u8 r5, .int .u8 r6, .int .u8 r7] #[.int .u8 a, .int .u8 b, .int .u8 c, .int .u8 d] (cells16 b0 b1 b2 b3 b4 b5 b6 b7 b8 b9 b10 b11 b12 b13 b14 b15) k t (some ad) n cc w hbig (by unfold maxLen at hcm; omega) rfl rfl rfl
    · by_cases h0 : n = 0
      · exact law_zero ad n cc h0 ys (by omega) hyl hyB r0 r1 r2 r3 r4 r5 r6 r7 k a b c d b0 b1 b2 b3 b4 b5 b6 b7 b8 b9 b10 b11 b12 b13 b14 b15 t hi lo z zs p4 p6 w hys hG hr0 hr1 hr2 hr3 hr4 hr5 hr6 hr7 hk ht f1 f2 f3 f4
      · obtain ⟨b', off, spot⟩ := ad
        have hc0 := hys 0 (.int .u8 (ys.getD 0 0)) (by
          have : 0 < ys.length := by omega
          rw [List.getElem?_map, List.getElem?_eq_getElem this]
          simp [List.getD, List.getElem?_eq_getElem this])
        have hspot : spot = none := by simpa [Addr.add] using World.cell?_spot hc0
        subst hspot
        exact law_some b' off n cc ys (by omega) hyl hyB r0 r1 r2 r3 r4 r5 r6 r7 k a b c d b0 b1 b2 b3 b4 b5 b6 b7 b8 b9 b10 b11 b12 b13 b14 b15 t hi lo z zs p4 p6 w hys hG hr0 hr1 hr2 hr3 hr4 hr5 hr6 hr7 hk ht f1 f2 f3 f4
end Go.Proofs.YbulkdggsDoor
