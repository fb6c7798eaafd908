import Derived.Test.YbulkdgfqDoorChecked
import Derived.Test.YbulkdgfqDoorCal
import Derived.WalkKit
import Derived.WalkLawsBesides
import Derived.WalkSpells
import Derived.RegionTactic
import Derived.BigQuiet
import Derived.Deep.QuietTactic
import Derived.Deep.RegionHeld3
import Derived.OwnWalk
import Derived.Lib.Hide
namespace Go.Proofs.YbulkdgfqDoor
open Go.RowKit

theorem standIn_any (y : Int) (w : World) (h0 : 0 ≤ y) (h1 : y ≤ 9223372036854775807) :
    Calls Ybad.prog 29 #[.int .i64 y] w fun e w' => e = .returned (.int .i64 (y % 400 + 800)) ∧ w' = w := by
  go_enter Ybad.func29, Ybad.ntmps29
  go_wp2
  go_ret
  exact ⟨rfl, rfl⟩

theorem march_any (y : Int) (w : World) (h0 : 0 ≤ y) (h1 : y ≤ 100000) :
    Calls Ybad.prog 30 #[.int .i64 y] w fun e w' => e = .returned (.int .i64 (md y)) ∧ w' = w := by
  go_enter Ybad.func30, Ybad.ntmps30
  go_wp2
  go_ret
  exact ⟨rfl, rfl⟩

theorem julian_any (a b c : Int) (w : World) (a0 : 0 ≤ a) (a1 : a ≤ 3) (b0 : 0 ≤ b) (b1 : b ≤ 6) (c0 : 0 ≤ c) (c1 : c ≤ 18) :
    Calls Ybad.prog 31 #[.int .i64 a, .int .i64 b, .int .i64 c] w fun e w' => e = .returned (.int .i64 (jE a b c)) ∧ w' = w := by
  go_enter Ybad.func31, Ybad.ntmps31
  go_wp2
  go_ret
  exact ⟨rfl, rfl⟩

/-- a date, as a value -/
abbrev dateV (y m d : Int) : Value := .agg #[.int .i64 y, .int .i64 m, .int .i64 d]

theorem dt_late (n y yy mm r : Int) (hy : dY n = y) (hyy : yy = y + 1) (hm : mm = (5 * (n - md y) + 2) / 153) (hr : r = n - md y - (153 * mm + 2) / 5) (h : 10 ≤ mm) :
    dateV yy (mm - 9) (r + 1) = dateV (tY n) (tM n) (tD n) := by
  have e1 : dM n = mm := by rw [hm, ← hy]; rfl
  have e2 : dR n = r := by rw [hr, ← e1, ← hy]; rfl
  unfold tY tM tD
  rw [e1, e2, if_pos h, if_pos h, hy, hyy]
theorem dt_early (n y mm r : Int) (hy : dY n = y) (hm : mm = (5 * (n - md y) + 2) / 153) (hr : r = n - md y - (153 * mm + 2) / 5) (h : mm < 10) :
    dateV y (mm + 3) (r + 1) = dateV (tY n) (tM n) (tD n) := by
  have e1 : dM n = mm := by rw [hm, ← hy]; rfl
  have e2 : dR n = r := by rw [hr, ← e1, ← hy]; rfl
  unfold tY tM tD
  rw [e1, e2, if_neg (by omega), if_neg (by omega), hy]

theorem agg_ret {a b : Value} (h : a = b) : Ending.returned a = .returned b := by rw [h]

set_option maxHeartbeats 1000000 in
theorem dateOf_any (n : Int) (w : World) (h0 : 0 ≤ n) (h1 : n ≤ 1000000) :
    Calls Ybad.prog 32 #[.int .i64 n] w fun e w' => e = .returned (dateV (tY n) (tM n) (tD n)) ∧ Below w.heap.size w w' := by
  have hD := dD_bd n
  have hl := lp_01 (dY n + 1)
  by_cases hg : n < md (400 * (n + 2) / 146097)
  · have hy : dY n = 400 * (n + 2) / 146097 - 1 := by
      show (if n < md (dG n) then dG n - 1 else dG n) = _
      exact if_pos hg
    have hpos : 1 ≤ 400 * (n + 2) / 146097 := by
      by_cases h : 400 * (n + 2) / 146097 = 0
      · rw [h] at hg
        have : md 0 = 0 := rfl
        omega
      · omega
    have hd : 0 ≤ n - md (400 * (n + 2) / 146097 - 1) ∧ n - md (400 * (n + 2) / 146097 - 1) ≤ 365 := by
      rw [← hy]
      show 0 ≤ dD n ∧ dD n ≤ 365
      omega
    have HY := Lib.hid hy
    clear hy hD hl
    by_cases hm : 10 ≤ (5 * (n - md (400 * (n + 2) / 146097 - 1)) + 2) / 153
    · go_enter Ybad.func32, Ybad.ntmps32
      go_wp2_with (go_at_call 30; refine (march_any _ _ (by omega) (by omega)).mono ?_; rintro e w' ⟨rfl, rfl⟩)
      exact bodyPost_ret (v := dateV (400 * (n + 2) / 146097) ((5 * (n - md (400 * (n + 2) / 146097 - 1)) + 2) / 153 - 9) (n - md (400 * (n + 2) / 146097 - 1) - (153 * ((5 * (n - md (400 * (n + 2) / 146097 - 1)) + 2) / 153) + 2) / 5 + 1)) (by simp [results, Ybad.results32, go_sem]) rfl
        ⟨agg_ret (dt_late n _ _ _ _ HY.out (by omega) rfl rfl hm), (Below.refl _ _).alloc (Nat.le_refl _) _⟩
    · go_enter Ybad.func32, Ybad.ntmps32
      go_wp2_with (go_at_call 30; refine (march_any _ _ (by omega) (by omega)).mono ?_; rintro e w' ⟨rfl, rfl⟩)
      exact bodyPost_ret (v := dateV (400 * (n + 2) / 146097 - 1) ((5 * (n - md (400 * (n + 2) / 146097 - 1)) + 2) / 153 + 3) (n - md (400 * (n + 2) / 146097 - 1) - (153 * ((5 * (n - md (400 * (n + 2) / 146097 - 1)) + 2) / 153) + 2) / 5 + 1)) (by simp [results, Ybad.results32, go_sem]) rfl
        ⟨agg_ret (dt_early n _ _ _ HY.out rfl rfl (by omega)), (Below.refl _ _).alloc (Nat.le_refl _) _⟩
  · have hy : dY n = 400 * (n + 2) / 146097 := by
      show (if n < md (dG n) then dG n - 1 else dG n) = _
      exact if_neg hg
    have hd : 0 ≤ n - md (400 * (n + 2) / 146097) ∧ n - md (400 * (n + 2) / 146097) ≤ 365 := by
      rw [← hy]
      show 0 ≤ dD n ∧ dD n ≤ 365
      omega
    have HY := Lib.hid hy
    clear hy hD hl
    by_cases hm : 10 ≤ (5 * (n - md (400 * (n + 2) / 146097)) + 2) / 153
    · go_enter Ybad.func32, Ybad.ntmps32
      go_wp2_with (go_at_call 30; refine (march_any _ _ (by omega) (by omega)).mono ?_; rintro e w' ⟨rfl, rfl⟩)
      exact bodyPost_ret (v := dateV (400 * (n + 2) / 146097 + 1) ((5 * (n - md (400 * (n + 2) / 146097)) + 2) / 153 - 9) (n - md (400 * (n + 2) / 146097) - (153 * ((5 * (n - md (400 * (n + 2) / 146097)) + 2) / 153) + 2) / 5 + 1)) (by simp [results, Ybad.results32, go_sem]) rfl
        ⟨agg_ret (dt_late n _ _ _ _ HY.out (by omega) rfl rfl hm), (Below.refl _ _).alloc (Nat.le_refl _) _⟩
    · go_enter Ybad.func32, Ybad.ntmps32
      go_wp2_with (go_at_call 30; refine (march_any _ _ (by omega) (by omega)).mono ?_; rintro e w' ⟨rfl, rfl⟩)
      exact bodyPost_ret (v := dateV (400 * (n + 2) / 146097) ((5 * (n - md (400 * (n + 2) / 146097)) + 2) / 153 + 3) (n - md (400 * (n + 2) / 146097) - (153 * ((5 * (n - md (400 * (n + 2) / 146097)) + 2) / 153) + 2) / 5 + 1)) (by simp [results, Ybad.results32, go_sem]) rfl
        ⟨agg_ret (dt_early n _ _ _ HY.out rfl rfl (by omega)), (Below.refl _ _).alloc (Nat.le_refl _) _⟩

end Go.Proofs.YbulkdgfqDoor
