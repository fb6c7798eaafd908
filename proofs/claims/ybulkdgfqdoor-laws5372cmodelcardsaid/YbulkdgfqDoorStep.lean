import Derived.Test.YbulkdgfqDoorSmall
namespace Go.Proofs.YbulkdgfqDoor
open Go.RowKit
/-! The law's own model: Julian Easter, stepped on day by day. -/

theorem step_in (y m d : Int) (h : valid y m d) (hd : d + 1 ≤ mlen (lp y) m) : valid y m (d + 1) ∧ dn y m (d + 1) = dn y m d + 1 := by
  obtain ⟨h1, h2, h3, h4⟩ := h
  refine ⟨⟨h1, h2, by omega, hd⟩, ?_⟩
  unfold dn
  omega
theorem step_month (y m d : Int) (h : valid y m d) (hd : mlen (lp y) m < d + 1) (hm : m + 1 ≤ 12) : valid y (m + 1) 1 ∧ dn y (m + 1) 1 = dn y m d + 1 := by
  obtain ⟨h1, h2, h3, h4⟩ := h
  have hl := lp_01 y
  have he : d = mlen (lp y) m := by omega
  refine ⟨⟨by omega, hm, by omega, ?_⟩, ?_⟩
  · unfold mlen
    repeat' split
    all_goals omega
  · unfold dn
    rw [he]
    rcases twelve m h1 h2 with rfl | rfl | rfl | rfl | rfl | rfl | rfl | rfl | rfl | rfl | rfl | rfl <;> simp [cum, mlen] at hm ⊢ <;> omega
theorem step_year (y m d : Int) (h : valid y m d) (hd : mlen (lp y) m < d + 1) (hm : 12 < m + 1) : valid (y + 1) 1 1 ∧ dn (y + 1) 1 1 = dn y m d + 1 := by
  obtain ⟨h1, h2, h3, h4⟩ := h
  have hl := lp_01 y
  have he : d = mlen (lp y) m := by omega
  have hm12 : m = 12 := by omega
  subst hm12
  have hs := md_succ (y - 1)
  rw [show y - 1 + 1 = y from by omega] at hs
  refine ⟨⟨by omega, by omega, by omega, by simp [mlen]⟩, ?_⟩
  unfold dn
  rw [he]
  simp [cum, mlen]
  omega

/-- Julian Easter's date as a date of the Gregorian calendar, unmoved -/
theorem start_valid (y j : Int) (h0 : 0 ≤ j) (h1 : j ≤ 35) : valid y ((j + 114) / 31) ((j + 114) % 31 + 1) ∧ dn y ((j + 114) / 31) ((j + 114) % 31 + 1) = md y + 21 + j := by
  have hl := lp_01 y
  have hs := md_succ (y - 1)
  rw [show y - 1 + 1 = y from by omega] at hs
  have hm : (j + 114) / 31 = 3 ∨ (j + 114) / 31 = 4 := by omega
  unfold valid dn
  rcases hm with e | e <;> rw [e] <;> simp [mlen, cum] <;> omega

theorem model_end (y Y M D : Int) (hv : valid Y M D) (hn : dn Y M D = md y + 21 + jE (y % 4) (y % 7) (y % 19) + gap y) : Y = eY y ∧ M = eM y ∧ D = eD y := by
  have h := e_valid y
  refine unique _ _ _ _ _ _ hv h.1 ?_
  rw [hn, h.2]
  unfold eN
  omega

theorem mlen_bd (lf m : Int) (h : lf = 0 ∨ lf = 1) : 28 ≤ mlen lf m ∧ mlen lf m ≤ 31 := by
  unfold mlen
  repeat' split
  all_goals omega

/-! ### the Go functions -/
set_option maxHeartbeats 1000000 in
theorem monthlen_any (y m : Int) (w : World) (y0 : 0 ≤ y) (y1 : y ≤ 1000000) (m0 : 1 ≤ m) (m1 : m ≤ 12) :
    Calls Ybad.prog 23 #[.int .i64 y, .int .i64 m] w fun e w' => e = .returned (.int .i64 (mlen (lp y) m)) ∧ w' = w := by
  rcases twelve m m0 m1 with rfl | rfl | rfl | rfl | rfl | rfl | rfl | rfl | rfl | rfl | rfl | rfl
  case inr.inl =>
    have hml : mlen (lp y) 2 = 28 + lp y := by simp [mlen]
    rw [hml]
    by_cases h4 : y % 4 = 0
    · by_cases h100 : y % 100 = 0
      · by_cases h400 : y % 400 = 0
        · have e : lp y = 1 := by unfold lp; rw [if_pos (by omega)]
          have t4 : (y % 4 == 0) = true := by simpa using h4
          have t100 : (y % 100 != 0) = false := by simpa using h100
          have t400 : (y % 400 == 0) = true := by simpa using h400
          rw [e]
          clear hml e h4 h100 h400
          go_enter Ybad.func23, Ybad.ntmps23
          go_wp2
          go_ret
          exact ⟨rfl, rfl⟩
        · have e : lp y = 0 := by unfold lp; rw [if_neg (by omega)]
          have t4 : (y % 4 == 0) = true := by simpa using h4
          have t100 : (y % 100 != 0) = false := by simpa using h100
          have t400 : (y % 400 == 0) = false := by simpa using h400
          rw [e]
          clear hml e h4 h100 h400
          go_enter Ybad.func23, Ybad.ntmps23
          go_wp2
          go_ret
          exact ⟨rfl, rfl⟩
      · have e : lp y = 1 := by unfold lp; rw [if_pos (by omega)]
        have t4 : (y % 4 == 0) = true := by simpa using h4
        have t100 : (y % 100 != 0) = true := by simpa using h100
        rw [e]
        clear hml e h4 h100
        go_enter Ybad.func23, Ybad.ntmps23
        go_wp2
        go_ret
        exact ⟨rfl, rfl⟩
    · have e : lp y = 0 := by unfold lp; rw [if_neg (by omega)]
      have t4 : (y % 4 == 0) = false := by simpa using h4
      have t400 : (y % 400 == 0) = false := by rw [beq_eq_false_iff_ne]; omega
      rw [e]
      clear hml e h4
      go_enter Ybad.func23, Ybad.ntmps23
      go_wp2
      go_ret
      exact ⟨rfl, rfl⟩
  all_goals
    simp only [mlen]
    go_enter Ybad.func23, Ybad.ntmps23
    go_wp2
    go_ret
    exact ⟨rfl, rfl⟩

end Go.Proofs.YbulkdgfqDoor
