import Derived.Test.YbulkdgfqDoorStep
import Derived.Test.YbulkdgfqDoorEaster
namespace Go.Proofs.YbulkdgfqDoor
open Go.RowKit

theorem jE_eq (y : Int) : jE (y % 4) (y % 7) (y % 19) = (19 * (y % 19) + 15) % 30 + (2 * (y % 4) + 4 * (y % 7) - (19 * (y % 19) + 15) % 30 + 34) % 7 := rfl

set_option maxHeartbeats 4000000 in
theorem model_any (y : Int) (w : World) (y0 : 1583 ≤ y) (y1 : y ≤ 100000) :
    Calls Ybad.prog 12 #[.int .i64 y] w fun e w' => e = .returned (dateV (eY y) (eM y) (eD y)) ∧ Below w.heap.size w w' := by
  have hj := jE_bd (y % 4) (y % 7) (y % 19)
  have hst := start_valid y (jE (y % 4) (y % 7) (y % 19)) hj.1 hj.2
  have hg : 0 ≤ y / 100 - y / 400 - 2 ∧ y / 100 - y / 400 - 2 ≤ 1000 := by omega
  have hgap : gap y = y / 100 - y / 400 - 2 := rfl
  rw [jE_eq] at hst hj
  have HS := Lib.hid hst
  have HG := Lib.hid hgap
  clear hst hgap
  go_enter Ybad.func12, Ybad.ntmps12
  go_wp2
  go_loop [0, 8, 9, 11] (fun yv mv dv iv => ∃ Y M D i : Int, yv = .int .i64 Y ∧ mv = .int .i64 M ∧ dv = .int .i64 D ∧ iv = .int .i64 i ∧ 0 ≤ i ∧ i ≤ y / 100 - y / 400 - 2 ∧ y ≤ Y ∧ Y ≤ y + i ∧ valid Y M D ∧ dn Y M D = md y + 21 + ((19 * (y % 19) + 15) % 30 + (2 * (y % 4) + 4 * (y % 7) - (19 * (y % 19) + 15) % 30 + 34) % 7) + i) (fun _ _ _ iv => (y / 100 - y / 400 - 2 - intOf iv).toNat)
  case atStart => exact ⟨y, _, _, 0, rfl, rfl, rfl, rfl, by omega, by omega, by omega, by omega, HS.out.1, by rw [HS.out.2]; omega⟩
  case round =>
    obtain ⟨Y, M, D, i, rfl, rfl, rfl, rfl, i0, i1, hY0, hY1, hv, hn⟩ := hrel
    have hl := lp_01 Y
    have hml := mlen_bd (lp Y) M hl
    have hM0 := hv.1
    have hM1 := hv.2.1
    have hD0 := hv.2.2.1
    have hD1 := hv.2.2.2
    clear hl HS
    by_cases hlt : i < y / 100 - y / 400 - 2
    · by_cases hin : mlen (lp Y) M < D + 1
      · by_cases hm12 : 12 < M + 1
        · have hs := step_year Y M D hv hin hm12
          have HST := Lib.hid hs
          have HN := Lib.hid hn
          clear hs hn hv
          go_wp2_with (go_at_call 23; refine (monthlen_any _ _ _ (by omega) (by omega) (by omega) (by omega)).mono ?_; rintro e w' ⟨rfl, rfl⟩)
          go_round
          case rel => exact ⟨Y + 1, 1, 1, i + 1, rfl, rfl, rfl, rfl, by omega, by omega, by omega, by omega, HST.out.1, by rw [HST.out.2, HN.out]; omega⟩
          case measure => simp [intOf]; omega
        · have hs := step_month Y M D hv hin (by omega)
          have HST := Lib.hid hs
          have HN := Lib.hid hn
          clear hs hn hv
          go_wp2_with (go_at_call 23; refine (monthlen_any _ _ _ (by omega) (by omega) (by omega) (by omega)).mono ?_; rintro e w' ⟨rfl, rfl⟩)
          go_round
          case rel => exact ⟨Y, M + 1, 1, i + 1, rfl, rfl, rfl, rfl, by omega, by omega, by omega, by omega, HST.out.1, by rw [HST.out.2, HN.out]; omega⟩
          case measure => simp [intOf]; omega
      · have hs := step_in Y M D hv (by omega)
        have HST := Lib.hid hs
        have HN := Lib.hid hn
        clear hs hn hv
        go_wp2_with (go_at_call 23; refine (monthlen_any _ _ _ (by omega) (by omega) (by omega) (by omega)).mono ?_; rintro e w' ⟨rfl, rfl⟩)
        go_round
        case rel => exact ⟨Y, M, D + 1, i + 1, rfl, rfl, rfl, rfl, by omega, by omega, by omega, by omega, HST.out.1, by rw [HST.out.2, HN.out]; omega⟩
        case measure => simp [intOf]; omega
    · have he := model_end y Y M D hv (by rw [hn, jE_eq, HG.out]; omega)
      have HE := Lib.hid he
      clear he hn hv
      go_wp2_with fail
      refine bodyPost_ret (v := dateV Y M D) (by simp [results, Ybad.results12, go_sem]) rfl ⟨agg_ret ?_, (Below.refl _ _).alloc (Nat.le_refl _) _⟩
      rw [HE.out.1, HE.out.2.1, HE.out.2.2]

end Go.Proofs.YbulkdgfqDoor
