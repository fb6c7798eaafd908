import Derived.Test.YbulkdgeaChecked
import Derived.Test.YbulkdgeaPlain
import Derived.WalkKit
import Derived.WalkLawsBesides
import Derived.WalkSpells
import Derived.RegionTactic
import Derived.BigQuiet
import Derived.Deep.QuietTactic
import Derived.OwnWalk
namespace Go.Proofs.Ybulkdgea
open Go.RowKit

theorem digit_any (c : UInt8) (w : World) :
    Calls Yba.prog 6 #[.int .u8 (c.toNat : Int)] w fun e w' => e = .returned (.bool (isDig c)) ∧ w' = w := by
  by_cases h1 : 48 ≤ (c.toNat : Int)
  · by_cases h2 : (c.toNat : Int) ≤ 57
    · have hd : isDig c = true := by unfold isDig; exact decide_eq_true ⟨h1, h2⟩
      rw [hd]
      clear hd
      go_enter Yba.func6, Yba.ntmps6
      go_wp2
      go_ret
      exact ⟨rfl, rfl⟩
    · have hd : isDig c = false := by unfold isDig; exact decide_eq_false (fun h => h2 h.2)
      rw [hd]
      clear hd
      go_enter Yba.func6, Yba.ntmps6
      go_wp2
      go_ret
      exact ⟨rfl, rfl⟩
  · have hd : isDig c = false := by unfold isDig; exact decide_eq_false (fun h => h1 h.1)
    rw [hd]
    clear hd
    go_enter Yba.func6, Yba.ntmps6
    go_wp2
    go_ret
    exact ⟨rfl, rfl⟩

set_option maxHeartbeats 400000 in
theorem leading_any (s : ByteArray) (w : World) (hs : s.size ≤ maxLen) :
    Calls Yba.prog 8 #[.string s] w fun e w' => e = .returned (.tuple #[.string (s.extract 0 (digN s.data.toList)), .string (s.extract (digN s.data.toList) s.size)]) ∧ ∃ n, w' = w.drewN n := by
  unfold maxLen at hs
  have hle := digN_le s.data.toList
  rw [← size_list] at hle
  go_enter Yba.func8, Yba.ntmps8
  go_wp2
  go_loop [4] (fun i => ∃ k : Nat, k ≤ digN s.data.toList ∧ i = .int .i64 k) (fun i => s.size - (intOf i).toNat)
  case atStart => exact ⟨0, Nat.zero_le _, rfl⟩
  case round =>
    obtain ⟨k, hk, rfl⟩ := hrel
    by_cases hlt : k < s.size
    · by_cases hd : 48 ≤ (s[k].toNat : Int) ∧ (s[k].toNat : Int) ≤ 57
      · have hup := digN_up s.data.toList k hk hlt (by unfold isDig; exact decide_eq_true hd)
        obtain ⟨hd1, hd2⟩ := hd
        go_wp2
        go_round
        case rel => exact ⟨k + 1, hup, by go_num⟩
        case measure => simp [intOf]; omega
      · have hke : k = digN s.data.toList := by
          by_cases he : k < digN s.data.toList
          · have := digN_at s.data.toList k he hlt
            unfold isDig at this
            exact absurd (of_decide_eq_true this) hd
          · omega
        have HK : Hid (k = digN s.data.toList) := hke
        clear hke
        by_cases hd1 : 48 ≤ (s[k].toNat : Int)
        · have hd2 : ¬ (s[k].toNat : Int) ≤ 57 := fun h => hd ⟨hd1, h⟩
          clear hd
          go_wp2
          go_quiet (fail)
          go_wp2
          go_ret2
          exact ⟨by rw [← HK.out]; rfl, _, rfl⟩
        · clear hd
          go_wp2
          go_quiet (fail)
          go_wp2
          go_ret2
          exact ⟨by rw [← HK.out]; rfl, _, rfl⟩
    · have hke : k = digN s.data.toList := by omega
      have HK : Hid (k = digN s.data.toList) := hke
      clear hke
      have hks : k ≤ s.size := by omega
      go_wp2
      go_quiet (fail)
      go_wp2
      go_ret2
      exact ⟨by rw [← HK.out]; rfl, _, rfl⟩

theorem cut_any (s : ByteArray) (w : World) (_hs : s.size ≤ maxLen) :
    Calls Yba.prog 7 #[.string s, .string ⟨#[45]⟩] w fun e w' => e = .returned (.tuple #[.string (s.extract (stOf s) s.size), .bool (negOf s)]) ∧ w' = w := by
  unfold maxLen at _hs
  go_enter Yba.func7, Yba.ntmps7
  go_wp2
  · have hn := cut_no s (by assumption)
    go_ret2
    refine ⟨?_, rfl⟩
    rw [stOf_no s hn, hn, extract_all]
    rfl
  · have hn := cut_yes s (by assumption)
    go_ret2
    refine ⟨?_, rfl⟩
    rw [stOf_yes s hn, hn]
    rfl
  · have hn := cut_short s (by assumption)
    go_ret2
    refine ⟨?_, rfl⟩
    rw [stOf_no s hn, hn, extract_all]
    rfl

theorem leading_tail (s : ByteArray) (w : World) (hs : s.size ≤ maxLen) :
    Calls Yba.prog 8 #[.string (s.extract (stOf s) s.size)] w fun e w' => e = .returned (.tuple #[.string (s.extract (stOf s) (enOf s)), .string (s.extract (enOf s) s.size)]) ∧ ∃ n, w' = w.drewN n := by
  have h := leading_any (s.extract (stOf s) s.size) w (by rw [tail_size]; omega)
  rw [mid_eq s, rest_eq s] at h
  exact h

theorem split_any (s : ByteArray) (w : World) (hs : s.size ≤ maxLen) :
    Calls Yba.prog 5 #[.string s] w fun e w' => e = .returned (.tuple #[.bool (negOf s), .string (s.extract (stOf s) (enOf s)), .string (s.extract (enOf s) s.size)]) ∧ ∃ n, w' = w.drewN n := by
  go_enter Yba.func5, Yba.ntmps5
  go_wp2_with (first
    | (go_at_call 7; refine (cut_any _ _ hs).mono ?_; rintro e w' ⟨rfl, rfl⟩)
    | (go_at_call 8; refine (leading_tail _ _ hs).mono ?_; rintro e w' ⟨rfl, n, rfl⟩))
  go_ret3
  exact ⟨rfl, _, rfl⟩

end Go.Proofs.Ybulkdgea
