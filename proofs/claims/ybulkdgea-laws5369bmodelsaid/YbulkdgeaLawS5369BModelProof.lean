/- The proof of 'Rows.LawS5369BModelSaid': the frame by the guide's shell tool; the walk is ours. -/
import Derived.Test.YbulkdgeaRows
import Derived.WalkKit
import Derived.ProofKit
import Derived.OpenShut
import Derived.ShutString
import Derived.Test.YbulkdgeaWalks
import Derived.Lib.Hide
namespace Go.Proofs.Ybulkdgea.lawS5369BModel
open Go.ChangeShapes Go.WideShapes Go.ChangeAt Go.RowKit
open Go.ChangeMaps (open_string shut_string)
set_option linter.unusedVariables false      -- a walk need not use every 'w<i>' (that an integer argument fits its kind)

theorem own : ownKnob Yba.prog.godebug = none := by kernel_rfl

/-! ### STEP 1: THE WALK: the Go text returns true. 'Grown w w'': the world has at most new blocks (Derived/RowKit3.lean). Part the cases AHEAD of 'go_enter' where a test parts the walk; take each callee by a contract of your own. -/
theorem grown_drewN (w : World) (n : Nat) : Grown w (w.drewN n) := Grown.refl w

theorem first_eq (s : ByteArray) (h : 0 < s.size) (hn : negOf s = true) : ((s[0].toNat : Int) == 45) = true := by
  rw [negOf_first s h] at hn
  have : s[0] = 45 := by simpa using hn
  rw [this]
  rfl
theorem first_ne (s : ByteArray) (h : 0 < s.size) (hn : negOf s = false) : ((s[0].toNat : Int) == 45) = false := by
  rw [negOf_first s h] at hn
  have h1 : s[0] ≠ 45 := by simpa using hn
  have h2 : s[0].toNat ≠ 45 := fun e => h1 (UInt8.toNat_inj.mp e)
  rw [beq_eq_false_iff_ne]
  omega

set_option maxHeartbeats 1000000 in
theorem walk (a0 : ByteArray) (w0 : a0.size ≤ maxLen) (w : World) :
    Calls Yba.prog 3 #[.string a0] w fun e w' => e = .returned (.bool true) ∧ Grown w w' := by
  have wm := w0
  unfold maxLen at wm
  by_cases hbig : 1048576 < (a0.size : Int)
  · go_enter Yba.func3, Yba.ntmps3
    go_wp2_with fail
    go_ret
    exact ⟨rfl, Grown.refl _⟩
  · have hle := enOf_le a0
    have hse := stOf_le_enOf a0
    have hsplit := fun W => split_any a0 W w0
    by_cases hn : negOf a0 = true
    · have hst := stOf_yes a0 hn
      have hst1 := stOf_le a0
      have hpos : 0 < a0.size := by omega
      have hf := first_eq a0 hpos hn
      have ups := fun k => en_up a0 k
      have stops := fun k => en_stop a0 k
      have ends := fun k => en_stop_end a0 k
      rw [hn] at hsplit
      rw [hst] at hsplit hse ups stops
      clear hn hst hst1
      have HS := Lib.hid hsplit
      have HU := Lib.hid ups
      have HT := Lib.hid stops
      have HE := Lib.hid ends
      clear hsplit ups stops ends w0
      go_enter Yba.func3, Yba.ntmps3
      go_wp2_with (go_at_call 5; refine (HS.out _).mono ?_; rintro e w' ⟨rfl, n, rfl⟩)
      go_loop [8] (fun i => ∃ k : Nat, 1 ≤ k ∧ k ≤ enOf a0 ∧ i = .int .i64 k) (fun i => a0.size - (intOf i).toNat)
      case atStart => exact ⟨1, by omega, hse, rfl⟩
      case round =>
        obtain ⟨k, hk1, hk, rfl⟩ := hrel
        by_cases hlt : k < a0.size
        · by_cases hd : isDig a0[k] = true
          · have hup := HU.out k hk1 hk hlt hd
            have hdc := digit_any a0[k]
            rw [hd] at hdc
            clear hd
            go_wp2_with (go_at_call 6; refine (hdc _).mono ?_; rintro e w' ⟨rfl, rfl⟩)
            go_round
            case rel => exact ⟨k + 1, by omega, hup, by go_num⟩
            case measure => simp [intOf]; omega
          · have hd : isDig a0[k] = false := by simpa using hd
            have hke := HT.out k hk1 hk hlt hd
            have hdc := digit_any a0[k]
            rw [hd] at hdc
            clear hd
            subst hke
            go_wp2_with (go_at_call 6; refine (hdc _).mono ?_; rintro e w' ⟨rfl, rfl⟩)
            go_ret
            exact ⟨rfl, grown_drewN _ _⟩
        · have hke := HE.out k hk hlt
          subst hke
          go_wp2_with fail
          go_ret
          exact ⟨rfl, grown_drewN _ _⟩
    · have hn : negOf a0 = false := by simpa using hn
      have hst := stOf_no a0 hn
      have ups := fun k => en_up a0 k
      have stops := fun k => en_stop a0 k
      have ends := fun k => en_stop_end a0 k
      rw [hn] at hsplit
      rw [hst] at hsplit hse ups stops
      clear hst
      have HS := Lib.hid hsplit
      have HU := Lib.hid ups
      have HT := Lib.hid stops
      have HE := Lib.hid ends
      clear hsplit ups stops ends w0
      by_cases hpos : 0 < a0.size
      · have hf := first_ne a0 hpos hn
        clear hn
        go_enter Yba.func3, Yba.ntmps3
        go_wp2_with (go_at_call 5; refine (HS.out _).mono ?_; rintro e w' ⟨rfl, n, rfl⟩)
        go_loop [8] (fun i => ∃ k : Nat, 0 ≤ k ∧ k ≤ enOf a0 ∧ i = .int .i64 k) (fun i => a0.size - (intOf i).toNat)
        case atStart => exact ⟨0, by omega, hse, rfl⟩
        case round =>
          obtain ⟨k, hk1, hk, rfl⟩ := hrel
          by_cases hlt : k < a0.size
          · by_cases hd : isDig a0[k] = true
            · have hup := HU.out k hk1 hk hlt hd
              have hdc := digit_any a0[k]
              rw [hd] at hdc
              clear hd
              go_wp2_with (go_at_call 6; refine (hdc _).mono ?_; rintro e w' ⟨rfl, rfl⟩)
              go_round
              case rel => exact ⟨k + 1, by omega, hup, by go_num⟩
              case measure => simp [intOf]; omega
            · have hd : isDig a0[k] = false := by simpa using hd
              have hke := HT.out k hk1 hk hlt hd
              have hdc := digit_any a0[k]
              rw [hd] at hdc
              clear hd
              subst hke
              go_wp2_with (go_at_call 6; refine (hdc _).mono ?_; rintro e w' ⟨rfl, rfl⟩)
              go_ret
              exact ⟨rfl, grown_drewN _ _⟩
          · have hke := HE.out k hk hlt
            subst hke
            go_wp2_with fail
            go_ret
            exact ⟨rfl, grown_drewN _ _⟩
      · clear hn
        go_enter Yba.func3, Yba.ntmps3
        go_wp2_with (go_at_call 5; refine (HS.out _).mono ?_; rintro e w' ⟨rfl, n, rfl⟩)
        go_loop [8] (fun i => ∃ k : Nat, 0 ≤ k ∧ k ≤ enOf a0 ∧ i = .int .i64 k) (fun i => a0.size - (intOf i).toNat)
        case atStart => exact ⟨0, by omega, hse, rfl⟩
        case round =>
          obtain ⟨k, hk1, hk, rfl⟩ := hrel
          by_cases hlt : k < a0.size
          · by_cases hd : isDig a0[k] = true
            · have hup := HU.out k hk1 hk hlt hd
              have hdc := digit_any a0[k]
              rw [hd] at hdc
              clear hd
              go_wp2_with (go_at_call 6; refine (hdc _).mono ?_; rintro e w' ⟨rfl, rfl⟩)
              go_round
              case rel => exact ⟨k + 1, by omega, hup, by go_num⟩
              case measure => simp [intOf]; omega
            · have hd : isDig a0[k] = false := by simpa using hd
              have hke := HT.out k hk1 hk hlt hd
              have hdc := digit_any a0[k]
              rw [hd] at hdc
              clear hd
              subst hke
              go_wp2_with (go_at_call 6; refine (hdc _).mono ?_; rintro e w' ⟨rfl, rfl⟩)
              go_ret
              exact ⟨rfl, grown_drewN _ _⟩
          · have hke := HE.out k hk hlt
            subst hke
            go_wp2_with fail
            go_ret
            exact ⟨rfl, grown_drewN _ _⟩

/-! ### THE ROW's STEP: WRITTEN OUT: LEAVE IT -/
set_option maxRecDepth 100000 in
theorem lifted (os : Os) (started : os.Started) (H : Type) (enc : TypeId × Value → H) :
    ReturnsInHanded {} Yba.checked os 3 .any (Rows.lawS5369BModelSpec.pre6 enc Yba.prog Yba.f3 Rows.lawS5369BModelRow.domain false) (Rows.lawS5369BModelSpec.post enc Yba.prog Yba.f3 false true false false) := by
  refine returnsInHanded_of_change (C := Yba.checked) own started (by kernel_rfl) Yba.func3
    (ChangeSpec.witness6 (enc := enc) (C := Yba.checked) false ⟨#[], #[.string ByteArray.empty], []⟩ 8 (by kernel_rfl) (by kernel_rfl) (by kernel_rfl) (by kernel_rfl)) ?_
  intro W base args ds gs before hval0 hW hcnd _
  have hval : ∀ (j : Nat) t v, Yba.f3.params[j]? = some t → args[j]? = some v → Value.okWide Yba.prog W .any base t v := hval0
  have hW' := hW
  obtain ⟨p, q, hA0, hV, rfl, hfz, hnd⟩ := hW
  have hA : DataW.TrodAll enc Yba.prog W 0 (fun _ => true) true Yba.f3.params.toList args.toList ds p := hA0
  rw [Yba.params3] at hA hval
  obtain ⟨v0, vs0, d0, ds0, p0, q0, hargs, rfl, rfl, h0, r0⟩ := trodAll_cons hA
  obtain ⟨rfl, rfl, rfl⟩ := trodAll_nil r0
  obtain rfl : args = #[v0] := by cases args; simp_all
  obtain ⟨rfl, rfl⟩ := trodVars_none hV
  obtain ⟨a0, rfl, rfl, rfl, w0⟩ := open_string Yba.underlying9 (hval 0 9 v0 rfl rfl) h0
  clear hA0 hval0
  simp only [List.append_nil] at hW'
  refine (walk a0 w0 W).mono fun e W' ⟨he, hg⟩ => ?_
  subst he
  exact ⟨_, rfl, post_of_same (pa := []) (pv := []) hW' (fun _ _ _ => (trodAll_cons_mk (shut_bool Yba.underlying4 _) trodAll_mk0)) (fun sp _ => (trodAll_cons_mk (shut_string Yba.underlying9 w0) trodAll_mk0)) (fun _ _ => rfl) rfl
    (hg.frame _) hg.2.1 (ok_one (by kernel_rfl) rfl (okWide_bool_mk Yba.underlying4 _))⟩

theorem over : Rows.lawS5369BModelRow.holds Yba.pinned (OpenSpec.ofChange Rows.lawS5369BModelSpec) :=
  OpenClaim.holds_of_wide 3 Yba.f3 rfl rfl rfl rfl rfl rfl rfl ⟨rfl, rfl, rfl, rfl, rfl⟩ rfl rfl rfl rfl rfl (by kernel_rfl) Yba.func3 (by kernel_rfl)
    (of_decide_eq_true (by kernel_rfl)) (by unfold Func.isWrapper; first | (rw [if_pos (by decide +kernel)]; kernel_rfl) | (rw [if_neg (by decide +kernel)]; exact ⟨rfl, rfl⟩))
    (fun os started H enc _ => lifted os started H enc)

/-- ████ THE STATEMENT ████ -/
theorem proved : Rows.LawS5369BModelSaid :=
  over
#print axioms proved
end Go.Proofs.Ybulkdgea.lawS5369BModel
