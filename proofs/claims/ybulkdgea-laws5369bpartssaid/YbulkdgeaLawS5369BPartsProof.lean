/- The proof of 'Rows.LawS5369BPartsSaid': the frame by the guide's shell tool; the walk is ours. -/
import Derived.Test.YbulkdgeaRows
import Derived.WalkKit
import Derived.ProofKit
import Derived.OpenShut
import Derived.ShutString
import Derived.Test.YbulkdgeaWalks
import Derived.Lib.Hide
namespace Go.Proofs.Ybulkdgea.lawS5369BParts
open Go.ChangeShapes Go.WideShapes Go.ChangeAt Go.RowKit
open Go.ChangeMaps (open_string shut_string)
set_option linter.unusedVariables false      -- a walk need not use every 'w<i>' (that an integer argument fits its kind)

theorem own : ownKnob Yba.prog.godebug = none := by kernel_rfl

/-! ### STEP 1: THE WALK: the Go text returns true. 'Grown w w'': the world has at most new blocks (Derived/RowKit3.lean). Part the cases AHEAD of 'go_enter' where a test parts the walk; take each callee by a contract of your own. -/
theorem grown_drewN (w : World) (n : Nat) : Grown w (w.drewN n) := Grown.refl w

theorem append_list (a b : ByteArray) : (a ++ b).data.toList = a.data.toList ++ b.data.toList := by
  simp
theorem two_parts (l : List UInt8) (a b : Nat) (h : a ≤ b) : (l.drop a).take (b - a) ++ l.drop b = l.drop a := by
  have h1 := List.take_append_drop (b - a) (l.drop a)
  rw [List.drop_drop, show a + (b - a) = b from by omega] at h1
  exact h1
theorem parts_list (s : ByteArray) : (s.extract (stOf s) (enOf s)).data.toList ++ (s.extract (enOf s) s.size).data.toList = s.data.toList.drop (stOf s) := by
  rw [extract_list, tail_list]
  exact two_parts _ _ _ (stOf_le_enOf s)
theorem joined (s : ByteArray) (hn : negOf s = true) : (⟨#[45]⟩ ++ s.extract (stOf s) (enOf s) ++ s.extract (enOf s) s.size : ByteArray) = s := by
  apply byteArray_ext
  rw [append_list, append_list, List.append_assoc, parts_list, stOf_yes s hn]
  unfold negOf at hn
  cases hl : s.data.toList with
  | nil => rw [hl] at hn; simp at hn
  | cons c l =>
    rw [hl] at hn
    have hc : c = 45 := by simpa using hn
    rw [hc]
    rfl
theorem joined0 (s : ByteArray) (hn : negOf s = false) : (⟨#[]⟩ ++ s.extract (stOf s) (enOf s) ++ s.extract (enOf s) s.size : ByteArray) = s := by
  apply byteArray_ext
  rw [append_list, append_list, List.append_assoc, parts_list, stOf_no s hn]
  rfl
theorem extract_size (s : ByteArray) (a b : Nat) (h : b ≤ s.size) : (s.extract a b).size = b - a := by
  rw [size_list, extract_list, List.length_take, List.length_drop, ← size_list]
  omega
theorem extract_at (s : ByteArray) (a b k : Nat) (hb : b ≤ s.size) (h : k < (s.extract a b).size) (h2 : a + k < s.size) : (s.extract a b)[k] = s[a + k] := by
  have hk := h
  rw [extract_size s a b hb] at hk
  rw [at_list, at_list]
  have e := extract_list s a b
  have e2 : (s.extract a b).data.toList[k]? = s.data.toList[a + k]? := by
    rw [e, List.getElem?_take, if_pos (by omega), List.getElem?_drop]
  rw [List.getElem?_eq_getElem (by rw [← size_list]; exact h), List.getElem?_eq_getElem (by rw [← size_list]; exact h2)] at e2
  exact Option.some.inj e2
theorem mid_digits (s : ByteArray) (k : Nat) (h : k < (s.extract (stOf s) (enOf s)).size) : isDig (s.extract (stOf s) (enOf s))[k] = true := by
  have hk := h
  have hle := enOf_le s
  rw [extract_size s _ _ hle] at hk
  rw [extract_at s _ _ k hle h (by omega)]
  exact en_at s _ (by omega) (by omega) _
theorem rest_digit (s : ByteArray) (h : 0 < (s.extract (enOf s) s.size).size) : isDig (s.extract (enOf s) s.size)[0] = false := by
  have hk := h
  rw [extract_size s _ _ (Nat.le_refl _)] at hk
  rw [extract_at s _ _ 0 (Nat.le_refl _) h (by omega)]
  exact en_not s (by omega)
theorem piece_le (s : ByteArray) (a b : Nat) : (s.extract a b).size ≤ s.size := by
  rw [size_list, extract_list, List.length_take, List.length_drop, ← size_list]
  omega

theorem split_yes (s : ByteArray) (w : World) (hs : s.size ≤ maxLen) (hn : negOf s = true) :
    Calls Yba.prog 5 #[.string s] w fun e w' => ∃ t r : ByteArray, e = .returned (.tuple #[.bool true, .string t, .string r]) ∧ (⟨#[45]⟩ ++ t ++ r : ByteArray) = s ∧ (∀ (k : Nat) (h : k < t.size), isDig t[k] = true) ∧ (∀ h : 0 < r.size, isDig r[0] = false) ∧ t.size ≤ s.size ∧ r.size ≤ s.size ∧ ∃ n, w' = w.drewN n := by
  refine (split_any s w hs).mono ?_
  rintro e w' ⟨rfl, n, rfl⟩
  exact ⟨_, _, by rw [hn], joined s hn, mid_digits s, rest_digit s, piece_le s _ _, piece_le s _ _, n, rfl⟩
theorem split_no (s : ByteArray) (w : World) (hs : s.size ≤ maxLen) (hn : negOf s = false) :
    Calls Yba.prog 5 #[.string s] w fun e w' => ∃ t r : ByteArray, e = .returned (.tuple #[.bool false, .string t, .string r]) ∧ (⟨#[]⟩ ++ t ++ r : ByteArray) = s ∧ (∀ (k : Nat) (h : k < t.size), isDig t[k] = true) ∧ (∀ h : 0 < r.size, isDig r[0] = false) ∧ t.size ≤ s.size ∧ r.size ≤ s.size ∧ ∃ n, w' = w.drewN n := by
  refine (split_any s w hs).mono ?_
  rintro e w' ⟨rfl, n, rfl⟩
  exact ⟨_, _, by rw [hn], joined0 s hn, mid_digits s, rest_digit s, piece_le s _ _, piece_le s _ _, n, rfl⟩

set_option maxHeartbeats 1000000 in
theorem walk (a0 : ByteArray) (w0 : a0.size ≤ maxLen) (w : World) :
    Calls Yba.prog 4 #[.string a0] w fun e w' => e = .returned (.bool true) ∧ Grown w w' := by
  have wm := w0
  unfold maxLen at wm
  by_cases hbig : 1048576 < (a0.size : Int)
  · go_enter Yba.func4, Yba.ntmps4
    go_wp2_with fail
    go_ret
    exact ⟨rfl, Grown.refl _⟩
  · by_cases hn : negOf a0 = true
    · have hsplit := fun W => split_yes a0 W w0 hn
      have HS := Lib.hid hsplit
      clear hsplit hn w0
      go_enter Yba.func4, Yba.ntmps4
      go_wp2_with (go_at_call 5; refine (HS.out _).mono ?_; rintro e w' ⟨t, r, rfl, hj, ht, hr, htm, hrm, n, rfl⟩; refine Hid.out ?_)
      refine Lib.hid ?_
      have htb : t.size ≤ 1048576 := by omega
      have hrb : r.size ≤ 1048576 := by omega
      clear htm hrm
      have hjt : ((⟨#[45]⟩ ++ t ++ r : ByteArray).toList == a0.toList) = true := by rw [hj]; exact beq_self_eq_true _
      have HT := Lib.hid ht
      have HR := Lib.hid hr
      clear hj ht hr HS
      go_wp2
      clear hjt
      go_loop [7] (fun i => ∃ k : Nat, k ≤ t.size ∧ i = .int .i64 k) (fun i => t.size - (intOf i).toNat)
      case atStart => exact ⟨0, Nat.zero_le _, rfl⟩
      case round =>
        obtain ⟨k, hk, rfl⟩ := hrel
        by_cases hlt : k < t.size
        · have hdc := digit_any t[k]
          rw [HT.out k hlt] at hdc
          go_wp2_with (go_at_call 6; refine (hdc _).mono ?_; rintro e w' ⟨rfl, rfl⟩)
          go_round
          case rel => exact ⟨k + 1, by omega, by go_num⟩
          case measure => simp [intOf]; omega
        · by_cases hpos : 0 < r.size
          · have hdc := digit_any r[0]
            rw [HR.out hpos] at hdc
            go_wp2_with (go_at_call 6; refine (hdc _).mono ?_; rintro e w' ⟨rfl, rfl⟩)
            go_ret
            exact ⟨rfl, grown_drewN _ _⟩
          · go_wp2_with fail
            go_ret
            exact ⟨rfl, grown_drewN _ _⟩
    · have hn : negOf a0 = false := by simpa using hn
      have hsplit := fun W => split_no a0 W w0 hn
      have HS := Lib.hid hsplit
      clear hsplit hn w0
      go_enter Yba.func4, Yba.ntmps4
      go_wp2_with (go_at_call 5; refine (HS.out _).mono ?_; rintro e w' ⟨t, r, rfl, hj, ht, hr, htm, hrm, n, rfl⟩; refine Hid.out ?_)
      refine Lib.hid ?_
      have htb : t.size ≤ 1048576 := by omega
      have hrb : r.size ≤ 1048576 := by omega
      clear htm hrm
      have hjt : ((⟨#[]⟩ ++ t ++ r : ByteArray).toList == a0.toList) = true := by rw [hj]; exact beq_self_eq_true _
      have HT := Lib.hid ht
      have HR := Lib.hid hr
      clear hj ht hr HS
      go_wp2
      clear hjt
      go_loop [7] (fun i => ∃ k : Nat, k ≤ t.size ∧ i = .int .i64 k) (fun i => t.size - (intOf i).toNat)
      case atStart => exact ⟨0, Nat.zero_le _, rfl⟩
      case round =>
        obtain ⟨k, hk, rfl⟩ := hrel
        by_cases hlt : k < t.size
        · have hdc := digit_any t[k]
          rw [HT.out k hlt] at hdc
          go_wp2_with (go_at_call 6; refine (hdc _).mono ?_; rintro e w' ⟨rfl, rfl⟩)
          go_round
          case rel => exact ⟨k + 1, by omega, by go_num⟩
          case measure => simp [intOf]; omega
        · by_cases hpos : 0 < r.size
          · have hdc := digit_any r[0]
            rw [HR.out hpos] at hdc
            go_wp2_with (go_at_call 6; refine (hdc _).mono ?_; rintro e w' ⟨rfl, rfl⟩)
            go_ret
            exact ⟨rfl, grown_drewN _ _⟩
          · go_wp2_with fail
            go_ret
            exact ⟨rfl, grown_drewN _ _⟩

/-! ### THE ROW's STEP: WRITTEN OUT: LEAVE IT -/
set_option maxRecDepth 100000 in
theorem lifted (os : Os) (started : os.Started) (H : Type) (enc : TypeId × Value → H) :
    ReturnsInHanded {} Yba.checked os 4 .any (Rows.lawS5369BPartsSpec.pre6 enc Yba.prog Yba.f4 Rows.lawS5369BPartsRow.domain false) (Rows.lawS5369BPartsSpec.post enc Yba.prog Yba.f4 false true false false) := by
  refine returnsInHanded_of_change (C := Yba.checked) own started (by kernel_rfl) Yba.func4
    (ChangeSpec.witness6 (enc := enc) (C := Yba.checked) false ⟨#[], #[.string ByteArray.empty], []⟩ 8 (by kernel_rfl) (by kernel_rfl) (by kernel_rfl) (by kernel_rfl)) ?_
  intro W base args ds gs before hval0 hW hcnd _
  have hval : ∀ (j : Nat) t v, Yba.f4.params[j]? = some t → args[j]? = some v → Value.okWide Yba.prog W .any base t v := hval0
  have hW' := hW
  obtain ⟨p, q, hA0, hV, rfl, hfz, hnd⟩ := hW
  have hA : DataW.TrodAll enc Yba.prog W 0 (fun _ => true) true Yba.f4.params.toList args.toList ds p := hA0
  rw [Yba.params4] at hA hval
  obtain ⟨v0, vs0, d0, ds0, p0, q0, hargs, rfl, rfl, h0, r0⟩ := trodAll_cons hA
  obtain ⟨rfl, rfl, rfl⟩ := trodAll_nil r0
  obtain rfl : args = #[v0] := by cases args; simp_all
  obtain ⟨rfl, rfl⟩ := trodVars_none hV
  obtain ⟨a0, rfl, rfl, rfl, w0⟩ := open_string Yba.underlying9 (hval 0 9 v0 rfl rfl) h0
  clear hA0 hval0
  simp only [List.append_nil] at hW'
  refine (walk a0 w0 W).mono fun e W' ⟨he, hg⟩ => ?_
  subst he
  exact ⟨_, rfl, post_of_same (pa := []) (pv := []) hW' (fun _ _ _ => (trodAll_cons_mk (shut_bool Yba.underlying4 _) trodAll_mk0)) (fun sp _ => (trodAll_cons_mk (shut_string Yba.underlying9 w0) trodAll_mk0)) (fun _ _ => rfl) rfl
    (hg.frame _) hg.2.1 (ok_one (by kernel_rfl) rfl (okWide_bool_mk Yba.underlying4 _))⟩

theorem over : Rows.lawS5369BPartsRow.holds Yba.pinned (OpenSpec.ofChange Rows.lawS5369BPartsSpec) :=
  OpenClaim.holds_of_wide 4 Yba.f4 rfl rfl rfl rfl rfl rfl rfl ⟨rfl, rfl, rfl, rfl, rfl⟩ rfl rfl rfl rfl rfl (by kernel_rfl) Yba.func4 (by kernel_rfl)
    (of_decide_eq_true (by kernel_rfl)) (by unfold Func.isWrapper; first | (rw [if_pos (by decide +kernel)]; kernel_rfl) | (rw [if_neg (by decide +kernel)]; exact ⟨rfl, rfl⟩))
    (fun os started H enc _ => lifted os started H enc)

/-- ████ THE STATEMENT ████ -/
theorem proved : Rows.LawS5369BPartsSaid :=
  over
#print axioms proved
end Go.Proofs.Ybulkdgea.lawS5369BParts
