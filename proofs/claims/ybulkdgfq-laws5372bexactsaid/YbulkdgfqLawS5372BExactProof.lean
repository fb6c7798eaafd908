/- The proof of 'Rows.LawS5372BExactSaid': the frame after the guide's shell tool (its last step turned to 'Below': the conversion to bytes marks a new cell, which 'Grown' does not let); the walk is ours. -/
import Derived.Test.YbulkdgfqRows
import Derived.WalkKit
import Derived.ProofKit
import Derived.OpenShut
import Derived.ShutString
import Derived.ChangeOld
import Derived.Below
import Derived.Test.YbulkdgfqWalks
import Derived.Lib.Hide
namespace Go.Proofs.Ybulkdgfq.lawS5372BExact
open Go.ChangeShapes Go.WideShapes Go.ChangeAt Go.RowKit
open Go.ChangeMaps (open_string shut_string)
set_option linter.unusedVariables false      -- a walk need not use every 'w<i>' (that an integer argument fits its kind)

theorem own : ownKnob Yba.prog.godebug = none := by kernel_rfl

/-! ### THE WALK -/
theorem cap_want (s : ByteArray) (k : Nat) (h : k < s.size) (h' : k < (upS s).size) (x : Int) (hx : upI (s[k].toNat : Int) = x) : ((((upS s)[k]).toNat : Int) != x) = false := by
  rw [upS_at s k h h', hx]
  simp

theorem capitals_some (s : ByteArray) (w : World) (hs : s.size ≤ maxLen) :
    Calls Yba.prog 5 #[.string s] w fun e w' => ∃ t : ByteArray, e = .returned (.string t) ∧ t.size = s.size ∧ (∀ (k : Nat) (h : k < s.size) (h' : k < t.size) (x : Int), upI (s[k].toNat : Int) = x → ((t[k].toNat : Int) != x) = false) ∧ Below w.heap.size w w' := by
  refine (capitals_any s w hs).mono ?_
  rintro e w' ⟨rfl, hb⟩
  exact ⟨_, rfl, upS_size s, fun k h h' x hx => cap_want s k h h' x hx, hb⟩

set_option maxHeartbeats 1000000 in
theorem walk (a0 : ByteArray) (w0 : a0.size ≤ maxLen) (w : World) :
    Calls Yba.prog 3 #[.string a0] w fun e w' => e = .returned (.bool true) ∧ Below w.heap.size w w' := by
  have wm := w0
  unfold maxLen at wm
  by_cases hbig : 4096 < (a0.size : Int)
  · go_enter Yba.func3, Yba.ntmps3
    go_wp2_with fail
    go_ret
    exact ⟨rfl, Below.refl _ _⟩
  · have hcap := fun W => capitals_some a0 W w0
    have HC := Lib.hid hcap
    clear hcap w0
    go_enter Yba.func3, Yba.ntmps3
    go_wp2_with (go_at_call 5; refine (HC.out _).mono ?_; rintro e w' ⟨t, rfl, hsz, hat, hb⟩; refine Hid.out ?_)
    refine Lib.hid ?_
    have HA := Lib.hid hat
    have HB := Lib.hid hb
    clear hat hb HC
    have HZ := Lib.hid hsz
    have hne : ((t.size : Int) != (a0.size : Int)) = false := by rw [hsz]; simp
    clear hsz
    go_wp2
    clear hne
    go_loop [4] (fun i => ∃ k : Nat, k ≤ a0.size ∧ i = .int .i64 k) (fun i => a0.size - (intOf i).toNat)
    case atStart => exact ⟨0, Nat.zero_le _, rfl⟩
    case round =>
      obtain ⟨k, hk, rfl⟩ := hrel
      by_cases hlt : k < a0.size
      · have hlt2 : k < t.size := by rw [HZ.out]; exact hlt
        have hbd := a0[k].toNat_lt
        have hA := HA.out k hlt hlt2
        by_cases h1 : 97 ≤ (a0[k].toNat : Int)
        · by_cases h2 : (a0[k].toNat : Int) ≤ 122
          · have hw := hA ((a0[k].toNat : Int) - 32) (by unfold upI; rw [if_pos ⟨h1, h2⟩])
            clear hA
            go_wp2
            go_round
            case rel => exact ⟨k + 1, by omega, by go_num⟩
            case measure => simp [intOf]; omega
          · have hw := hA (a0[k].toNat : Int) (by unfold upI; rw [if_neg (by omega)])
            clear hA
            go_wp2
            go_round
            case rel => exact ⟨k + 1, by omega, by go_num⟩
            case measure => simp [intOf]; omega
        · have hw := hA (a0[k].toNat : Int) (by unfold upI; rw [if_neg (by omega)])
          clear hA
          go_wp2
          go_round
          case rel => exact ⟨k + 1, by omega, by go_num⟩
          case measure => simp [intOf]; omega
      · go_wp2
        go_ret
        exact ⟨rfl, HB.out⟩

/-! ### THE ROW's STEP: WRITTEN OUT: LEAVE IT -/
set_option maxRecDepth 100000 in
theorem lifted (os : Os) (started : os.Started) (H : Type) (enc : TypeId × Value → H) :
    ReturnsInHanded {} Yba.checked os 3 .any (Rows.lawS5372BExactSpec.pre6 enc Yba.prog Yba.f3 Rows.lawS5372BExactRow.domain false) (Rows.lawS5372BExactSpec.post enc Yba.prog Yba.f3 false true false false) := by
  refine returnsInHanded_of_change (C := Yba.checked) own started (by kernel_rfl) Yba.func3
    (ChangeSpec.witness6 (enc := enc) (C := Yba.checked) false ⟨#[], #[.string ByteArray.empty], []⟩ 8 (by kernel_rfl) (by kernel_rfl) (by kernel_rfl) (by kernel_rfl)) ?_
  intro W base args ds gs before hval0 hW hcnd _
  have hval : ∀ (j : Nat) t v, Yba.f3.params[j]? = some t → args[j]? = some v → Value.okWide Yba.prog W .any base t v := hval0
  have hW' := hW
  obtain ⟨p, q, hA0, hV, rfl, hfz, hnd⟩ := hW
  have hA : DataW.TrodAll enc Yba.prog W 0 (fun _ => true) true Yba.f3.params.toList args.toList ds p := hA0
  rw [Yba.params3] at hA hval
  obtain ⟨v0, vs0, d0, ds0, p0, q0, hargs, rfl, rfl, h0, r0⟩ := trodAll_cons hA
  obtain ⟨rfl, rfl, rfl⟩ := trodAll_nil r0
  obtain rfl : args = #[v0] := by cases args; simp_all
  obtain ⟨rfl, rfl⟩ := trodVars_none hV
  obtain ⟨a0, rfl, rfl, rfl, w0⟩ := open_string Yba.underlying9 (hval 0 9 v0 rfl rfl) h0
  clear hA0 hval0
  refine (walk a0 w0 W).mono fun e W' ⟨he, bel⟩ => ?_
  subst he
  exact ⟨_, rfl, _, _, _, [], _, [], hW', trodAll_mk1 (shut_bool Yba.underlying4 _), (trodAll_cons_mk (shut_string Yba.underlying9 w0) trodAll_mk0), rfl, bel.frame _, fun h => by cases h⟩

theorem over : Rows.lawS5372BExactRow.holds Yba.pinned (OpenSpec.ofChange Rows.lawS5372BExactSpec) :=
  OpenClaim.holds_of_wide 3 Yba.f3 rfl rfl rfl rfl rfl rfl rfl ⟨rfl, rfl, rfl, rfl, rfl⟩ rfl rfl rfl rfl rfl (by kernel_rfl) Yba.func3 (by kernel_rfl)
    (of_decide_eq_true (by kernel_rfl)) (by unfold Func.isWrapper; first | (rw [if_pos (by decide +kernel)]; kernel_rfl) | (rw [if_neg (by decide +kernel)]; exact ⟨rfl, rfl⟩))
    (fun os started H enc _ => lifted os started H enc)

/-- ████ THE STATEMENT ████ -/
theorem proved : Rows.LawS5372BExactSaid :=
  over
#print axioms proved
end Go.Proofs.Ybulkdgfq.lawS5372BExact
