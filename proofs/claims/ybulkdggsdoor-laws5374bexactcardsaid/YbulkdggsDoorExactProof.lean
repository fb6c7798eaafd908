/- The row of LawS5374BExact, and its tied card. The frame after the guide's Mapy example. -/
import Derived.Test.YbulkdggsDoorOpen
import Derived.Test.YbulkdggsDoorWhole
import Derived.Test.YbulkdggsDoorTie
import Derived.Test.YbulkdggsDoorCards
import Derived.SevenTiedAt
import Derived.ChangeOld
import Derived.OpenVars
import Derived.Lay
namespace Go.Proofs.YbulkdggsDoor.exact5374
open Go.ChangeShapes Go.WideShapes Go.ChangeAt Go.RowKit
set_option linter.unusedVariables false

theorem laidOut : laidOutB Ybad.prog = true := by kernel_rfl

theorem walk_any (zr za zb : List Int) (k t : Int) (v : Value) (p4 p6 : Addr) (w : World) (hG : Glob p4 p6 w) (hzr : zr.length = 8) (br : ∀ z ∈ zr, isB z) (hza : za.length = 4) (ba : ∀ z ∈ za, isB z) (hzb : zb.length = 16) (bb : ∀ z ∈ zb, isB z) (wk : (Lit.int .u8 k).wf = true) (wt : (Lit.int .u32 t).wf = true)
    (hv : v = .slice none 0 0 ∨ ∃ (a : Addr) (n cc : Nat) (ys : List Int), v = .slice (some a) n cc ∧ n ≤ cc ∧ cc ≤ maxLen ∧ ys.length = n * 8 ∧ (∀ y ∈ ys, isB y) ∧ ∀ j u, (cellsOf ys)[j]? = some u → w.cell? (a.add j) = some u) :
    Calls Ybad.prog 3 #[.agg (cellsOf zr).toArray, .int .u8 k, .agg (cellsOf za).toArray, .agg (cellsOf zb).toArray, .int .u32 t, v] w fun e w' => e = .returned (.bool true) ∧ Below w.heap.size w w' := by
  have hk : isB k := bounds_u8 wk
  have ht := bounds_u32 wt
  match zr, hzr with
  | [r0, r1, r2, r3, r4, r5, r6, r7], _ =>
    match za, hza with
    | [a, b, c, d], _ =>
      match zb, hzb with
      | [b0, b1, b2, b3, b4, b5, b6, b7, b8, b9, b10, b11, b12, b13, b14, b15], _ =>
        exact law_any r0 r1 r2 r3 r4 r5 r6 r7 k a b c d b0 b1 b2 b3 b4 b5 b6 b7 b8 b9 b10 b11 b12 b13 b14 b15 t v p4 p6 w hG (br _ (by simp)) (br _ (by simp)) (br _ (by simp)) (br _ (by simp)) (br _ (by simp)) (br _ (by simp)) (br _ (by simp)) (br _ (by simp)) hk (ba _ (by simp)) (ba _ (by simp)) (ba _ (by simp)) (ba _ (by simp)) (bb _ (by simp)) (bb _ (by simp)) (bb _ (by simp)) (bb _ (by simp)) (bb _ (by simp)) (bb _ (by simp)) (bb _ (by simp)) (bb _ (by simp)) (bb _ (by simp)) (bb _ (by simp)) (bb _ (by simp)) (bb _ (by simp)) (bb _ (by simp)) (bb _ (by simp)) (bb _ (by simp)) (bb _ (by simp)) ⟨ht.1, by omega⟩ hv

set_option maxRecDepth 100000 in
theorem lifted (os : Os) (started : os.Started) (H : Type) (enc : TypeId × Value → H) :
    ReturnsInHanded {} Ybad.checked os 3 .any (fun w args => (Rows.lawS5374BExactSpec.pre enc Ybad.prog Ybad.f3 [] false w args ∧ laidMetH Ybad.prog laid5 w) ∧ sizedMet enc Ybad.prog Ybad.f3 (OpenSpec.ofChange Rows.lawS5374BExactSpec) false w args)
      (Rows.lawS5374BExactSpec.post enc Ybad.prog Ybad.f3 false true false false) := by
  refine returnsInHanded_of_change_and (C := Ybad.checked) (X := fun w _ => laidMetH Ybad.prog laid5 w) (fun _ _ _ hh h => h.of_heap hh) own started (by kernel_rfl) Ybad.func3
    (ChangeSpec.witness_shaped (enc := enc) (C := Ybad.checked) (os := os) (X := fun w _ => laidMetH Ybad.prog laid5 w) false (World.laidAll Ybad.prog os laid5) #[.agg (Array.replicate 8 (.int .u8 0)), .int .u8 0, .agg (Array.replicate 4 (.int .u8 0)), .agg (Array.replicate 16 (.int .u8 0)), .int .u32 0, .slice none 0 0] 8 (World.laidAll_os _ _ _) (World.shaped_of_ZipB (by kernel_rfl) (by kernel_rfl)) (by kernel_rfl) (by kernel_rfl) (by kernel_rfl)
      (by rw [MakeChecks.laidMetH_plain _ _ _ (by kernel_rfl)]; exact laidMet_laidAll _ (by kernel_rfl) (by kernel_rfl))) ?_
  intro W base args ds gs before hval0 hW _ _ hL _
  have hval : ∀ (j : Nat) t v, Ybad.f3.params[j]? = some t → args[j]? = some v → Value.okWide Ybad.prog W .any base t v := hval0
  have hW' := hW
  obtain ⟨p, q, hA0, hV, rfl, hfz, hnd⟩ := hW
  have hA : DataW.TrodAll enc Ybad.prog W 0 (fun _ => true) true Ybad.f3.params.toList args.toList ds p := hA0
  rw [Ybad.params3] at hA hval
  obtain ⟨v0, vs0, d0, ds0, p0, q0, hargs, rfl, rfl, h0, r0⟩ := trodAll_cons hA
  obtain ⟨v1, vs1, d1, ds1, p1, q1, rfl, rfl, rfl, h1, r1⟩ := trodAll_cons r0
  obtain ⟨v2, vs2, d2, ds2, p2, q2, rfl, rfl, rfl, h2, r2⟩ := trodAll_cons r1
  obtain ⟨v3, vs3, d3, ds3, p3, q3, rfl, rfl, rfl, h3, r3⟩ := trodAll_cons r2
  obtain ⟨v4, vs4, d4, ds4, p4, q4, rfl, rfl, rfl, h4, r4⟩ := trodAll_cons r3
  obtain ⟨v5, vs5, d5, ds5, p5, q5, rfl, rfl, rfl, h5, r5⟩ := trodAll_cons r4
  obtain ⟨rfl, rfl, rfl⟩ := trodAll_nil r5
  obtain rfl : args = #[v0, v1, v2, v3, v4, v5] := by cases args; simp_all
  have k0 := h0
  have k1 := h1
  have k2 := h2
  have k3 := h3
  have k4 := h4
  have k5 := h5
  have hlt : ∀ x ∈ p0 ++ (p1 ++ (p2 ++ (p3 ++ (p4 ++ (p5 ++ []))))) ++ q, x.block < W.heap.size := fun x hx => by simpa using hW'.lt x hx
  obtain ⟨P4, P6, hG⟩ := glob_of_laid hL
  obtain ⟨zr, hzr, rfl, br⟩ := open_arr_arg Ybad.underlying22 (by kernel_rfl) (hval 0 22 v0 rfl rfl) h0
  obtain ⟨k, rfl, rfl, rfl, wk⟩ := open_int Ybad.underlying5 (hval 1 5 v1 rfl rfl) h1
  obtain ⟨za, hza, rfl, ba⟩ := open_arr_arg Ybad.underlying23 (by kernel_rfl) (hval 2 23 v2 rfl rfl) h2
  obtain ⟨zb, hzb, rfl, bb⟩ := open_arr_arg Ybad.underlying24 (by kernel_rfl) (hval 3 24 v3 rfl rfl) h3
  obtain ⟨t, rfl, rfl, rfl, wt⟩ := open_int Ybad.underlying25 (hval 4 25 v4 rfl rfl) h4
  have hc := open_comms (hval 5 26 v5 rfl rfl) h5
  have walk : Calls Ybad.prog 3 #[.agg (cellsOf zr).toArray, .int .u8 k, .agg (cellsOf za).toArray, .agg (cellsOf zb).toArray, .int .u32 t, v5] W fun e w' => e = .returned (.bool true) ∧ Below W.heap.size W w' :=
    walk_any zr za zb k t v5 P4 P6 W hG hzr br hza ba hzb bb wk wt hc
  clear hA0 hval0
  refine walk.mono fun e W' ⟨he, bel⟩ => ?_
  subst he
  obtain ⟨g1, g2, rfl⟩ : ∃ g1 g2, gs = [g1, g2] := by
    match gs, hV with
    | [g1, g2], _ => exact ⟨g1, g2, rfl⟩
  have hb0 := Below.trod laidOut (by kernel_rfl) (of_decide_eq_true (by kernel_rfl)) k0 bel (fun x hx => hlt x (by simp [hx]))
  have hb2 := Below.trod laidOut (by kernel_rfl) (of_decide_eq_true (by kernel_rfl)) k2 bel (fun x hx => hlt x (by simp [hx]))
  have hb3 := Below.trod laidOut (by kernel_rfl) (of_decide_eq_true (by kernel_rfl)) k3 bel (fun x hx => hlt x (by simp [hx]))
  have hb5 := Below.trod laidOut (by kernel_rfl) (of_decide_eq_true (by kernel_rfl)) k5 bel (fun x hx => hlt x (by simp [hx]))
  have hbv := Below.trodVars laidOut bel (by kernel_rfl) hV
  exact ⟨_, rfl, _, _, _, [], _, q, hW', trodAll_mk1 (shut_bool Ybad.underlying4 _), (trodAll_cons_mk hb0 (trodAll_cons_mk (shut_int Ybad.underlying5 wk) (trodAll_cons_mk hb2 (trodAll_cons_mk hb3 (trodAll_cons_mk (shut_int Ybad.underlying25 wt) (trodAll_cons_mk hb5 trodAll_mk0)))))), hbv, bel.frame _, fun h => by cases h⟩

theorem row_holds : Rows.LawS5374BExactSaid :=
  OpenClaim.holds_of_wide 3 Ybad.f3 rfl rfl rfl rfl rfl rfl rfl ⟨rfl, rfl, rfl, rfl, rfl⟩ rfl rfl rfl rfl rfl (by kernel_rfl) Ybad.func3 (by kernel_rfl)
    (of_decide_eq_true (by kernel_rfl)) (by unfold Func.isWrapper; first | (rw [if_pos (by decide +kernel)]; kernel_rfl) | (rw [if_neg (by decide +kernel)]; exact ⟨rfl, rfl⟩))
    (fun os started H enc _ => lifted os started H enc)

/-- ████ THE TIED CARD ████ -/
theorem proved : Rows.LawS5374BExactCardSaid :=
  Claim7.holds_tied_plain_at .later [] [.called, .called, .data, .data, .zero] true Rows.lawS5374BExactCard.stood.harness false
    row_holds (fun _ h => by cases h) (by kernel_rfl) (fun _ h => by cases h) lawS5374BExact_row_tie rfl ⟨rfl, rfl⟩ (by kernel_rfl) rfl
    (fun f fn hf hfn => by
      obtain rfl : f = 3 := Option.some.inj ((show Ybad.prog.funcNamed Rows.lawS5374BExactRow.func = some 3 by kernel_rfl).symm.trans hf) |>.symm
      obtain rfl : fn = Ybad.f3 := (Option.some.inj (Ybad.func3.symm.trans hfn)).symm
      exact ⟨by kernel_rfl, fun j t ht => by
        rw [Ybad.params3] at ht
        have hm : t ∈ [22, 5, 23, 24, 25, 26] := by simpa using Array.mem_of_getElem? ht
        have hall : ([22, 5, 23, 24, 25, 26].all fun u => !Ybad.prog.wantsStandIn u) = true := by kernel_rfl
        exact (show Ybad.prog.wantsStandIn t = false by simpa using List.all_eq_true.1 hall t hm)⟩)
    (by kernel_rfl)
#print axioms proved
end Go.Proofs.YbulkdggsDoor.exact5374
