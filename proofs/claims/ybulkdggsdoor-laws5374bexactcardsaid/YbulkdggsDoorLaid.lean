/- What the rows' listed variables give the walks; the witness's start. After the guide's Mapy example. -/
import Derived.Test.YbulkdggsDoorRows
import Derived.Test.YbulkdggsDoorAddr
import Derived.ProofKit
import Derived.LaidMore
import Derived.OpenShut
import Derived.Stop.Joined
namespace Go.Proofs.YbulkdggsDoor
open Go.ChangeShapes Go.WideShapes Go.ChangeAt Go.RowKit
set_option linter.unusedVariables false

theorem own : ownKnob Ybad.prog.godebug = none := by kernel_rfl
def laid5 : List (String × DataW Unit) := Rows.lawS5374BExactRow.laid

/-- The door's own heap meets the condition. -/
theorem door_met (os : Os) (args : Array Value) : laidMetH Ybad.prog laid5 ((World.doorLaid Ybad.prog 31 os).forCall (fun _ _ => 0) ⟨#[], args, []⟩).memory :=
  laidMetH_of_parts3 (fuel := 8) (laidMet_of_run' 8 (by kernel_rfl) (by kernel_rfl)) (by kernel_rfl) (by kernel_rfl)

theorem open_handle {H : Type} {enc : TypeId × Value → H} {W : World} {base f : Nat} {sp : Nat → Bool} {held : Bool} {cs : List Value} {x : DataW H × List MemPlace} (h : DataW.trod enc Ybad.prog W base sp held f 32 cs = some x) :
    (cs = [.pointer none] ∧ x = (.agg [.nil], [])) ∨ ∃ (a : Addr) (y : DataW H × List MemPlace), cs = [.pointer (some a)] ∧ x = (.agg [.ptr y.1], MemPlace.row a 2 ++ y.2) := by
  obtain ⟨xs, n, rfl, rfl, hl, hx, hf⟩ := DataW.trod_struct Ybad.underlying32 h
  have h32 : Ybad.prog.cellsOf 32 = 1 := by kernel_rfl
  have h30 : Ybad.prog.cellsOf 30 = 1 := by kernel_rfl
  have h79 : Ybad.prog.cellsOf 79 = 2 := by kernel_rfl
  rw [h32] at hl
  have h0 := hf 0 _ rfl
  match cs, hl with
  | [c], _ =>
    match xs, hx with
    | [y], _ =>
      have h1 : DataW.trod enc Ybad.prog W base sp held n 30 [c] = some y := by
        simpa [h30] using h0
      rcases DataW.trod_pointer Ybad.underlying30 h1 with ⟨hc, rfl⟩ | ⟨a, cs', z, m, hm, hc, rfl, _, _⟩
      · exact .inl ⟨hc, by simp⟩
      · refine .inr ⟨a, z, hc, ?_⟩
        simp [h79]
theorem open_fam {H : Type} {enc : TypeId × Value → H} {W : World} {base f : Nat} {sp : Nat → Bool} {held : Bool} {cs : List Value} {x : DataW H × List MemPlace} (h : DataW.trod enc Ybad.prog W base sp held f 40 cs = some x) :
    ∃ a b, cs = [.int .u16 a, .int .u8 b] ∧ x = (.agg [.lit (.int .u16 a), .lit (.int .u8 b)], []) := by
  obtain ⟨xs, n, rfl, rfl, hl, hx, hf⟩ := DataW.trod_struct Ybad.underlying40 h
  have h40 : Ybad.prog.cellsOf 40 = 2 := by kernel_rfl
  have hA : Ybad.prog.cellsOf 38 = 1 := by kernel_rfl
  have hB : Ybad.prog.cellsOf 5 = 1 := by kernel_rfl
  rw [h40] at hl
  have h0 := hf 0 _ rfl
  have h1 := hf 1 _ rfl
  match cs, hl with
  | [c, d], _ =>
    match xs, hx with
    | [y, z], _ =>
      have h2 : DataW.trod enc Ybad.prog W base sp held n 38 [c] = some y := by
        simpa [hA] using h0
      have h3 : DataW.trod enc Ybad.prog W base sp held n 5 [d] = some z := by
        simpa [hB] using h1
      obtain ⟨a, ha, rfl, _⟩ := DataW.trod_int Ybad.underlying38 h2
      obtain ⟨b, hb, rfl, _⟩ := DataW.trod_int Ybad.underlying5 h3
      refine ⟨a, b, ?_, by simp⟩
      rw [List.cons.inj ha |>.1, List.cons.inj hb |>.1]
theorem var_heap {W : World} {n : String} {g : Nat} {cs : Array Value} (hg : Ybad.prog.globalNamed n = some g) (h : World.var? Ybad.prog W n = some cs) (i : Nat) : W.cell? ⟨g, i, none⟩ = cs[i]? := by
  unfold World.var? at h
  rw [hg] at h
  simp only [Option.bind_some] at h
  cases hh : W.heap[g]? with
  | none => rw [hh] at h; cases h
  | some o =>
    rw [hh] at h
    cases o with
    | cells c t f =>
      simp only [Option.some.injEq] at h
      subst h
      simp [World.cell?, hh]
    | _ => cases h
theorem glob_of_laid {W : World} (h : laidMetH Ybad.prog laid5 W) : ∃ p4 p6, Glob p4 p6 W := by
  rw [MakeChecks.laidMetH_plain _ _ _ (by kernel_rfl)] at h
  obtain ⟨ps, ⟨g0, t0, cs0, f0, p0, q0, hg0, ht0, hv0, hd0, ⟨g1, t1, cs1, f1, p1, q1, hg1, ht1, hv1, hd1, ⟨g2, t2, cs2, f2, p2, q2, hg2, ht2, hv2, hd2, ⟨g3, t3, cs3, f3, p3, q3, hg3, ht3, hv3, hd3, ⟨g4, t4, cs4, f4, p4, q4, hg4, ht4, hv4, hd4, hr, e4⟩, e3⟩, e2⟩, e1⟩, e0⟩, hnd, hcl⟩ := h
  obtain rfl : g0 = 3 := Option.some.inj (hg0.symm.trans (by kernel_rfl))
  obtain rfl : g1 = 4 := Option.some.inj (hg1.symm.trans (by kernel_rfl))
  obtain rfl : g2 = 0 := Option.some.inj (hg2.symm.trans (by kernel_rfl))
  obtain rfl : g3 = 1 := Option.some.inj (hg3.symm.trans (by kernel_rfl))
  obtain rfl : g4 = 5 := Option.some.inj (hg4.symm.trans (by kernel_rfl))
  obtain rfl : t0 = 32 := Option.some.inj (ht0.symm.trans (by kernel_rfl))
  obtain rfl : t1 = 32 := Option.some.inj (ht1.symm.trans (by kernel_rfl))
  obtain rfl : t2 = 40 := Option.some.inj (ht2.symm.trans (by kernel_rfl))
  obtain rfl : t3 = 40 := Option.some.inj (ht3.symm.trans (by kernel_rfl))
  obtain rfl : t4 = 32 := Option.some.inj (ht4.symm.trans (by kernel_rfl))
  have c0 := var_heap hg0 hv0
  have c1 := var_heap hg1 hv1
  have c2 := var_heap hg2 hv2
  have c3 := var_heap hg3 hv3
  have c4 := var_heap hg4 hv4
  have x0 : ∃ a : Addr, cs0.toList = [.pointer (some a)] ∧ MemPlace.row a 2 <+: p0 := by
    rcases open_handle hd0 with ⟨_, h⟩ | ⟨a, y, h1, h2⟩
    · cases h
    · exact ⟨a, h1, by rw [(Prod.mk.inj h2).2]; exact List.prefix_append _ _⟩
  have x1 : ∃ a : Addr, cs1.toList = [.pointer (some a)] ∧ MemPlace.row a 2 <+: p1 := by
    rcases open_handle hd1 with ⟨_, h⟩ | ⟨a, y, h1, h2⟩
    · cases h
    · exact ⟨a, h1, by rw [(Prod.mk.inj h2).2]; exact List.prefix_append _ _⟩
  have x4 : cs4.toList = [.pointer none] := by
    rcases open_handle hd4 with ⟨h, _⟩ | ⟨a, y, h1, h2⟩
    · exact h
    · cases h2
  have x2 : cs2.toList = [.int .u16 1, .int .u8 85] := by
    obtain ⟨a, b, h1, h2⟩ := open_fam hd2
    cases h2
    exact h1
  have x3 : cs3.toList = [.int .u16 2, .int .u8 85] := by
    obtain ⟨a, b, h1, h2⟩ := open_fam hd3
    cases h2
    exact h1
  obtain ⟨a4, h4, r4⟩ := x0
  obtain ⟨a6, h6, r6⟩ := x1
  have m4 : MemPlace.cell a4.block a4.off ∈ p0 := r4.subset (by simp [MemPlace.row, List.range_succ])
  have m6 : MemPlace.cell a6.block a6.off ∈ p1 := r6.subset (by simp [MemPlace.row, List.range_succ])
  refine ⟨a4, a6, ?_⟩
  constructor
  · rw [c2, ← Array.getElem?_toList, x2]; rfl
  · rw [c2, ← Array.getElem?_toList, x2]; rfl
  · rw [c3, ← Array.getElem?_toList, x3]; rfl
  · rw [c3, ← Array.getElem?_toList, x3]; rfl
  · rw [c0, ← Array.getElem?_toList, h4]; rfl
  · rw [c1, ← Array.getElem?_toList, h6]; rfl
  · rw [c4, ← Array.getElem?_toList, x4]; rfl
  · exact (hcl a4.block a4.off (by rw [e0]; simp [m4])).1
  · exact (hcl a6.block a6.off (by rw [e0, e1]; simp [m6])).1
  · intro he
    rw [he] at m6
    rw [e0, List.append_assoc] at hnd
    have h1 := (List.nodup_append.1 hnd).2.1
    have h2 := (List.nodup_append.1 h1).2.2
    exact h2 _ m4 _ (by rw [e1]; simp [m6]) rfl
end Go.Proofs.YbulkdggsDoor
