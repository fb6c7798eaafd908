/- The slice of entries, opened. -/
import Derived.Test.YbulkdggsLaw2
import Derived.ProofKit
import Derived.OpenShut
import Derived.Deep.Slices
namespace Go.Proofs.Ybulkdggs
open Go.ChangeShapes Go.WideShapes Go.ChangeAt Go.RowKit Go.Deep
set_option linter.unusedVariables false
section
variable {H : Type} {enc : TypeId × Value → H} {W : World} {base f : Nat} {sp : Nat → Bool} {held : Bool} {cs : List Value} {x : DataW H × List MemPlace}
theorem trod_float {P : Program} {t : TypeId} (ht : P.underlying t = some (.float .f64)) (h : DataW.trod enc P W base sp held f t cs = some x) : ∃ b, cs = [.float .f64 b] := by
  cases f with
  | zero => simp [DataW.trod] at h
  | succ n =>
    unfold DataW.trod at h
    rw [ht] at h
    split at h <;> simp_all
set_option maxRecDepth 100000 in
theorem open_ent (h : DataW.trod enc Yba.prog W base sp held f 46 cs = some x) : ∃ s i v f1 f2 f3, cs = [.int .u16 s, .int .u32 i, .float .f64 v, .bool f1, .bool f2, .bool f3] ∧ (0 ≤ s ∧ s ≤ 65535) ∧ (0 ≤ i ∧ i ≤ 4294967295) := by
  obtain ⟨xs, n, rfl, rfl, hl, hx, hf⟩ := DataW.trod_struct Yba.underlying46 h
  have h46 : Yba.prog.cellsOf 46 = 6 := by kernel_rfl
  have h23 : Yba.prog.cellsOf 23 = 1 := by kernel_rfl
  have h24 : Yba.prog.cellsOf 24 = 1 := by kernel_rfl
  have h44 : Yba.prog.cellsOf 44 = 1 := by kernel_rfl
  have h4 : Yba.prog.cellsOf 4 = 1 := by kernel_rfl
  rw [h46] at hl
  have e0 := hf 0 _ rfl
  have e1 := hf 1 _ rfl
  have e2 := hf 2 _ rfl
  have e3 := hf 3 _ rfl
  have e4 := hf 4 _ rfl
  have e5 := hf 5 _ rfl
  match cs, hl with
  | [c0, c1, c2, c3, c4, c5], _ =>
    match xs, hx with
    | [y0, y1, y2, y3, y4, y5], _ =>
      have t0 : DataW.trod enc Yba.prog W base sp held n 23 [c0] = some y0 := by simpa [h23] using e0
      have t1 : DataW.trod enc Yba.prog W base sp held n 24 [c1] = some y1 := by simpa [h24] using e1
      have t2 : DataW.trod enc Yba.prog W base sp held n 44 [c2] = some y2 := by simpa [h44] using e2
      have t3 : DataW.trod enc Yba.prog W base sp held n 4 [c3] = some y3 := by simpa [h4] using e3
      have t4 : DataW.trod enc Yba.prog W base sp held n 4 [c4] = some y4 := by simpa [h4] using e4
      have t5 : DataW.trod enc Yba.prog W base sp held n 4 [c5] = some y5 := by simpa [h4] using e5
      obtain ⟨s, hs, _, ws⟩ := DataW.trod_int Yba.underlying23 t0
      obtain ⟨i, hi, _, wi⟩ := DataW.trod_int Yba.underlying24 t1
      obtain ⟨v, hv⟩ := trod_float Yba.underlying44 t2
      obtain ⟨f1, hf1, _⟩ := DataW.trod_bool Yba.underlying4 t3
      obtain ⟨f2, hf2, _⟩ := DataW.trod_bool Yba.underlying4 t4
      obtain ⟨f3, hf3, _⟩ := DataW.trod_bool Yba.underlying4 t5
      refine ⟨s, i, v, f1, f2, f3, ?_, bounds_u16 ws, bounds_u32 wi⟩
      rw [(List.cons.inj hs).1, (List.cons.inj hi).1, (List.cons.inj hv).1, (List.cons.inj hf1).1, (List.cons.inj hf2).1, (List.cons.inj hf3).1]
set_option maxRecDepth 100000 in
theorem open_reps {b0 : Nat} {r : Reach} {v : Value} {d : DataW H} {p : List MemPlace} (hv : Value.okWide Yba.prog W r b0 22 v) (h : DataW.Trod enc Yba.prog W base sp held 22 v d p) :
    ∃ (ao : Option Addr) (n cc : Nat), v = .slice ao n cc ∧ n ≤ maxLen ∧ (0 < n → ∃ b off sF iF xF, ao = some ⟨b, off, none⟩ ∧ b < W.heap.size ∧ Ents W b off n sF iF xF) := by
  obtain ⟨ao, n0, c0, rfl⟩ := okWide_slice Yba.underlying22 hv
  obtain ⟨f, hf⟩ := h
  simp only [Value.cells] at hf
  have h46 : Yba.prog.cellsOf 46 = 6 := by kernel_rfl
  rcases open_slice Yba.underlying22 hf with ⟨h1, _⟩ | ⟨a, len, cap, m, n, D, Pl, h1, hb, hlc, hcm, hm, hx, hel⟩
  · have h2 : ao = none ∧ n0 = 0 ∧ c0 = 0 := by simpa using h1
    obtain ⟨rfl, rfl, rfl⟩ := h2
    exact ⟨none, 0, 0, rfl, Nat.zero_le _, fun h => absurd h (Nat.lt_irrefl 0)⟩
  · have h2 : ao = some a ∧ n0 = len ∧ c0 = cap := by simpa using h1
    obtain ⟨rfl, rfl, rfl⟩ := h2
    refine ⟨some a, n0, c0, rfl, by omega, fun hpos => ?_⟩
    have hlm : n0 ≤ m := by rw [hm]; split <;> omega
    rw [h46] at hel
    have key : ∀ j, j < n0 → ∃ s i v f1 f2 f3, (∀ k, k < 6 → W.cell? (a.add (j * 6 + k)) = ([.int .u16 s, .int .u32 i, .float .f64 v, .bool f1, .bool f2, .bool f3] : List Value)[k]?) ∧ (0 ≤ s ∧ s ≤ 65535) ∧ (0 ≤ i ∧ i ≤ 4294967295) := by
      intro j hj
      obtain ⟨cs', hc1, hc2⟩ := hel j (by omega)
      obtain ⟨s, i, v, f1, f2, f3, rfl, hs, hi⟩ := open_ent hc2
      obtain ⟨_, hl', hg⟩ := World.cells?_some hc1
      refine ⟨s, i, v, f1, f2, f3, fun k hk => ?_, hs, hi⟩
      have := hg k hk
      rwa [add_add] at this
    obtain ⟨s, i, v, f1, f2, f3, hk0, _⟩ := key 0 hpos
    have hc0 := hk0 0 (by omega)
    obtain ⟨b, off, spot⟩ := a
    have hspot : spot = none := by
      have h3 : W.cell? ((⟨b, off, spot⟩ : Addr).add 0) = some (.int .u16 s) := hc0
      simpa [Addr.add] using World.cell?_spot h3
    subst hspot
    have hblt : b < W.heap.size := by
      have h3 : W.cell? ((⟨b, off, none⟩ : Addr).add 0) = some (.int .u16 s) := hc0
      exact block_lt_of_cell h3
    have kk : ∀ j, ∃ s : Int, ∃ i : Int, ∃ v : Nat, j < n0 → ∃ f1 f2 f3, (∀ k, k < 6 → W.cell? ⟨b, off + (j * 6 + k), none⟩ = ([.int .u16 s, .int .u32 i, .float .f64 v, .bool f1, .bool f2, .bool f3] : List Value)[k]?) ∧ (0 ≤ s ∧ s ≤ 65535) ∧ (0 ≤ i ∧ i ≤ 4294967295) := by
      intro j
      by_cases hj : j < n0
      · obtain ⟨s, i, v, f1, f2, f3, h3, h4⟩ := key j hj
        refine ⟨s, i, v, fun _ => ⟨f1, f2, f3, fun k hk => ?_, h4⟩⟩
        have := h3 k hk
        rwa [add_plain] at this
      · exact ⟨0, 0, 0, fun h => absurd h hj⟩
    refine ⟨b, off, fun j => Classical.choose (kk j), fun j => Classical.choose (Classical.choose_spec (kk j)), fun j => Classical.choose (Classical.choose_spec (Classical.choose_spec (kk j))), rfl, hblt, ?_⟩
    have hall := fun j => Classical.choose_spec (Classical.choose_spec (Classical.choose_spec (kk j)))
    constructor
    · intro j hj
      obtain ⟨f1, f2, f3, h3, _⟩ := hall j hj
      exact h3 0 (by omega)
    · intro j hj
      obtain ⟨f1, f2, f3, h3, _⟩ := hall j hj
      exact h3 1 (by omega)
    · intro j hj
      obtain ⟨f1, f2, f3, h3, _⟩ := hall j hj
      exact h3 2 (by omega)
    · intro j hj
      obtain ⟨f1, f2, f3, h3, _⟩ := hall j hj
      exact ⟨f1, f2, f3, h3 3 (by omega), h3 4 (by omega), h3 5 (by omega)⟩
    · intro j hj
      obtain ⟨f1, f2, f3, _, h4, _⟩ := hall j hj
      exact h4
    · intro j hj
      obtain ⟨f1, f2, f3, _, _, h5⟩ := hall j hj
      exact h5
end
end Go.Proofs.Ybulkdggs
