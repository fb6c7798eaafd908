/- The arguments, opened: arrays of bytes; the slice of communities. -/
import Derived.Test.YbulkdggsDoorLaid
import Derived.Test.YbulkdggsDoorApp
import Derived.Deep.Slices
namespace Go.Proofs.YbulkdggsDoor
open Go.ChangeShapes Go.WideShapes Go.ChangeAt Go.RowKit Go.Deep
set_option linter.unusedVariables false

def vInt : Value → Int | .int _ q => q | _ => 0
section
variable {H : Type} {enc : TypeId × Value → H} {W : World} {base f : Nat} {sp : Nat → Bool} {held : Bool}
theorem open_bytes {t n : Nat} {cs : List Value} {x : DataW H × List MemPlace} (ht : Ybad.prog.underlying t = some (.array n 5)) (hc : Ybad.prog.cellsOf t = n) (h : DataW.trod enc Ybad.prog W base sp held f t cs = some x) :
    ∃ zs : List Int, zs.length = n ∧ cs = cellsOf zs ∧ ∀ z ∈ zs, isB z := by
  obtain ⟨xs, m, rfl, rfl, hl, hx, hf⟩ := DataW.trod_array ht h
  rw [hc] at hl
  have h5 : Ybad.prog.cellsOf 5 = 1 := by kernel_rfl
  have key : ∀ i (hi : i < cs.length), ∃ a, cs[i] = .int .u8 a ∧ isB a := by
    intro i hi
    have h1 := hf i (by omega)
    rw [h5, Nat.mul_one] at h1
    have ht : (cs.drop i).take 1 = [cs[i]] := by rw [List.drop_eq_getElem_cons hi]; rfl
    rw [ht, List.getElem?_eq_getElem (by omega)] at h1
    obtain ⟨a, ha, _, wf⟩ := DataW.trod_int Ybad.underlying5 h1
    exact ⟨a, by simpa using ha, bounds_u8 wf⟩
  refine ⟨cs.map vInt, by simp [hl], ?_, ?_⟩
  · apply List.ext_getElem (by simp)
    intro i h1 h2
    obtain ⟨a, ha, _⟩ := key i h1
    simp [ha, vInt]
  · intro z hz
    simp at hz
    obtain ⟨v, hv, rfl⟩ := hz
    obtain ⟨i, hi, rfl⟩ := List.getElem_of_mem hv
    obtain ⟨a, ha, hb⟩ := key i hi
    rw [ha]
    exact hb
theorem open_arr_arg {t n b0 : Nat} {r : Reach} {v : Value} {d : DataW H} {p : List MemPlace} (ht : Ybad.prog.underlying t = some (.array n 5)) (hc : Ybad.prog.cellsOf t = n) (hv : Value.okWide Ybad.prog W r b0 t v) (h : DataW.Trod enc Ybad.prog W base sp held t v d p) :
    ∃ zs : List Int, zs.length = n ∧ v = .agg (cellsOf zs).toArray ∧ ∀ z ∈ zs, isB z := by
  simp only [Value.okWide, ht] at hv
  obtain ⟨cs, rfl, _⟩ := hv
  obtain ⟨f, hf⟩ := h
  simp only [Value.cells] at hf
  obtain ⟨zs, h1, h2, h3⟩ := open_bytes ht hc hf
  exact ⟨zs, h1, by rw [← h2], h3⟩
theorem open_comms {b0 : Nat} {r : Reach} {v : Value} {d : DataW H} {p : List MemPlace} (hv : Value.okWide Ybad.prog W r b0 26 v) (h : DataW.Trod enc Ybad.prog W base sp held 26 v d p) :
    v = .slice none 0 0 ∨ ∃ (a : Addr) (n cc : Nat) (ys : List Int), v = .slice (some a) n cc ∧ n ≤ cc ∧ cc ≤ maxLen ∧ ys.length = n * 8 ∧ (∀ y ∈ ys, isB y) ∧ ∀ j u, (cellsOf ys)[j]? = some u → W.cell? (a.add j) = some u := by
  obtain ⟨ao, n0, c0, rfl⟩ := okWide_slice Ybad.underlying26 hv
  obtain ⟨f, hf⟩ := h
  simp only [Value.cells] at hf
  have h48 : Ybad.prog.cellsOf 48 = 8 := by kernel_rfl
  rcases open_slice Ybad.underlying26 hf with ⟨h1, _⟩ | ⟨a, len, cap, m, n, D, Pl, h1, hb, hlc, hcm, hm, hx, hel⟩
  · left
    simpa using h1
  · right
    have hlm : len ≤ m := by rw [hm]; split <;> omega
    rw [h48] at hel
    have key : ∀ k, k < len * 8 → ∃ z, W.cell? (a.add k) = some (.int .u8 z) ∧ isB z := by
      intro k hk
      obtain ⟨cs', hc1, hc2⟩ := hel (k / 8) (by omega)
      obtain ⟨zs, hz1, hz2, hz3⟩ := open_bytes Ybad.underlying48 h48 hc2
      obtain ⟨_, hl', hg⟩ := World.cells?_some hc1
      have h8 : k % 8 < zs.length := by omega
      have hk2 := hg (k % 8) (by omega)
      rw [add_add, show k / 8 * 8 + k % 8 = k by omega, hz2, List.getElem?_map, List.getElem?_eq_getElem h8] at hk2
      exact ⟨zs[k % 8], hk2, hz3 _ (List.getElem_mem h8)⟩
    refine ⟨a, len, cap, (List.range (len * 8)).map (fun k => vInt ((W.cell? (a.add k)).getD undef)), by simpa using h1, hlc, hcm, by simp, ?_, ?_⟩
    · intro y hy
      simp at hy
      obtain ⟨k, hk, rfl⟩ := hy
      obtain ⟨z, h2, h3⟩ := key k hk
      rw [h2]
      exact h3
    · intro j u hj
      have hjl : j < len * 8 := by
        have := (List.getElem?_eq_some_iff.1 hj).1
        simpa using this
      obtain ⟨z, h2, h3⟩ := key j hjl
      simp [hjl, h2, vInt] at hj
      rw [h2, ← hj]
end
end Go.Proofs.YbulkdggsDoor
