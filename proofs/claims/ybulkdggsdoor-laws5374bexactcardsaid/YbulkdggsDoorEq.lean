import Derived.Test.YbulkdggsDoorLaw
import Derived.Stop.BytesEq
namespace Go.Proofs.YbulkdggsDoor
open Go.RowKit
set_option linter.unusedVariables false

theorem equal_bytes_self (w : World) (d n : Nat) (t : TypeId) (ht : Ybad.prog.underlying t = some (.array n 5)) (zs : List Int) (hx : zs.length = n) :
    (Op.equalIn (d + 2) t (.agg (cellsOf zs).toArray) (.agg (cellsOf zs).toArray)).run Ybad.prog w = .ok true w := by
  have hsz : ∀ w, (sizeOf 5).run Ybad.prog w = .ok 1 w := by
    obtain ⟨i0, hi1, hi2, hi3, hi4⟩ := info_parts info5
    intro w
    simp [sizeOf, typeInfo, hi1, hi3]
  rw [Op.equalIn]
  simp only [Sem.run_bind, run_underlying ht, Result.andThen_ok, hsz, Std.Legacy.Range.forIn_eq_forIn_range', Std.Legacy.Range.size, Nat.sub_zero, Nat.add_sub_cancel, Nat.div_one]
  have hl : ∀ i ∈ List.range' 0 n 1, i < n := fun i hi => by simpa using (List.mem_range'_1.1 hi).2
  generalize List.range' 0 n 1 = l at hl ⊢
  induction l with
  | nil => simp
  | cons i l ih =>
    have hi : i < n := hl i (by simp)
    have px : (part 5 (cellsOf zs).toArray (i * 1)).run Ybad.prog w = .ok (.int .u8 (zs.getD i 0)) w := by
      simp [part, isAgg, run_underlying Ybad.underlying5, List.getD, List.getElem?_eq_getElem (show i < zs.length by omega)]
    have pe : (Op.equalIn (d + 1) 5 (.int .u8 (zs.getD i 0)) (.int .u8 (zs.getD i 0))).run Ybad.prog w = .ok true w := by
      rw [run_equalIn_int w d 5 .u8 .u8 _ _ Ybad.underlying5]
      simp
    simp only [List.forIn_cons, Sem.run_bind, px, pe, Result.andThen_ok]
    simp only [Bool.not_true, Bool.false_eq_true, if_false, Sem.run_pure, Result.andThen_ok]
    exact ih fun j hj => hl j (by simp [hj])
theorem eq48 (w : World) (y0 y1 y2 y3 y4 y5 y6 y7 : Int) : (Op.equalIn 10000 48 (.agg #[.int .u8 y0, .int .u8 y1, .int .u8 y2, .int .u8 y3, .int .u8 y4, .int .u8 y5, .int .u8 y6, .int .u8 y7]) (.agg #[.int .u8 y0, .int .u8 y1, .int .u8 y2, .int .u8 y3, .int .u8 y4, .int .u8 y5, .int .u8 y6, .int .u8 y7])).run Ybad.prog w = .ok true w :=
  equal_bytes_self w 9998 8 48 Ybad.underlying48 [y0, y1, y2, y3, y4, y5, y6, y7] rfl
/-- the eight cells of the j-th community -/
theorem eight {W : World} {b off n j : Nat} {ys : List Int} (h : ∀ j u, (cellsOf ys)[j]? = some u → W.cell? ((⟨b, off, none⟩ : Addr).add j) = some u) (hl : ys.length = n * 8) (hj : j < n) (m : Nat) (hm : m < 8) :
    W.cell? ⟨b, off + j * 8 + m, none⟩ = some (.int .u8 (ys.getD (j * 8 + m) 0)) := by
  have hlt : j * 8 + m < ys.length := by omega
  have h0 := h (j * 8 + m) (.int .u8 (ys.getD (j * 8 + m) 0)) (by
    rw [List.getElem?_map, List.getElem?_eq_getElem hlt]
    simp [List.getD, List.getElem?_eq_getElem hlt])
  rw [← h0]
  congr 1
  unfold Addr.add
  by_cases h : j * 8 + m = 0
  · rw [if_pos h, Nat.add_assoc, h]; rfl
  · rw [if_neg h, Nat.add_assoc]
theorem eight0 {W : World} {g n j : Nat} {ys : List Int} (h : W.heap[g]? = some (.cells (cellsOf ys).toArray 48)) (hl : ys.length = n * 8) (hj : j < n) (m : Nat) (hm : m < 8) :
    W.cell? ⟨g, j * 8 + m, none⟩ = some (.int .u8 (ys.getD (j * 8 + m) 0)) := by
  have := eight (b := g) (off := 0) (arr_news h) hl hj m hm
  rwa [Nat.zero_add] at this
end Go.Proofs.YbulkdggsDoor
