import Derived.Test.YbulkdggsDoorAddr
import Derived.LaidEql
namespace Go.Proofs.YbulkdggsDoor
open Go.RowKit
set_option linter.unusedVariables false

theorem eql32_nn (w : World) : (binOp .eql 32 (.agg #[.pointer none]) (.agg #[.pointer none])).run Ybad.prog w = .ok (.bool true) w := by kernel_rfl
theorem eql32_sn (a : Addr) (w : World) : (binOp .eql 32 (.agg #[.pointer (some a)]) (.agg #[.pointer none])).run Ybad.prog w = .ok (.bool false) w := by kernel_rfl
theorem eql32_ns (a : Addr) (w : World) : (binOp .eql 32 (.agg #[.pointer none]) (.agg #[.pointer (some a)])).run Ybad.prog w = .ok (.bool false) w := by kernel_rfl
theorem j79 : ∃ j, Ybad.prog.info? 79 = some j ∧ j.size ≠ 0 := by
  have h : (Ybad.prog.info? 79).map (fun i => i.size) = some 2 := by kernel_rfl
  obtain ⟨j, h1, h2⟩ := Option.map_eq_some_iff.1 h
  exact ⟨j, h1, by omega⟩
theorem equalIn_ptr (d : Nat) (a b : Addr) (w : World) : (Op.equalIn (d + 1) 30 (.pointer (some a)) (.pointer (some b))).run Ybad.prog w = (sameAddr a b).run Ybad.prog w := by
  obtain ⟨j, hj, hs⟩ := j79
  simp [Op.equalIn, run_underlying Ybad.underlying30, sizeOf, typeInfo, hj, hs]
theorem part30 (x : Option Addr) (w : World) : (part 30 #[.pointer x] 0).run Ybad.prog w = .ok (.pointer x) w := by kernel_rfl
theorem equalIn_h (d : Nat) (a b : Addr) (r : Bool) (w : World) (h : (sameAddr a b).run Ybad.prog w = .ok r w) : (Op.equalIn (d + 2) 32 (.agg #[.pointer (some a)]) (.agg #[.pointer (some b)])).run Ybad.prog w = .ok r w := by
  rw [Op.equalIn]
  simp [run_underlying Ybad.underlying32, equalIn_ptr, h, part30, Result.andThen]
  cases r <;> rfl
theorem eql32_of (a b : Addr) (r : Bool) (w : World) (h : (sameAddr a b).run Ybad.prog w = .ok r w) : (binOp .eql 32 (.agg #[.pointer (some a)]) (.agg #[.pointer (some b)])).run Ybad.prog w = .ok (.bool r) w := by
  simp only [binOp]
  simp [Op.equal, Op.maxDepth, equalIn_h 9998 a b r w h]
theorem eql32_same (a : Addr) (w : World) : (binOp .eql 32 (.agg #[.pointer (some a)]) (.agg #[.pointer (some a)])).run Ybad.prog w = .ok (.bool true) w :=
  eql32_of a a true w (run_sameAddr_same w a)
theorem eql32_other (a b : Addr) (w : World) (hne : a ≠ b) (ha : ∃ c t, w.heap[a.block]? = some (.cells c t)) (hb : ∃ c t, w.heap[b.block]? = some (.cells c t)) : (binOp .eql 32 (.agg #[.pointer (some a)]) (.agg #[.pointer (some b)])).run Ybad.prog w = .ok (.bool false) w := by
  obtain ⟨ca, ta, ha⟩ := ha
  obtain ⟨cb, tb, hb⟩ := hb
  exact eql32_of a b false w (run_sameAddr_other w hne ha hb)

/-! ### AsSlice, Is4, FamilyOf -/
/-- the slice value v holds the bytes zs, in memory that is not old -/
def Src (N : Nat) (v : Value) (zs : List Int) (w : World) : Prop :=
  (v = .slice none 0 0 ∧ zs = []) ∨ ∃ g cap, N ≤ g ∧ v = .slice (some ⟨g, 0, none⟩) zs.length cap ∧ 0 < zs.length ∧ ∀ j u, (zs.map (Value.int .u8))[j]? = some u → w.cell? ((⟨g, 0, none⟩ : Addr).add j) = some u

theorem asSlice_nil (hi lo : Int) (p4 p6 : Addr) (w : World) (hG : Glob p4 p6 w) :
    Calls Ybad.prog 8 #[addrV hi lo none] w fun e w' => e = .returned (.slice none 0 0) ∧ Below w.heap.size w w' := by
  have hz := hG.z0
  have hl : 5 < w.heap.size := block_lt_of_cell hz
  have he := eql32_nn
  clear hG
  go_enter Ybad.func8, Ybad.ntmps8
  go_wp2_with fail
  go_ret
  exact ⟨rfl, (Below.refl _ _).alloc (Nat.le_refl _) _⟩

/-- what is held over AsSlice's regions: the address's two halves; the new array's cells are there and can be written -/
def There (g n : Nat) (W : World) : Prop := ∀ i, i < n → (W.cell? ⟨g, i, none⟩).isSome = true ∧ W.frozen? ⟨g, i, none⟩ = false
theorem There.setCells {g n : Nat} {W : World} (h : There g n W) (o : Nat) : ∀ (vs : List Value) (o : Nat), There g n (W.setCells g o vs) := by
  intro vs
  induction vs generalizing W with
  | nil => intro o; exact h
  | cons v vs ih =>
    intro o
    refine ih (W := W.setCell ⟨g, o, none⟩ v) (fun i hi => ⟨isSome_setCell _ _ _ _ (h i hi).1, ?_⟩) (o + 1)
    rw [World.frozen?_setCell]
    exact (h i hi).2
theorem cell_setCells_far (W : World) (g o : Nat) (vs : List Value) (a : Addr) (hne : a.block ≠ g) : (W.setCells g o vs).cell? a = W.cell? a :=
  World.cell?_setCells_out g vs o W a (fun e => absurd e hne)
theorem heap_setCells_far (W : World) (g : Nat) : ∀ (vs : List Value) (o k : Nat), k ≠ g → (W.setCells g o vs).heap[k]? = W.heap[k]? := by
  intro vs
  induction vs generalizing W with
  | nil => intro o k _; rfl
  | cons v vs ih =>
    intro o k hk
    show ((W.setCell ⟨g, o, none⟩ v).setCells g (o + 1) vs).heap[k]? = _
    rw [ih (W := W.setCell ⟨g, o, none⟩ v) (o + 1) k hk, Below.heap_setCell _ _ _ _ hk]
theorem size_setCells (W : World) (g : Nat) : ∀ (vs : List Value) (o : Nat), (W.setCells g o vs).heap.size = W.heap.size := by
  intro vs
  induction vs generalizing W with
  | nil => intro o; rfl
  | cons v vs ih =>
    intro o
    show ((W.setCell ⟨g, o, none⟩ v).setCells g (o + 1) vs).heap.size = _
    rw [ih (W := W.setCell ⟨g, o, none⟩ v) (o + 1)]
    simp
theorem Below.setCells {B : Nat} {a w : World} (h : Below B a w) {g : Nat} (hg : B ≤ g) : ∀ (vs : List Value) (o : Nat), Below B a (w.setCells g o vs) := by
  intro vs
  induction vs generalizing w with
  | nil => intro o; exact h
  | cons v vs ih => intro o; exact ih (w := w.setCell ⟨g, o, none⟩ v) (h.setCell hg v) (o + 1)

def l32 (a b c d : Int) : Int := a * 16777216 + b * 65536 + c * 256 + d
theorem put32_bytes (g n c' : Nat) (a b c d : Int) (W : World) (hn : 4 ≤ n) (ha : isB a) (hb : isB b) (hc : isB c) (hd : isB d) (hT : There g 4 W) :
    Calls Ybad.prog 13 #[.slice (some ⟨g, 0, none⟩) n c', .int .u32 (l32 a b c d)] W fun e w' => e = .returned (.tuple #[]) ∧ w' = W.setCells g 0 [.int .u8 a, .int .u8 b, .int .u8 c, .int .u8 d] := by
  unfold isB at ha hb hc hd
  obtain ⟨x0, c0⟩ := Option.isSome_iff_exists.1 (hT 0 (by omega)).1
  obtain ⟨x1, c1⟩ := Option.isSome_iff_exists.1 (hT 1 (by omega)).1
  obtain ⟨x2, c2⟩ := Option.isSome_iff_exists.1 (hT 2 (by omega)).1
  obtain ⟨x3, c3⟩ := Option.isSome_iff_exists.1 (hT 3 (by omega)).1
  refine (put32_any g n c' (l32 a b c d) x0 x1 x2 x3 W hn (by unfold l32; omega) c0 c1 c2 c3 (hT 0 (by omega)).2 (hT 1 (by omega)).2 (hT 2 (by omega)).2 (hT 3 (by omega)).2).mono ?_
  rintro e w' ⟨rfl, rfl⟩
  refine ⟨rfl, ?_⟩
  rw [show l32 a b c d / 16777216 = a from by unfold l32; omega, show l32 a b c d / 65536 % 256 = b from by unfold l32; omega, show l32 a b c d / 256 % 256 = c from by unfold l32; omega, show l32 a b c d % 256 = d from by unfold l32; omega]
theorem wrap_lo4 (a b c d : Int) (ha : isB a) (hb : isB b) (hc : isB c) (hd : isB d) : IntKind.u32.wrap (lo4 a b c d) = l32 a b c d := by
  unfold isB at ha hb hc hd
  rw [IntKind.wrap_u32]
  unfold lo4 l32
  omega
/-- the bytes of a row that was just laid -/
theorem src_set {N g cap : Nat} {zs : List Int} {W : World} (hN : N ≤ g) (hp : 0 < zs.length) (hT : There g zs.length W) : Src N (.slice (some ⟨g, 0, none⟩) zs.length cap) zs (W.setCells g 0 (zs.map (Value.int .u8))) := by
  refine .inr ⟨g, cap, hN, rfl, hp, fun j u hj => ?_⟩
  have hjl : j < (zs.map (Value.int .u8)).length := (List.getElem?_eq_some_iff.1 hj).1
  have := World.cell?_setCells_in g (zs.map (Value.int .u8)) 0 W (fun i hi => by
    rw [Nat.zero_add]
    exact (hT i (by simpa using hi)).1) j hjl
  rw [show (⟨g, 0, none⟩ : Addr).add j = ⟨g, 0 + j, none⟩ from by cases j <;> simp [Addr.add], this]
  rw [List.getElem?_eq_getElem hjl] at hj
  exact hj
theorem there_new (w : World) (n : Nat) (c : Array Value) (t : TypeId) (hc : c.size = n) : There w.heap.size n (w.alloc (.cells c t)) := by
  intro i hi
  obtain ⟨h1, h2⟩ := box_cell (box_new w (.cells c t)) i
  refine ⟨?_, h2⟩
  rw [h1, Array.getElem?_eq_getElem (by omega)]
  rfl

theorem S4.setCells {N g n : Nat} {v : Value} {W : World} (h : W.cell? ⟨N, 1, none⟩ = some v ∧ There g n W) (hne : N ≠ g) (vs : List Value) (o : Nat) : (W.setCells g o vs).cell? ⟨N, 1, none⟩ = some v ∧ There g n (W.setCells g o vs) :=
  ⟨(cell_setCells_far W g o vs _ hne).trans h.1, h.2.setCells 0 vs o⟩
set_option maxHeartbeats 4000000 in
theorem asSlice_4 (hi : Int) (a b c d : Int) (p4 p6 : Addr) (w : World) (ha : isB a) (hb : isB b) (hc : isB c) (hd : isB d) (hG : Glob p4 p6 w) :
    Calls Ybad.prog 8 #[addrV hi (lo4 a b c d) (some p4)] w fun e w' => ∃ v, e = .returned v ∧ Src w.heap.size v [a, b, c, d] w' ∧ Below w.heap.size w w' := by
  have hz := hG.z0
  have hz4 := hG.z4
  have hl : 5 < w.heap.size := block_lt_of_cell hz
  have hl3 : 3 < w.heap.size := block_lt_of_cell hz4
  have he := eql32_sn
  have he2 := eql32_same
  have hwr := wrap_lo4 a b c d ha hb hc hd
  have hT := there_new (w.alloc (.cells #[.int .u64 hi, .int .u64 (lo4 a b c d), .pointer (some p4)] 34)) 4 #[.int .u8 0, .int .u8 0, .int .u8 0, .int .u8 0] 23 rfl
  rw [show (w.alloc (.cells #[.int .u64 hi, .int .u64 (lo4 a b c d), .pointer (some p4)] 34)).heap.size = w.heap.size + 1 from by simp] at hT
  have hlo : ((w.alloc (.cells #[.int .u64 hi, .int .u64 (lo4 a b c d), .pointer (some p4)] 34)).alloc (.cells #[.int .u8 0, .int .u8 0, .int .u8 0, .int .u8 0] 23)).cell? ⟨w.heap.size, 1, none⟩ = some (.int .u64 (lo4 a b c d)) :=
    (box_cell (box_old (box_new _ _)) 1).1
  have hbel : Below w.heap.size w ((w.alloc (.cells #[.int .u64 hi, .int .u64 (lo4 a b c d), .pointer (some p4)] 34)).alloc (.cells #[.int .u8 0, .int .u8 0, .int .u8 0, .int .u8 0] 23)) := ((Below.refl _ _).alloc (Nat.le_refl _) _).alloc (by simp) _
  have HT := Lib.hid hT
  have HL := Lib.hid hlo
  have HB := Lib.hid hbel
  clear hG hT hlo hbel
  go_enter Ybad.func8, Ybad.ntmps8
  go_wp2_with fail
  generalize (w.alloc (.cells #[.int .u64 hi, .int .u64 (lo4 a b c d), .pointer (some p4)] 34)).alloc (.cells #[.int .u8 0, .int .u8 0, .int .u8 0, .int .u8 0] 23) = W at HT HL HB ⊢
  have hS : W.cell? ⟨w.heap.size, 1, none⟩ = some (.int .u64 (lo4 a b c d)) ∧ There (w.heap.size + 1) 4 W := ⟨HL.out, HT.out⟩
  go_region_held3 (fun W => W.cell? ⟨w.heap.size, 1, none⟩ = some (.int .u64 (lo4 a b c d)) ∧ There (w.heap.size + 1) 4 W) (first | assumption | exact hS)
    (first
      | (go_at_call 13; refine (put32_bytes _ _ _ a b c d _ (by omega) ha hb hc hd (by exact hS.2)).mono ?_; rintro e w1 ⟨rfl, rfl⟩; have hS2 := S4.setCells (W := W.drew) hS (show w.heap.size ≠ w.heap.size + 1 by omega) [.int .u8 a, .int .u8 b, .int .u8 c, .int .u8 d] 0))
  all_goals
    go_wp2
    go_ret
    exact ⟨_, rfl, src_set (zs := [a, b, c, d]) (by omega) (by simp) HT.out, Below.setCells HB.out.drew (by omega) _ _⟩

end Go.Proofs.YbulkdggsDoor
