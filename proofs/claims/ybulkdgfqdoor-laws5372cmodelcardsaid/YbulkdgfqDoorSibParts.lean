import Derived.Test.YbulkdgfqDoorSib
namespace Go.Proofs.YbulkdgfqDoor
open Go.RowKit
set_option linter.unusedVariables false

theorem u64_bd (a : Int) : 0 ≤ IntKind.u64.wrap a := by
  rw [IntKind.wrap_u64]
  omega
theorem eql_nilFunc (w : World) : (binOp .eql 32 .nilFunc .nilFunc).run Ybad.prog w = .ok (.bool true) w := by kernel_rfl
theorem eql_func (fn : Fn) (f c : Array Value) (w : World) : (binOp .eql 32 (.func fn f c) .nilFunc).run Ybad.prog w = .ok (.bool false) w := by kernel_rfl
theorem start2 (a b : Int) (w : World) : ((w.alloc (box2 a)).alloc (box2 b)).heap[w.heap.size]? = some (box2 a) ∧ ((w.alloc (box2 a)).alloc (box2 b)).heap[w.heap.size + 1]? = some (box2 b) ∧ Below w.heap.size w ((w.alloc (box2 a)).alloc (box2 b)) := by
  refine ⟨box_old (box_new _ _), ?_, ((Below.refl _ _).alloc (Nat.le_refl _) _).alloc (by simp) _⟩
  have := box_new (w.alloc (box2 a)) (box2 b)
  rw [show (w.alloc (box2 a)).heap.size = w.heap.size + 1 from by simp] at this
  exact this
theorem box1_cell {W : World} {B : Nat} {n : Int} (h : W.heap[B]? = some (box2 n)) : W.cell? ⟨B, 0, none⟩ = some (.int .i64 n) := by
  unfold World.cell?
  rw [h]
  simp
theorem drewN4 {W : World} {a b c d : Nat} {A B C D : Option Obj} (h : W.heap[a]? = A ∧ W.heap[b]? = B ∧ W.heap[c]? = C ∧ W.heap[d]? = D) (n : Nat) : (W.drewN n).heap[a]? = A ∧ (W.drewN n).heap[b]? = B ∧ (W.drewN n).heap[c]? = C ∧ (W.drewN n).heap[d]? = D := h
abbrev boxB (b : Bool) : Obj := .cells #[.bool b] 4
theorem sibB_of {n : Nat} {W : World} (h : n + 1 + 1 + 1 < W.heap.size) {m : Nat} (hm : m = W.heap.size + 1 + 1) : SibB n (n + 1 + 1 + 1) n (W.heap.size + 1) W.heap.size (n + 1) m := by
  constructor <;> omega
theorem sibW_of {w W : World} {y l k : Int} (x1 : W.heap[w.heap.size]? = some (box2 y)) (x2 : W.heap[w.heap.size + 1]? = some (box2 k)) (x4 : W.heap[w.heap.size + 1 + 1 + 1]? = some (box2 l)) (hb : Below w.heap.size w W) :
    SibW w.heap.size (w.heap.size + 1 + 1 + 1) w.heap.size (W.heap.size + 1) W.heap.size (w.heap.size + 1) y l k y ((W.alloc (boxB true)).alloc (box2 0)) ((W.alloc (boxB true)).alloc (box2 0)) := by
  have n1 : ((W.alloc (boxB true)).alloc (box2 0)).heap[W.heap.size]? = some (boxB true) := box_old (box_new _ _)
  have n2 : ((W.alloc (boxB true)).alloc (box2 0)).heap[W.heap.size + 1]? = some (box2 0) := by
    have := box_new (W.alloc (boxB true)) (box2 0)
    rw [show (W.alloc (boxB true)).heap.size = W.heap.size + 1 from by simp] at this
    exact this
  refine ⟨box1_cell (box_old (box_old x4)), box1_cell (box_old (box_old x1)), box1_cell (box_old (box_old x2)), ?_, ?_, ?_, Below.refl _ _, ?_⟩
  · unfold World.cell?
    rw [n1]
    simp
  · rw [box1_cell n2, show y - y = 0 from by omega]
  · unfold World.frozen?
    rw [n2]
    simp
  · have := hb.size
    simp
    omega
theorem sib_bel {w W w7 : World} {a b c d e : Nat} {y l k Y : Int} (hb : Below w.heap.size w W) (h : SibW w.heap.size a b c d e y l k Y ((W.alloc (boxB true)).alloc (box2 0)) w7) : Below w.heap.size w w7 :=
  ((hb.alloc hb.size _).alloc (by simp; have := hb.size; omega) _).trans h.bel
theorem seq_empty (fv : Value) (bl bf : Nat) (f l : Int) (w : World) (h : l < f) (cl : w.cell? ⟨bl, 0, none⟩ = some (.int .i64 l)) (cf : w.cell? ⟨bf, 0, none⟩ = some (.int .i64 f)) :
    Calls Ybad.prog 20 #[fv, .pointer (some ⟨bl, 0, none⟩), .pointer (some ⟨bf, 0, none⟩)] w fun e w' => e = .returned (.tuple #[]) ∧ w' = w := by
  go_enter Ybad.func20, Ybad.ntmps20
  go_wp2_with fail
  exact bodyPost_ret (v := .tuple #[]) (by simp [results, Ybad.results20, go_sem]) rfl ⟨rfl, rfl⟩
theorem five_cells (w : World) (A B : Obj) (f l : Int) (E : Obj) : (((((w.alloc A).alloc B).alloc (box2 f)).alloc (box2 l)).alloc E).cell? ⟨w.heap.size + 1 + 1, 0, none⟩ = some (.int .i64 f) ∧ (((((w.alloc A).alloc B).alloc (box2 f)).alloc (box2 l)).alloc E).cell? ⟨w.heap.size + 1 + 1 + 1, 0, none⟩ = some (.int .i64 l) := by
  obtain ⟨h1, h2, _⟩ := start2 f l ((w.alloc A).alloc B)
  rw [show ((w.alloc A).alloc B).heap.size = w.heap.size + 1 + 1 from by simp] at h1 h2
  exact ⟨box1_cell (box_old h1), box1_cell (box_old h2)⟩
theorem five_below (w : World) (A B C D E : Obj) : Below w.heap.size w (((((w.alloc A).alloc B).alloc C).alloc D).alloc E) :=
  (((((Below.refl _ _).alloc (Nat.le_refl _) _).alloc (by simp) _).alloc (by simp; omega) _).alloc (by simp; omega) _).alloc (by simp; omega) _
theorem easter_some (y : Int) (w : World) (h0 : -9223372036854775808 ≤ y) (h1 : y ≤ 9223372036854775807) (ht : Tab w) :
    Calls Ybad.prog 14 #[.int .i64 y] w fun e w' => ∃ (Y M D : Int) (r : Value), e = .returned (.tuple #[dateV Y M D, r]) ∧ Below w.heap.size w w' := by
  by_cases hr : refused y
  · refine (easter_no y w h0 h1 hr ht).mono ?_
    rintro e w' ⟨a, rfl, hb⟩
    exact ⟨_, _, _, _, rfl, hb⟩
  · have h2 : ¬ y < 1583 := fun h => hr (.inl h)
    have h3 : ¬ 9223372036854775807 < eY y := fun h => hr (.inr h)
    refine (easter_ok y w (by omega) h1 (by omega)).mono ?_
    rintro e w' ⟨rfl, hb⟩
    exact ⟨_, _, _, _, rfl, hb⟩

end Go.Proofs.YbulkdgfqDoor
