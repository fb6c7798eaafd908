import Derived.Test.YbulkdgfqDoorDates
import Derived.Deep.AppendLies
import Derived.Lib.BufferOwn
namespace Go.Proofs.YbulkdgfqDoor
open Go.RowKit

theorem info40 : (Ybad.prog.info? 40).map (fun i => (i.zero, i.size, i.bytes)) = some (some (.agg #[.int .i64 0, .int .i64 0, .int .i64 0]), 3, 24) := by kernel_rfl

/-- below 'base' nothing but block bg has turned -/
structure Kept (base bg : Nat) (w w' : World) : Prop where
  os : w'.os = w.os
  tape : w'.tape = w.tape
  output : w'.output = w.output
  size : w.heap.size ≤ w'.heap.size
  block : ∀ k, k < base → k ≠ bg → w'.heap[k]? = w.heap[k]?

abbrev cells3 (Y M D : Int) : List Value := [.int .i64 Y, .int .i64 M, .int .i64 D]

theorem add_off (b j : Nat) : (⟨b, 0, none⟩ : Addr).add j = ⟨b, j, none⟩ := by cases j <;> simp [Addr.add]
theorem news3 (w : World) (X : Obj) (Y M D : Int) (j : Nat) (u : Value) (h : (cells3 Y M D)[j]? = some u) : ((w.alloc X).alloc (.cells #[.int .i64 Y, .int .i64 M, .int .i64 D] 40)).cell? ((⟨w.heap.size + 1, 0, none⟩ : Addr).add j) = some u := by
  rw [add_off]
  have := box_new (w.alloc X) (.cells #[.int .i64 Y, .int .i64 M, .int .i64 D] 40)
  rw [show (w.alloc X).heap.size = w.heap.size + 1 from by simp] at this
  unfold World.cell?
  rw [this]
  simpa using h
theorem one3 (Y M D : Int) (u : Value) (h : u ∈ cells3 Y M D) : u.oneCell' = true := by
  simp at h
  rcases h with rfl | rfl | rfl <;> rfl

set_option maxHeartbeats 4000000 in
theorem yield_mod (bg bl base : Nat) (v : Value) (i : Nat) (xs : List Value) (L Y M D : Int) (w : World) (cg : w.cell? ⟨bg, 0, none⟩ = some v) (cl : w.cell? ⟨bl, 0, none⟩ = some (.int .i64 L)) (fg : w.frozen? ⟨bg, 0, none⟩ = false)
    (hown : w.ownsRow base 40 3 v i xs) (hb : base ≤ w.heap.size) (hg : bg < base) (hbl : bl < base) (hne : bl ≠ bg) (hi : i ≤ 1000) :
    Calls Ybad.prog 11 #[dateV Y M D, .pointer (some ⟨bg, 0, none⟩), .pointer (some ⟨bl, 0, none⟩)] w fun e w' =>
      ∃ v', e = .returned (.bool (decide ((i : Int) + 1 < L))) ∧ w'.cell? ⟨bg, 0, none⟩ = some v' ∧ w'.frozen? ⟨bg, 0, none⟩ = false ∧ w'.ownsRow base 40 3 v' (i + 1) (xs ++ cells3 Y M D) ∧ Kept base bg w w' := by
  obtain ⟨i0, hi1, hi2, hi3, hi4⟩ := info_parts info40
  have lg := block_lt_of_cell cg
  have ll := block_lt_of_cell cl
  have HO := Lib.hid ((hown.alloc (.cells #[.int .i64 Y, .int .i64 M, .int .i64 D] 40)).alloc (.cells #[.int .i64 Y, .int .i64 M, .int .i64 D] 40))
  clear hown
  go_enter Ybad.func11, Ybad.ntmps11
  go_wp2_with (at_builtin; refine wpList_append_own _ rfl _ _ 37 rfl base 40 i0 (.agg #[.int .i64 0, .int .i64 0, .int .i64 0]) 3 24 Ybad.underlying37 hi1 hi2 hi3 hi4 rfl (by decide) v i xs rfl HO.out ⟨w.heap.size + 1, 0, none⟩ 1 1 (cells3 Y M D) rfl rfl (news3 w _ Y M D) (one3 Y M D) (by unfold maxLen; omega) (by omega) (by simp; omega) ?_; refine Hid.out ?_)
  refine Lib.hid ?_
  intro v' w1 hown' hgrow hiff
  have hex : ∃ g cap, v' = .slice (some ⟨g, 0, none⟩) (i + 1) cap ∧ base ≤ g := by
    rcases hown'.2 with ⟨e, _⟩ | ⟨g, cap, cur, e, hbg, _⟩
    · exact absurd e hiff
    · exact ⟨g, cap, e, hbg⟩
  obtain ⟨g, cap, hv, hbg⟩ := hex
  have hnb : ∀ k, k < base → some k ≠ v.ownBlock := by
    intro k hk e
    have := HO.out.lt k e.symm
    omega
  have d1 : w1.cell? ⟨bg, 0, none⟩ = some v := hgrow.cell (by rw [World.cell?_alloc_lt _ _ _ (by simp; omega), World.cell?_alloc_lt _ _ _ lg]; exact cg) (hnb bg hg)
  have d2 : w1.cell? ⟨bl, 0, none⟩ = some (.int .i64 L) := hgrow.cell (by rw [World.cell?_alloc_lt _ _ _ (by simp; omega), World.cell?_alloc_lt _ _ _ ll]; exact cl) (hnb bl hbl)
  have d3 : w1.frozen? ⟨bg, 0, none⟩ = false := (hgrow.frozen_far ⟨bg, 0, none⟩ (by simp; omega) (hnb bg hg)).trans (by rw [frozen?_alloc_cells, frozen?_alloc_cells]; exact fg)
  have hk : Kept base bg w (w1.setCell ⟨bg, 0, none⟩ (.slice (some ⟨g, 0, none⟩) (i + 1) cap)) := by
    refine ⟨hgrow.os, hgrow.tape, hgrow.output, ?_, ?_⟩
    · have := hgrow.size
      simp at this ⊢
      omega
    · intro k hk hkb
      rw [Below.heap_setCell _ _ _ _ hkb, hgrow.block k (by simp; omega) (hnb k hk), Below.heap_alloc _ _ _ (by simp; omega), Below.heap_alloc _ _ _ (by omega)]
  have ho2 : (w1.setCell ⟨bg, 0, none⟩ (.slice (some ⟨g, 0, none⟩) (i + 1) cap)).ownsRow base 40 3 (.slice (some ⟨g, 0, none⟩) (i + 1) cap) (i + 1) (xs ++ cells3 Y M D) := by
    rw [hv] at hown'
    refine hown'.kept (Lib.grownBy_setCell w1 bg 0 _) (.inr ?_)
    simp [Value.ownBlock]
    omega
  have HK := Lib.hid hk
  have HO2 := Lib.hid ho2
  clear hk ho2 hown' hgrow hiff hnb HO cg cl fg hi1 hi2 hi3 hi4
  rw [hv]
  clear hv
  have hi9 : (i : Int) ≤ 1000 := by omega
  go_wp2
  go_ret
  exact ⟨_, rfl, World.cell?_setCell_same _ _ _ d1, by rw [World.frozen?_setCell]; exact d3, HO2.out, HK.out⟩

end Go.Proofs.YbulkdgfqDoor
