import Derived.Test.YbulkdgfqChecked
import Derived.Test.YbulkdgfqPlain
import Derived.WalkKit
import Derived.WalkLawsBesides
import Derived.WalkSpells
import Derived.RegionTactic
import Derived.BigQuiet
import Derived.Deep.QuietTactic
import Derived.OwnWalk
import Derived.Lib.Hide
import Derived.Lib.ConvBytes
import Derived.Lib.AtoiErrMem
import Derived.Laws.IdiomStrings
namespace Go.Proofs.Ybulkdgfq
open Go.RowKit

theorem bytesWorld_frozen (w : World) (e : TypeId) (s : ByteArray) (j : Nat) (hj : j < s.size) : (Lib.bytesWorld w e s).frozen? ⟨w.heap.size, j, none⟩ = false := by
  have h := Lib.bytesWorld_at_new w e s
  have hsz : s.size ≤ (Lib.bytesCells w e s).size := by
    unfold Lib.bytesCells
    rw [Array.size_append, Array.size_map]
    exact Nat.le_add_right _ _
  unfold World.frozen?
  rw [h]
  simp
  omega

/-- the row of 'upper', the first k bytes seen to -/
def RowAt (B : Nat) (l : List UInt8) (k : Nat) (w : World) : Prop :=
  (∀ j, j < l.length → w.cell? ⟨B, j, none⟩ = some (.int .u8 (mid l k j))) ∧ ∀ j, j < l.length → w.frozen? ⟨B, j, none⟩ = false

theorem rowAt_skip {B : Nat} {l : List UInt8} {k : Nat} {w : World} (h : RowAt B l k w) (he : upI (byteAt l k) = byteAt l k) : RowAt B l (k + 1) w := by
  refine ⟨fun j hj => ?_, h.2⟩
  rw [h.1 j hj]
  by_cases e : j = k
  · subst e
    rw [mid_here, mid_next, he]
  · rw [mid_other _ _ _ e]
theorem rowAt_set {B : Nat} {l : List UInt8} {k : Nat} {w : World} (h : RowAt B l k w) (hk : k < l.length) (x : Int) (hx : upI (byteAt l k) = x) : RowAt B l (k + 1) (w.setCell ⟨B, k, none⟩ (.int .u8 x)) := by
  refine ⟨fun j hj => ?_, fun j hj => ?_⟩
  · by_cases e : j = k
    · subst e
      rw [mid_next, hx]
      exact World.cell?_setCell_same _ _ _ (h.1 j hj)
    · rw [mid_other _ _ _ e, ← h.1 j hj]
      refine World.cell?_setCell_other _ _ _ _ (fun h2 => e ?_)
      injection h2 with _ h3 _
      exact h3.symm
  · rw [World.frozen?_setCell]
    exact h.2 j hj

set_option maxHeartbeats 1000000 in
theorem capitals_any (s : ByteArray) (w : World) (hs : s.size ≤ maxLen) :
    Calls Yba.prog 5 #[.string s] w fun e w' => e = .returned (.string (upS s)) ∧ Below w.heap.size w w' := by
  unfold maxLen at hs
  have hcv := Lib.run_convert_string_bytes (P := Yba.prog) w 9 24 5 s (u := .string) Yba.underlying9 Yba.underlying24 Yba.underlying5
  have hrow : RowAt w.heap.size s.data.toList 0 (Lib.bytesWorld w 5 s) := by
    refine ⟨fun j hj => ?_, fun j hj => bytesWorld_frozen w 5 s j hj⟩
    rw [Lib.bytesWorld_cell w 5 s j hj, mid_zero]
    rfl
  have hb := Lib.bytesWorld_below w 5 s
  have hsz := Lib.bytesWorld_size w 5 s
  have HR := Lib.hid hrow
  have HB := Lib.hid hb
  clear hrow hb
  generalize Lib.bytesWorld w 5 s = W1 at hcv HR HB hsz
  generalize grownCap w s.size 0 5 = c at hcv
  have hsz' : w.heap.size < W1.heap.size := by omega
  clear hsz
  go_enter Yba.func5, Yba.ntmps5
  go_wp2
  go_loopw [10] (fun i wr => ∃ k : Nat, k ≤ s.size ∧ i = .int .i64 k ∧ RowAt w.heap.size s.data.toList k wr ∧ Below w.heap.size w wr) (fun i _ => s.size - (intOf i).toNat)
  case atStart => exact ⟨0, Nat.zero_le _, rfl, HR.out, HB.out⟩
  case round =>
    obtain ⟨k, hk, rfl, hrow, hb⟩ := hrel
    have hbk := byteAt_bd s.data.toList k
    by_cases hlt : k < s.size
    · have hc := hrow.1 k hlt
      have hf := hrow.2 k hlt
      rw [mid_here] at hc
      have HR := Lib.hid hrow
      have HB := Lib.hid hb
      clear hrow hb
      by_cases h1 : 97 ≤ byteAt s.data.toList k
      · by_cases h2 : byteAt s.data.toList k ≤ 122
        · have HU : Hid (upI (byteAt s.data.toList k) = byteAt s.data.toList k - 32) := by
            refine Lib.hid ?_
            unfold upI
            rw [if_pos ⟨h1, h2⟩]
          go_wp2
          go_roundw
          case rel => exact ⟨k + 1, hlt, by go_num, rowAt_set HR.out hlt _ HU.out, HB.out.setCell (Nat.le_refl _) _⟩
          case measure => simp [intOf]; omega
        · have HU : Hid (upI (byteAt s.data.toList k) = byteAt s.data.toList k) := by
            refine Lib.hid ?_
            unfold upI
            rw [if_neg (by omega)]
          go_wp2
          go_roundw
          case rel => exact ⟨k + 1, hlt, by go_num, rowAt_skip HR.out HU.out, HB.out⟩
          case measure => simp [intOf]; omega
      · have HU : Hid (upI (byteAt s.data.toList k) = byteAt s.data.toList k) := by
          refine Lib.hid ?_
          unfold upI
          rw [if_neg (by omega)]
        go_wp2
        go_roundw
        case rel => exact ⟨k + 1, hlt, by go_num, rowAt_skip HR.out HU.out, HB.out⟩
        case measure => simp [intOf]; omega
    · have hkk : k = s.size := by omega
      have hback := run_convert_bytes_back (P := Yba.prog) wr 24 9 5 ⟨w.heap.size, 0, none⟩ c (s.data.toList.map up) Yba.underlying24 Yba.underlying5 Yba.underlying9 (by
        intro j hj
        rw [List.length_map] at hj
        have := hrow.1 j hj
        have e : mid s.data.toList k j = upI (byteAt s.data.toList j) := by
          unfold mid
          rw [if_pos (by rw [hkk]; exact hj)]
        rw [e, ← byteAt_map _ _ hj] at this
        rw [show (⟨w.heap.size, 0, none⟩ : Addr).add j = ⟨w.heap.size, j, none⟩ from by cases j <;> simp [Addr.add]]
        exact this)
      rw [List.length_map, ← size_list] at hback
      have HB := Lib.hid hb
      clear hrow hb hkk
      go_wp2
      go_ret
      exact ⟨rfl, HB.out⟩

end Go.Proofs.Ybulkdgfq
