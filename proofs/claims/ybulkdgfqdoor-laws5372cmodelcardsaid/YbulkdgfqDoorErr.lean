import Derived.Test.YbulkdgfqDoorSmall
import Derived.Test.YbulkdgfqDoorRows
import Derived.Shelf.Strconv.Itoa4
import Derived.Shelf.Strconv.Itoa3
import Derived.Shelf.Lay
import Derived.Ground.NamesProg
import Derived.Lib.ItoaLen
namespace Go.Proofs
open Go.Shelf

shelf_lay LaysM.n173 Nm 173 at Ybad as Ybad.lays173
shelf_lay LaysM.n171 Nm 171 at Ybad as Ybad.lays171
end Go.Proofs
namespace Go.Proofs.YbulkdgfqDoor
open Go.RowKit Go.Shelf

theorem grow_below (w : World) (k : Nat) (os : Array Obj) : Below w.heap.size w (Sort.grow (w.drewN k) os) := by
  refine ⟨rfl, rfl, rfl, ?_, fun j hj => ?_⟩
  · show w.heap.size ≤ (w.heap ++ os).size
    simp
  · show (w.heap ++ os)[j]? = w.heap[j]?
    exact Array.getElem?_append_left hj

/-- the name of the table that FormatInt reads: the first that the row names -/
def powName : String := Rows.lawS5372CSiblingRow.named.headD Rows.lawS5372CSiblingRow.func

theorem format_any (n : Int) (h0 : -9223372036854775808 ≤ n) (h1 : n ≤ 9223372036854775807) (w : World) (htab : Lib.TabIs Ybad.prog w powName .u64 Lib.pow10Tab) :
    Calls Ybad.prog 26 #[.int .i64 n, .int .i64 10] w fun e w' => ∃ s : ByteArray, e = .returned (.string s) ∧ s.size ≤ 21 ∧ Below w.heap.size w w' := by
  refine (Any.strconv_FormatInt_10 Ybad.lays173 n h0 h1 w htab).mono ?_
  rintro e w' ⟨rfl, k, os, rfl⟩
  refine ⟨_, rfl, ?_, grow_below w k os⟩
  have := Lib.itoa_length_le n h0 h1
  show (Lib.itoa n).toArray.size ≤ 21
  simpa using this
theorem itoa_any (n : Int) (h0 : -9223372036854775808 ≤ n) (h1 : n ≤ 9223372036854775807) (w : World) (htab : Lib.TabIs Ybad.prog w powName .u64 Lib.pow10Tab) :
    Calls Ybad.prog 35 #[.int .i64 n] w fun e w' => ∃ s : ByteArray, e = .returned (.string s) ∧ s.size ≤ 21 ∧ Below w.heap.size w w' := by
  refine (Any.strconv_Itoa Ybad.lays171 n h0 h1 w htab).mono ?_
  rintro e w' ⟨rfl, k, os, rfl⟩
  refine ⟨_, rfl, ?_, grow_below w k os⟩
  have := Lib.itoa_length_le n h0 h1
  show (Lib.itoa n).toArray.size ≤ 21
  simpa using this

theorem new_any (s : ByteArray) (w : World) :
    Calls Ybad.prog 34 #[.string s] w fun e w' => ∃ a : Addr, e = .returned (.iface 74 (.pointer (some a))) ∧ Below w.heap.size w w' := by
  go_enter Ybad.func34, Ybad.ntmps34
  go_wp2
  go_ret
  exact ⟨_, rfl, (Below.refl _ _).alloc (Nat.le_refl _) _⟩

theorem tabIs_below {w w' : World} (h : Below w.heap.size w w') (ht : Lib.TabIs Ybad.prog w powName .u64 Lib.pow10Tab) : Lib.TabIs Ybad.prog w' powName .u64 Lib.pow10Tab := by
  unfold Lib.TabIs World.var? at ht ⊢
  cases hg : Ybad.prog.globalNamed powName with
  | none => rw [hg] at ht; simp at ht
  | some g =>
    rw [hg] at ht
    simp only [Option.bind_some] at ht ⊢
    have hlt : g < w.heap.size := by
      rcases Nat.lt_or_ge g w.heap.size with h' | h'
      · exact h'
      · rw [Array.getElem?_eq_none h'] at ht
        simp at ht
    rw [h.block g hlt]
    exact ht

set_option maxHeartbeats 1000000 in
theorem errBefore_any (y : Int) (h0 : -9223372036854775808 ≤ y) (h1 : y ≤ 9223372036854775807) (w : World) (htab : Lib.TabIs Ybad.prog w powName .u64 Lib.pow10Tab) :
    Calls Ybad.prog 24 #[.int .i64 y] w fun e w' => ∃ a : Addr, e = .returned (.iface 74 (.pointer (some a))) ∧ Below w.heap.size w w' := by
  have HT := Lib.hid htab
  clear htab
  go_enter Ybad.func24, Ybad.ntmps24
  go_wp2_with (go_at_call 26; refine (format_any _ h0 h1 _ HT.out).mono ?_; rintro e w1 ⟨s1, rfl, hs1, hb1⟩; refine Hid.out ?_)
  refine Lib.hid ?_
  have HT1 := Lib.hid (tabIs_below hb1 HT.out)
  have HB1 := Lib.hid hb1
  clear hb1 HT
  go_wp2_with (go_at_call 35; refine (itoa_any _ (by omega) (by omega) _ HT1.out).mono ?_; rintro e w2 ⟨s2, rfl, hs2, hb2⟩; refine Hid.out ?_)
  refine Lib.hid ?_
  have HB2 := Lib.hid (HB1.out.trans (hb2.mono HB1.out.size))
  clear hb2 HT1 HB1
  go_wp2_with (go_at_call 34; refine (new_any _ _).mono ?_; rintro e w3 ⟨a, rfl, hb3⟩; refine Hid.out ?_)
  refine Lib.hid ?_
  have HB3 := Lib.hid (HB2.out.trans (hb3.mono HB2.out.size))
  clear hb3 HB2
  go_wp2
  go_ret
  exact ⟨a, rfl, HB3.out⟩

set_option maxHeartbeats 1000000 in
theorem errPast_any (s : ByteArray) (hs : s.size ≤ 1000) (w : World) (htab : Lib.TabIs Ybad.prog w powName .u64 Lib.pow10Tab) :
    Calls Ybad.prog 25 #[.string s] w fun e w' => ∃ a : Addr, e = .returned (.iface 74 (.pointer (some a))) ∧ Below w.heap.size w w' := by
  have HT := Lib.hid htab
  clear htab
  go_enter Ybad.func25, Ybad.ntmps25
  go_wp2_with (go_at_call 26; refine (format_any _ (by omega) (by omega) _ HT.out).mono ?_; rintro e w1 ⟨s1, rfl, hs1, hb1⟩; refine Hid.out ?_)
  refine Lib.hid ?_
  have HB1 := Lib.hid hb1
  clear hb1 HT
  go_wp2_with (go_at_call 34; refine (new_any _ _).mono ?_; rintro e w3 ⟨a, rfl, hb3⟩; refine Hid.out ?_)
  refine Lib.hid ?_
  have HB3 := Lib.hid (HB1.out.trans (hb3.mono HB1.out.size))
  clear hb3 HB1
  go_wp2
  go_ret
  exact ⟨a, rfl, HB3.out⟩

end Go.Proofs.YbulkdgfqDoor
