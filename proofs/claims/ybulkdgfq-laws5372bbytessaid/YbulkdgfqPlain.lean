import Derived.WalkKit
namespace Go.Proofs.Ybulkdgfq
/-! The plain facts on capitals: no program in sight. -/
/-- a small ASCII letter's capital; any other byte as it is -/
def up (c : UInt8) : UInt8 := if 97 ≤ c.toNat ∧ c.toNat ≤ 122 then UInt8.ofNat (c.toNat - 32) else c
def upI (c : Int) : Int := if 97 ≤ c ∧ c ≤ 122 then c - 32 else c

theorem up_toNat (c : UInt8) : ((up c).toNat : Int) = upI (c.toNat : Int) := by
  have hc : c.toNat < 256 := c.toNat_lt
  unfold up upI
  by_cases h : 97 ≤ c.toNat ∧ c.toNat ≤ 122
  · rw [if_pos h, if_pos (by omega)]
    rw [UInt8.toNat_ofNat_of_lt' (by show c.toNat - 32 < 256; omega)]
    omega
  · rw [if_neg h, if_neg (by omega)]

theorem upI_up (c : Int) : upI (upI c) = upI c := by
  unfold upI
  repeat' split
  all_goals omega

theorem up_up (c : UInt8) : up (up c) = up c := by
  apply UInt8.toNat_inj.mp
  have h1 := up_toNat (up c)
  have h2 := up_toNat c
  rw [h2, upI_up, ← h2] at h1
  omega

def upS (s : ByteArray) : ByteArray := ⟨(s.data.toList.map up).toArray⟩

theorem size_list (s : ByteArray) : s.size = s.data.toList.length := rfl
theorem upS_list (s : ByteArray) : (upS s).data.toList = s.data.toList.map up := by
  unfold upS
  simp
theorem upS_size (s : ByteArray) : (upS s).size = s.size := by
  rw [size_list, upS_list, List.length_map, ← size_list]
theorem upS_up (s : ByteArray) : upS (upS s) = upS s := by
  show (⟨((upS s).data.toList.map up).toArray⟩ : ByteArray) = upS s
  rw [upS_list, List.map_map]
  unfold upS
  congr 2
  apply List.map_congr_left
  intro a _
  exact up_up a
theorem upS_at (s : ByteArray) (k : Nat) (h : k < s.size) (h' : k < (upS s).size) : (((upS s)[k]).toNat : Int) = upI (s[k].toNat : Int) := by
  rw [← up_toNat]
  have e : (upS s)[k] = (upS s).data.toList[k]'(by rw [← size_list]; exact h') := rfl
  have e2 : s[k] = s.data.toList[k]'(by rw [← size_list]; exact h) := rfl
  rw [e, e2]
  have e3 : (upS s).data.toList[k]? = (s.data.toList.map up)[k]? := by rw [upS_list]
  rw [List.getElem?_eq_getElem (by rw [← size_list]; exact h'), List.getElem?_map, List.getElem?_eq_getElem (by rw [← size_list]; exact h)] at e3
  have e4 := Option.some.inj e3
  rw [e4]

/-- byte j of l, as a number -/
def byteAt (l : List UInt8) (j : Nat) : Int := ((l.getD j 0).toNat : Int)
theorem byteAt_bd (l : List UInt8) (j : Nat) : 0 ≤ byteAt l j ∧ byteAt l j ≤ 255 := by
  have := (l.getD j 0).toNat_lt
  unfold byteAt
  omega
theorem byteAt_map (l : List UInt8) (j : Nat) (h : j < l.length) : (((l.map up)[j]'(by rw [List.length_map]; exact h)).toNat : Int) = upI (byteAt l j) := by
  rw [List.getElem_map, up_toNat]
  unfold byteAt
  rw [List.getD_eq_getElem?_getD, List.getElem?_eq_getElem h]
  rfl
/-- what the row holds when the first k bytes have been seen to -/
def mid (l : List UInt8) (k j : Nat) : Int := if j < k then upI (byteAt l j) else byteAt l j
theorem mid_here (l : List UInt8) (k : Nat) : mid l k k = byteAt l k := by
  unfold mid
  rw [if_neg (by omega)]
theorem mid_zero (l : List UInt8) (j : Nat) : mid l 0 j = byteAt l j := by
  unfold mid
  rw [if_neg (by omega)]
theorem mid_other (l : List UInt8) (k j : Nat) (h : j ≠ k) : mid l (k + 1) j = mid l k j := by
  unfold mid
  by_cases h2 : j < k
  · rw [if_pos h2, if_pos (by omega)]
  · rw [if_neg h2, if_neg (by omega)]
theorem mid_next (l : List UInt8) (k : Nat) : mid l (k + 1) k = upI (byteAt l k) := by
  unfold mid
  rw [if_pos (by omega)]

end Go.Proofs.Ybulkdgfq
