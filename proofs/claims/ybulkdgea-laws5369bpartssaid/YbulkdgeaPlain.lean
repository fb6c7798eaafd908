import Derived.WalkKit
namespace Go.Proofs.Ybulkdgea
/-! The plain facts: runs of ASCII digits in a list of bytes; pieces of a byte array. No program in sight. -/

def isDig (c : UInt8) : Bool := decide (48 ≤ (c.toNat : Int) ∧ (c.toNat : Int) ≤ 57)
/-- how many bytes of 'l' from its head on are digits -/
def digN (l : List UInt8) : Nat := (l.takeWhile isDig).length

theorem digN_le (l : List UInt8) : digN l ≤ l.length := by
  unfold digN
  exact (List.takeWhile_sublist isDig).length_le

theorem digN_cons (c : UInt8) (l : List UInt8) : digN (c :: l) = if isDig c then digN l + 1 else 0 := by
  unfold digN
  rw [List.takeWhile_cons]
  by_cases h : isDig c = true
  · rw [if_pos h, if_pos h]
    rfl
  · rw [if_neg h, if_neg h]
    rfl

theorem digN_up (l : List UInt8) (k : Nat) (hk : k ≤ digN l) (hlt : k < l.length) (hd : isDig l[k] = true) : k + 1 ≤ digN l := by
  induction l generalizing k with
  | nil => simp at hlt
  | cons c l ih =>
    rw [digN_cons] at hk ⊢
    by_cases h : isDig c = true
    · rw [if_pos h] at hk ⊢
      cases k with
      | zero => omega
      | succ k =>
        have := ih k (by omega) (by simpa using hlt) (by simpa using hd)
        omega
    · rw [if_neg h] at hk
      have hk0 : k = 0 := by omega
      subst hk0
      exact absurd hd h

theorem digN_at (l : List UInt8) (k : Nat) (hk : k < digN l) (hlt : k < l.length) : isDig l[k] = true := by
  induction l generalizing k with
  | nil => simp at hlt
  | cons c l ih =>
    rw [digN_cons] at hk
    by_cases h : isDig c = true
    · rw [if_pos h] at hk
      cases k with
      | zero => simpa using h
      | succ k => simpa using ih k (by omega) (by simpa using hlt)
    · rw [if_neg h] at hk
      omega

theorem digN_stop (l : List UInt8) (hlt : digN l < l.length) : isDig l[digN l] = false := by
  by_cases h : isDig l[digN l] = true
  · have := digN_up l (digN l) (Nat.le_refl _) hlt h
    omega
  · simpa using h

/-- does 's' open with the byte 45? -/
def negOf (s : ByteArray) : Bool := s.data.toList.head? == some 45
def stOf (s : ByteArray) : Nat := if negOf s = true then 1 else 0
def enOf (s : ByteArray) : Nat := stOf s + digN (s.data.toList.drop (stOf s))

theorem size_list (s : ByteArray) : s.size = s.data.toList.length := rfl

theorem stOf_le (s : ByteArray) : stOf s ≤ s.size := by
  unfold stOf
  split
  · rename_i h
    rw [size_list]
    unfold negOf at h
    cases hl : s.data.toList with
    | nil => rw [hl] at h; simp at h
    | cons c l => simp
  · omega

theorem enOf_le (s : ByteArray) : enOf s ≤ s.size := by
  have h1 := stOf_le s
  have h2 := digN_le (s.data.toList.drop (stOf s))
  rw [List.length_drop, ← size_list] at h2
  unfold enOf
  omega
theorem stOf_le_enOf (s : ByteArray) : stOf s ≤ enOf s := by
  unfold enOf; omega

theorem at_list (s : ByteArray) (k : Nat) (h : k < s.size) : s[k] = s.data.toList[k]'(by rw [← size_list]; exact h) := rfl

theorem at_drop (s : ByteArray) (a k : Nat) (h : a + k < s.size) : (s.data.toList.drop a)[k]'(by rw [List.length_drop, ← size_list]; omega) = s[a + k] := by
  rw [List.getElem_drop]
  rfl

/-- a step of the run behind the sign -/
theorem en_up (s : ByteArray) (k : Nat) (h0 : stOf s ≤ k) (hk : k ≤ enOf s) (hlt : k < s.size) (hd : isDig s[k] = true) : k + 1 ≤ enOf s := by
  obtain ⟨j, rfl⟩ : ∃ j, k = stOf s + j := ⟨k - stOf s, by omega⟩
  unfold enOf at hk ⊢
  have hl : j < (s.data.toList.drop (stOf s)).length := by rw [List.length_drop, ← size_list]; omega
  have := digN_up (s.data.toList.drop (stOf s)) j (by omega) hl (by rw [at_drop s _ _ hlt]; exact hd)
  omega
theorem en_stop (s : ByteArray) (k : Nat) (h0 : stOf s ≤ k) (hk : k ≤ enOf s) (hlt : k < s.size) (hd : isDig s[k] = false) : k = enOf s := by
  by_cases he : k < enOf s
  · obtain ⟨j, rfl⟩ : ∃ j, k = stOf s + j := ⟨k - stOf s, by omega⟩
    unfold enOf at he
    have hl : j < (s.data.toList.drop (stOf s)).length := by rw [List.length_drop, ← size_list]; omega
    have := digN_at (s.data.toList.drop (stOf s)) j (by omega) hl
    rw [at_drop s _ _ hlt, hd] at this
    simp at this
  · omega
theorem en_stop_end (s : ByteArray) (k : Nat) (hk : k ≤ enOf s) (hge : ¬ k < s.size) : k = enOf s := by
  have := enOf_le s
  omega
theorem en_at (s : ByteArray) (k : Nat) (h0 : stOf s ≤ k) (hk : k < enOf s) (hlt : k < s.size) : isDig s[k] = true := by
  obtain ⟨j, rfl⟩ : ∃ j, k = stOf s + j := ⟨k - stOf s, by omega⟩
  unfold enOf at hk
  have hl : j < (s.data.toList.drop (stOf s)).length := by rw [List.length_drop, ← size_list]; omega
  have := digN_at (s.data.toList.drop (stOf s)) j (by omega) hl
  rw [at_drop s _ _ hlt] at this
  exact this
theorem en_not (s : ByteArray) (hlt : enOf s < s.size) : isDig s[enOf s] = false := by
  by_cases h : isDig s[enOf s] = true
  · have := en_up s (enOf s) (stOf_le_enOf s) (Nat.le_refl _) hlt h
    omega
  · simpa using h

theorem extract_list (s : ByteArray) (a b : Nat) : (s.extract a b).data.toList = (s.data.toList.drop a).take (b - a) := by
  simp [ByteArray.data_extract, List.extract_eq_take_drop]

theorem byteArray_ext (a b : ByteArray) (h : a.data.toList = b.data.toList) : a = b := by
  cases a; cases b
  simp only [Array.toList_inj] at h
  simp_all

theorem extract_extract (s : ByteArray) (a b c d : Nat) (h : a + d ≤ b) : (s.extract a b).extract c d = s.extract (a + c) (a + d) := by
  apply byteArray_ext
  rw [extract_list, extract_list, extract_list, List.drop_take, List.take_take, List.drop_drop]
  congr 1
  omega

theorem extract_all (s : ByteArray) : s.extract 0 s.size = s := by
  apply byteArray_ext
  rw [extract_list, List.drop_zero, Nat.sub_zero]
  exact List.take_of_length_le (Nat.le_of_eq (size_list s).symm)

theorem cut_test (s : ByteArray) : ((s.extract 0 1).toList == [45]) = negOf s := by
  rw [ByteArray.toList_eq, extract_list]
  unfold negOf
  cases hl : s.data.toList with
  | nil => rfl
  | cons c l =>
    rw [Bool.eq_iff_iff]
    simp
theorem cut_yes (s : ByteArray) (h : (!(s.extract 0 1).toList == [45]) = false) : negOf s = true := by
  rw [cut_test] at h
  simpa using h
theorem cut_no (s : ByteArray) (h : (!(s.extract 0 1).toList == [45]) = true) : negOf s = false := by
  rw [cut_test] at h
  simpa using h
theorem cut_short (s : ByteArray) (h : (s.size : Int) < 1) : negOf s = false := by
  rw [size_list] at h
  unfold negOf
  cases hl : s.data.toList with
  | nil => rfl
  | cons c l =>
    rw [hl] at h
    simp only [List.length_cons] at h
    omega
theorem stOf_yes (s : ByteArray) (h : negOf s = true) : stOf s = 1 := by unfold stOf; rw [if_pos h]
theorem stOf_no (s : ByteArray) (h : negOf s = false) : stOf s = 0 := by unfold stOf; rw [h]; rfl
theorem negOf_first (s : ByteArray) (h : 0 < s.size) : negOf s = (s[0] == 45) := by
  rw [at_list]
  unfold negOf
  rw [List.head?_eq_getElem?, List.getElem?_eq_getElem (by rw [← size_list]; exact h)]
  rfl

theorem tail_list (s : ByteArray) (a : Nat) : (s.extract a s.size).data.toList = s.data.toList.drop a := by
  rw [extract_list, List.take_of_length_le]
  rw [List.length_drop, ← size_list]
  omega
theorem tail_size (s : ByteArray) (a : Nat) : (s.extract a s.size).size = s.size - a := by
  rw [size_list, tail_list, List.length_drop, ← size_list]
theorem mid_eq (s : ByteArray) : (s.extract (stOf s) s.size).extract 0 (digN (s.extract (stOf s) s.size).data.toList) = s.extract (stOf s) (enOf s) := by
  rw [tail_list, extract_extract]
  · rfl
  · exact enOf_le s
theorem rest_eq (s : ByteArray) : (s.extract (stOf s) s.size).extract (digN (s.extract (stOf s) s.size).data.toList) (s.extract (stOf s) s.size).size = s.extract (enOf s) s.size := by
  have h1 := stOf_le s
  rw [tail_list, tail_size, extract_extract _ _ _ _ _ (by omega), show stOf s + (s.size - stOf s) = s.size from by omega]
  rfl

end Go.Proofs.Ybulkdgea
