import Derived.Test.YbulkdgfqWalks
import Derived.OpenShut
import Derived.Laws.BitsAllLaws
namespace Go.Proofs.Ybulkdgfq
open Go.RowKit

/-! ### The plain part: the bytes, each moved on by the shift -/
def rot (zs : List Int) (a : Int) (j : Nat) : Int := (zs.getD j 0 + a) % 256
theorem rot_bd (zs : List Int) (a : Int) (j : Nat) : 0 ≤ rot zs a j ∧ rot zs a j ≤ 255 := by
  unfold rot; omega
def rotL (zs : List Int) (a : Int) (n : Nat) : List UInt8 := (List.range n).map fun j => UInt8.ofNat (rot zs a j).toNat
theorem rotL_length (zs : List Int) (a : Int) (n : Nat) : (rotL zs a n).length = n := by
  unfold rotL
  rw [List.length_map, List.length_range]
theorem rotL_at (zs : List Int) (a : Int) (n j : Nat) (h : j < (rotL zs a n).length) : (((rotL zs a n)[j]).toNat : Int) = rot zs a j := by
  have hb := rot_bd zs a j
  revert h
  unfold rotL
  intro h
  rw [List.getElem_map, List.getElem_range, UInt8.toNat_ofNat_of_lt' (by show (rot zs a j).toNat < 256; omega)]
  omega
def rotS (zs : List Int) (a : Int) (n : Nat) : ByteArray := ⟨(rotL zs a n).toArray⟩
theorem rotS_size (zs : List Int) (a : Int) (n : Nat) : (rotS zs a n).size = n := by
  rw [size_list]
  exact rotL_length zs a n
theorem rotS_at (zs : List Int) (a : Int) (n j : Nat) (h : j < (rotS zs a n).size) : (((rotS zs a n)[j]).toNat : Int) = rot zs a j :=
  rotL_at zs a n j h

/-- the row of 'bs', the first k bytes laid -/
def BsAt (B : Nat) (zs : List Int) (a : Int) (n k : Nat) (w : World) : Prop :=
  (∀ j, j < n → w.cell? ⟨B, j, none⟩ = some (.int .u8 (if j < k then rot zs a j else 0))) ∧ ∀ j, j < n → w.frozen? ⟨B, j, none⟩ = false

theorem bsAt_set {B : Nat} {zs : List Int} {a : Int} {n k : Nat} {w : World} (h : BsAt B zs a n k w) (hk : k < n) : BsAt B zs a n (k + 1) (w.setCell ⟨B, k, none⟩ (.int .u8 (rot zs a k))) := by
  refine ⟨fun j hj => ?_, fun j hj => ?_⟩
  · by_cases e : j = k
    · subst e
      rw [if_pos (by omega)]
      exact World.cell?_setCell_same _ _ _ (h.1 j hj)
    · have h1 := h.1 j hj
      rw [show (if j < k + 1 then rot zs a j else 0) = (if j < k then rot zs a j else 0) from by
        by_cases h2 : j < k
        · rw [if_pos h2, if_pos (by omega)]
        · rw [if_neg h2, if_neg (by omega)], ← h1]
      refine World.cell?_setCell_other _ _ _ _ (fun h2 => e ?_)
      injection h2 with _ h3 _
      exact h3.symm
  · rw [World.frozen?_setCell]
    exact h.2 j hj

theorem bs_back (B : Nat) (zs : List Int) (a : Int) (n c : Nat) (W : World) (h : BsAt B zs a n n W) :
    (convert 24 9 (.slice (some ⟨B, 0, none⟩) n c)).run Yba.prog W = .ok (.string (rotS zs a n)) W := by
  have := run_convert_bytes_back (P := Yba.prog) W 24 9 5 ⟨B, 0, none⟩ c (rotL zs a n) Yba.underlying24 Yba.underlying5 Yba.underlying9 (by
    intro j hj
    have hj' := hj
    rw [rotL_length] at hj'
    have h1 := h.1 j hj'
    rw [if_pos hj'] at h1
    rw [show (⟨B, 0, none⟩ : Addr).add j = ⟨B, j, none⟩ from by cases j <;> simp [Addr.add], rotL_at]
    exact h1)
  rw [rotL_length] at this
  exact this

theorem bsAt_below {B : Nat} {zs : List Int} {a : Int} {n k : Nat} {w w' : World} (h : BsAt B zs a n k w) {C : Nat} (hb : Below C w w') (hC : B < C) : BsAt B zs a n k w' :=
  ⟨fun j hj => by rw [hb.cell (p := ⟨B, j, none⟩) hC]; exact h.1 j hj, fun j hj => by rw [hb.frozen (p := ⟨B, j, none⟩) hC]; exact h.2 j hj⟩

theorem andNot_up (x : Int) (h0 : 97 ≤ x) (h1 : x ≤ 122) : bits .andNot .u8 x 32 = x - 32 := by
  rw [u8_andNot x 32 (by omega) (by omega) (by omega) (by omega)]
  obtain ⟨n, rfl⟩ : ∃ n : Nat, x = (n : Int) := ⟨x.toNat, by omega⟩
  have hn : 97 ≤ n ∧ n ≤ 122 := by omega
  have : ∀ m : Nat, m < 26 → (((97 + m) &&& (255 - 32) : Nat) : Int) = ((97 + m : Nat) : Int) - 32 := by decide
  have h2 := this (n - 97) (by omega)
  rw [show 97 + (n - 97) = n from by omega] at h2
  simpa using h2

/-- what the law is told of the string 'got' -/
theorem got_at (zs : List Int) (a : Int) (n k : Nat) (h : k < n) (h' : k < (upS (rotS zs a n)).size) : ((upS (rotS zs a n))[k].toNat : Int) = upI (rot zs a k) := by
  rw [upS_at (rotS zs a n) k (by rw [rotS_size]; exact h) h', rotS_at]

theorem cells5 : Yba.prog.cellsOf 5 = 1 := by kernel_rfl

theorem make_bs (zs : List Int) (a : Int) (n : Nat) (w : World) (hn : n ≤ 4096) :
    ∃ w', (Instr.makeSlice 24 (.int .i64 (n : Int)) (.int .i64 (n : Int))).run Yba.prog w = .ok (.slice (some ⟨w.heap.size, 0, none⟩) n n) w' ∧ BsAt w.heap.size zs a n 0 w' ∧ Below w.heap.size w w' ∧ w.heap.size < w'.heap.size := by
  have hi : ∃ i, Yba.prog.info? 5 = some i ∧ i.zero = some (.int .u8 0) ∧ i.size = 1 ∧ i.bytes = 1 := ⟨_, rfl, by kernel_rfl, by kernel_rfl, by kernel_rfl⟩
  obtain ⟨i, hi1, hi2, hi3, hi4⟩ := hi
  have h := run_make (P := Yba.prog) w 24 5 i (.int .u8 0) Yba.underlying24 hi1 hi2 .i64 .i64 (n : Int) (n : Int) (by omega) (by omega) (by rw [hi4]; omega) (by omega)
  rw [Int.toNat_natCast] at h
  refine ⟨_, h, ⟨fun j hj => ?_, fun j hj => ?_⟩, (Below.refl _ _).alloc (Nat.le_refl _) _, by simp⟩
  · rw [hi3, if_neg (by omega), World.cell?_alloc_mark, Nat.mul_one]
    unfold madeCells
    rw [Array.getElem?_map, Array.getElem?_range, if_pos hj]
    simp [Value.cells, Nat.mod_one]
  · rw [World.frozen?_alloc_mark]
    simp

set_option maxHeartbeats 2000000 in
theorem bytes_full (b off len0 cap0 : Nat) (z0 : List Int) (a1 : Int) (w : World) (hpos : 0 < len0) (hle : len0 ≤ 4096) (hcap : cap0 ≤ maxLen) (hlc : len0 ≤ cap0) (hblk : b < w.heap.size)
    (hcell : ∀ j, j < len0 → w.cell? ⟨b, off + j, none⟩ = some (.int .u8 (z0.getD j 0))) (hz : ∀ j, 0 ≤ z0.getD j 0 ∧ z0.getD j 0 ≤ 255) (_h1 : 0 ≤ a1 ∧ a1 ≤ 255) :
    Calls Yba.prog 4 #[.slice (some ⟨b, off, none⟩) len0 cap0, .int .u8 a1] w fun e w' => e = .returned (.bool true) ∧ Below w.heap.size w w' := by
  unfold maxLen at hcap
  obtain ⟨W1, hmk, hbs, hb1, hlt1⟩ := make_bs z0 a1 len0 w hle
  have HBS := Lib.hid hbs
  have HB1 := Lib.hid hb1
  have HC := Lib.hid hcell
  have HZ := Lib.hid hz
  clear hbs hb1 hcell hz
  go_enter Yba.func4, Yba.ntmps4
  go_wp2_with fail
  go_loopw [6] (fun i wr => ∃ k : Nat, k ≤ len0 ∧ i = .int .i64 k ∧ BsAt w.heap.size z0 a1 len0 k wr ∧ Below w.heap.size w wr ∧ w.heap.size < wr.heap.size) (fun i _ => len0 - (intOf i).toNat)
  case atStart => exact ⟨0, Nat.zero_le _, rfl, HBS.out, HB1.out, hlt1⟩
  case round =>
    obtain ⟨k, hk, rfl, hrow, hb, hsz⟩ := hrel
    by_cases hlt : k < len0
    · have hc := HC.out k hlt
      rw [← hb.cell (p := ⟨b, off + k, none⟩) hblk] at hc
      have hc2 := hrow.1 k hlt
      have hf2 := hrow.2 k hlt
      rw [if_neg (by omega)] at hc2
      have hzk := HZ.out k
      have HR := Lib.hid hrow
      have HB := Lib.hid hb
      clear hrow hb
      go_wp2
      go_roundw
      case rel => exact ⟨k + 1, by omega, by go_num, bsAt_set HR.out hlt, HB.out.setCell (Nat.le_refl _) _, by simpa using hsz⟩
      case measure => simp [intOf]; omega
    · have hkk : k = len0 := by omega
      subst hkk
      have hback := bs_back w.heap.size z0 a1 k k wr hrow
      have hcap1 := fun W => capitals_any (rotS z0 a1 k) W (by rw [rotS_size]; unfold maxLen; omega)
      have hcap2 := fun W => capitals_any (upS (rotS z0 a1 k)) W (by rw [upS_size, rotS_size]; unfold maxLen; omega)
      rw [upS_up] at hcap2
      have hTs : (upS (rotS z0 a1 k)).size = k := by rw [upS_size, rotS_size]
      have hTa := fun j => got_at z0 a1 k j
      have hbk2 := fun W => bs_back w.heap.size z0 a1 k k W
      have HR := Lib.hid hrow
      have HB := Lib.hid hb
      have HC1 := Lib.hid hcap1
      have HC2 := Lib.hid hcap2
      have HTA := Lib.hid hTa
      have HBK := Lib.hid hbk2
      clear hrow hb hcap1 hcap2 hTa hbk2 HC HZ HBS HB1 hlt1 hmk
      generalize upS (rotS z0 a1 k) = T at HC1 HC2 hTs HTA
      generalize rotS z0 a1 k = S at HC1 hback HBK
      have hne : ((T.size : Int) != (k : Int)) = false := by rw [hTs]; simp
      have HTS := Lib.hid hTs
      clear hTs
      go_wp2_with (go_at_call 5; refine (HC1.out _).mono ?_; rintro e w2 ⟨rfl, hb2⟩; refine Hid.out ?_)
      refine Lib.hid ?_
      have HR2 := Lib.hid (bsAt_below HR.out hb2 hsz)
      have HB2 := Lib.hid (HB.out.trans (hb2.mono (by omega)))
      have hsz2 : w.heap.size < w2.heap.size := by have := hb2.size; omega
      clear hb2
      go_wp2
      clear hne hback
      go_loop [9] (fun i => ∃ j : Nat, j ≤ k ∧ i = .int .i64 j) (fun i => k - (intOf i).toNat)
      case atStart => exact ⟨0, Nat.zero_le _, rfl⟩
      case round =>
        obtain ⟨j, hj, rfl⟩ := hrel
        by_cases hlt2 : j < k
        · have hcj := HR2.out.1 j hlt2
          rw [if_pos hlt2] at hcj
          have hrb := rot_bd z0 a1 j
          have hjT : j < T.size := by rw [HTS.out]; exact hlt2
          have hta := HTA.out j hlt2 hjT
          by_cases g1 : 97 ≤ rot z0 a1 j
          · by_cases g2 : rot z0 a1 j ≤ 122
            · have hand := andNot_up (rot z0 a1 j) g1 g2
              have hw : ((T[j].toNat : Int) != rot z0 a1 j - 32) = false := by
                rw [hta]; unfold upI; rw [if_pos ⟨g1, g2⟩]; simp
              clear hta
              go_wp2
              go_round
              case rel => exact ⟨j + 1, by omega, by go_num⟩
              case measure => simp [intOf]; omega
            · have hw : ((T[j].toNat : Int) != rot z0 a1 j) = false := by
                rw [hta]; unfold upI; rw [if_neg (by omega)]; simp
              clear hta
              go_wp2
              go_round
              case rel => exact ⟨j + 1, by omega, by go_num⟩
              case measure => simp [intOf]; omega
          · have hw : ((T[j].toNat : Int) != rot z0 a1 j) = false := by
              rw [hta]; unfold upI; rw [if_neg (by omega)]; simp
            clear hta
            go_wp2
            go_round
            case rel => exact ⟨j + 1, by omega, by go_num⟩
            case measure => simp [intOf]; omega
        · go_wp2_with (go_at_call 5; refine (HC2.out _).mono ?_; rintro e w3 ⟨rfl, hb3⟩; refine Hid.out ?_)
          refine Lib.hid ?_
          have hb4 := HBK.out w3 (bsAt_below HR2.out hb3 hsz2)
          have HB3 := Lib.hid (HB2.out.trans (hb3.mono (by omega)))
          clear hb3
          go_wp2
          go_ret
          exact ⟨rfl, HB3.out⟩

set_option maxHeartbeats 2000000 in
theorem bytes_empty (a0 : Option Addr) (cap0 : Nat) (a1 : Int) (w : World) :
    Calls Yba.prog 4 #[.slice a0 0 cap0, .int .u8 a1] w fun e w' => e = .returned (.bool true) ∧ Below w.heap.size w w' := by
  obtain ⟨W1, hmk, hbs, hb1, hlt1⟩ := make_bs [] a1 0 w (by omega)
  have hmk0 : (Instr.makeSlice 24 (.int .i64 0) (.int .i64 0)).run Yba.prog w = .ok (.slice (some ⟨w.heap.size, 0, none⟩) 0 0) W1 := hmk
  clear hmk
  have hback := bs_back w.heap.size [] a1 0 0 W1 hbs
  have hcap1 := fun W => capitals_any (rotS [] a1 0) W (by rw [rotS_size]; unfold maxLen; omega)
  have hbk2 := fun W => bs_back w.heap.size [] a1 0 0 W
  have hT : upS (rotS [] a1 0) = ⟨#[]⟩ := rfl
  have hS : rotS [] a1 0 = ⟨#[]⟩ := rfl
  rw [hT, hS] at hcap1
  rw [hS] at hback hbk2
  have HBS := Lib.hid hbs
  have HB1 := Lib.hid hb1
  have HC1 := Lib.hid hcap1
  have HBK := Lib.hid hbk2
  clear hbs hb1 hcap1 hbk2 hT hS
  go_enter Yba.func4, Yba.ntmps4
  go_wp2_with fail
  refine wp_loop_rounds 1 ?_
  rw [rounds_succ]
  go_wp2_with (go_at_call 5; refine (HC1.out _).mono ?_; rintro e w2 ⟨rfl, hb2⟩; refine Hid.out ?_)
  refine Lib.hid ?_
  have HR2 := Lib.hid (bsAt_below HBS.out hb2 hlt1)
  have HB2 := Lib.hid (HB1.out.trans (hb2.mono (by omega)))
  have hsz2 : w.heap.size < w2.heap.size := by have := hb2.size; omega
  clear hb2
  go_wp2_with fail
  refine wp_loop_rounds 1 ?_
  rw [rounds_succ]
  go_wp2_with (go_at_call 5; refine (HC1.out _).mono ?_; rintro e w3 ⟨rfl, hb3⟩; refine Hid.out ?_)
  refine Lib.hid ?_
  have hb4 := HBK.out w3 (bsAt_below HR2.out hb3 hsz2)
  have HB3 := Lib.hid (HB2.out.trans (hb3.mono (by omega)))
  clear hb3
  go_wp2
  go_ret
  exact ⟨rfl, HB3.out⟩

theorem bytes_big (a0 : Option Addr) (len0 cap0 : Nat) (a1 : Int) (w : World) (hbig : 4096 < (len0 : Int)) :
    Calls Yba.prog 4 #[.slice a0 len0 cap0, .int .u8 a1] w fun e w' => e = .returned (.bool true) ∧ Below w.heap.size w w' := by
  go_enter Yba.func4, Yba.ntmps4
  go_wp2_with fail
  go_ret
  exact ⟨rfl, Below.refl _ _⟩

end Go.Proofs.Ybulkdgfq
