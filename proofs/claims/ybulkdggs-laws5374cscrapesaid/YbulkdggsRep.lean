/- zzs5374creport: the last report of a key. -/
import Derived.Test.YbulkdggsStore
namespace Go.Proofs.Ybulkdggs
open Go.RowKit Go.Maps
set_option linter.unusedVariables false
/-- the entries, in memory -/
structure Ents (w : World) (b off n : Nat) (sF iF : Nat → Int) (xF : Nat → Nat) : Prop where
  c0 : ∀ j, j < n → w.cell? ⟨b, off + j * 6, none⟩ = some (.int .u16 (sF j))
  c1 : ∀ j, j < n → w.cell? ⟨b, off + j * 6 + 1, none⟩ = some (.int .u32 (iF j))
  c2 : ∀ j, j < n → w.cell? ⟨b, off + j * 6 + 2, none⟩ = some (.float .f64 (xF j))
  cb : ∀ j, j < n → ∃ f1 f2 f3, w.cell? ⟨b, off + j * 6 + 3, none⟩ = some (.bool f1) ∧ w.cell? ⟨b, off + j * 6 + 4, none⟩ = some (.bool f2) ∧ w.cell? ⟨b, off + j * 6 + 5, none⟩ = some (.bool f3)
  sb : ∀ j, j < n → 0 ≤ sF j ∧ sF j ≤ 65535
  ib : ∀ j, j < n → 0 ≤ iF j ∧ iF j ≤ 4294967295
theorem Ents.below {w w' : World} {b off n : Nat} {sF iF : Nat → Int} {xF : Nat → Nat} {B : Nat} (h : Ents w b off n sF iF xF) (hb : Below B w w') (hB : b < B) : Ents w' b off n sF iF xF where
  c0 j hj := (hb.cell (p := ⟨b, off + j * 6, none⟩) hB).trans (h.c0 j hj)
  c1 j hj := (hb.cell (p := ⟨b, off + j * 6 + 1, none⟩) hB).trans (h.c1 j hj)
  c2 j hj := (hb.cell (p := ⟨b, off + j * 6 + 2, none⟩) hB).trans (h.c2 j hj)
  cb j hj := by
    obtain ⟨f1, f2, f3, h1, h2, h3⟩ := h.cb j hj
    exact ⟨f1, f2, f3, (hb.cell (p := ⟨b, off + j * 6 + 3, none⟩) hB).trans h1, (hb.cell (p := ⟨b, off + j * 6 + 4, none⟩) hB).trans h2, (hb.cell (p := ⟨b, off + j * 6 + 5, none⟩) hB).trans h3⟩
  sb := h.sb
  ib := h.ib
/-- the last report of the key (a, c) among the first k -/
def lastR (sF iF : Nat → Int) (xF : Nat → Nat) (a c : Int) : Nat → Nat × Bool
  | 0 => (0, false)
  | k + 1 => if sF k % 3 = a ∧ iF k % 4 = c then (xF k, true) else lastR sF iF xF a c k
theorem eq48_same (a c : Int) (W : World) : (binOp .eql 48 (.agg #[.int .u16 a, .int .u32 c]) (.agg #[.int .u16 a, .int .u32 c])).run Yba.prog W = .ok (.bool true) W := by
  have h := run_eql_struct (P := Yba.prog) W 48 #[.int .u16 a, .int .u32 c] #[.int .u16 a, .int .u32 c]
  rw [h]
  simp [go_sem]
theorem eq48_other (x y a c : Int) (hne : ¬ (x = a ∧ y = c)) (W : World) : (binOp .eql 48 (.agg #[.int .u16 x, .int .u32 y]) (.agg #[.int .u16 a, .int .u32 c])).run Yba.prog W = .ok (.bool false) W := by
  have h := run_eql_struct (P := Yba.prog) W 48 #[.int .u16 x, .int .u32 y] #[.int .u16 a, .int .u32 c]
  rw [h]
  by_cases h1 : x = a
  · have h2 : ¬ y = c := fun e => hne ⟨h1, e⟩
    simp [go_sem, h1, h2]
  · simp [go_sem, h1]
/-- what a round of the report's loop sees -/
structure PR (w0 : World) (b off k x : Nat) (s i a c : Int) (W : World) : Prop where
  e2 : W.cell? ⟨b, off + k * 6 + 2, none⟩ = some (.float .f64 x)
  e0 : W.cell? ⟨b, off + k * 6, none⟩ = some (.int .u16 s)
  e1 : W.cell? ⟨b, off + k * 6 + 1, none⟩ = some (.int .u32 i)
  box : W.heap[w0.heap.size]? = some (.cells #[.int .u16 a, .int .u32 c] 48)
  below : Below w0.heap.size w0 W
abbrev SP (w0 : World) (b off k x : Nat) (s i a c : Int) (W : World) : Prop :=
  W.cell? ⟨b, off + k * 6, none⟩ = some (.int .u16 s) ∧ W.cell? ⟨b, off + k * 6 + 1, none⟩ = some (.int .u32 i) ∧ W.cell? ⟨w0.heap.size, 0, none⟩ = some (.int .u16 a) ∧ W.cell? ⟨w0.heap.size, 1, none⟩ = some (.int .u32 c) ∧ PR w0 b off k x s i a c W
section
variable {w0 : World} {b off k x : Nat} {s i a c : Int} {W W' : World}
theorem SP.of (h : PR w0 b off k x s i a c W) : SP w0 b off k x s i a c W := ⟨h.e0, h.e1, (box_cell h.box 0).1, (box_cell h.box 1).1, h⟩
theorem SP.bel (h : SP w0 b off k x s i a c W) (hb : Below W.heap.size W W') : SP w0 b off k x s i a c W' :=
  SP.of ⟨(hb.cell (block_lt_of_cell h.2.2.2.2.e2)).trans h.2.2.2.2.e2, (hb.cell (block_lt_of_cell h.1)).trans h.1, (hb.cell (block_lt_of_cell h.2.1)).trans h.2.1, box_below h.2.2.2.2.box hb, h.2.2.2.2.below.trans (hb.mono h.2.2.2.2.below.size)⟩
theorem SP.drew (h : SP w0 b off k x s i a c W) : SP w0 b off k x s i a c W.drew := h.bel (Below.refl W.heap.size W).drew
end

set_option maxRecDepth 100000 in
set_option maxHeartbeats 8000000 in
theorem rep_some (b off n cc : Nat) (sF iF : Nat → Int) (xF : Nat → Nat) (a c : Int) (w : World) (hn : n ≤ 1024) (hE : Ents w b off n sF iF xF) :
    Calls Yba.prog 7 #[.slice (some ⟨b, off, none⟩) n cc, keyV a c] w fun e w' => e = .returned (.tuple #[.float .f64 (lastR sF iF xF a c n).1, .bool (lastR sF iF xF a c n).2]) ∧ Below w.heap.size w w' := by
  have hb0 : Below w.heap.size w (w.alloc (.cells #[.int .u16 a, .int .u32 c] 48)) := (Below.refl _ _).alloc (Nat.le_refl _) _
  have H0 := Lib.hid (And.intro hb0 (box_new w (.cells #[.int .u16 a, .int .u32 c] 48)))
  have HE := Lib.hid hE
  obtain ⟨L, hL⟩ : ∃ L, L = lastR sF iF xF a c n := ⟨_, rfl⟩
  rw [← hL]
  have HL := Lib.hid hL
  clear hb0 hE hL
  go_enter Yba.func7, Yba.ntmps7
  go_wp2_with fail
  go_loopw [6] (fun iv W => ((iv = .int .i64 (-1) ∧ L = (0, false)) ∨ ∃ k : Nat, k < n ∧ iv = .int .i64 k ∧ L = lastR sF iF xF a c (k + 1)) ∧ W.heap[w.heap.size]? = some (.cells #[.int .u16 a, .int .u32 c] 48) ∧ Below w.heap.size w W) (fun iv _ => (intOf iv + 1).toNat)
  case atStart =>
    refine ⟨?_, H0.out.2, H0.out.1⟩
    cases n with
    | zero => exact .inl ⟨by simp, HL.out⟩
    | succ k => exact .inr ⟨k, by omega, by simp, HL.out⟩
  case round =>
    obtain ⟨hrel, hbox, hbel⟩ := hrel
    rcases hrel with ⟨rfl, hL0⟩ | ⟨k, hk, rfl, hLk⟩
    · subst hL0
      have HB := Lib.hid hbel
      clear hbel hbox
      go_wp2
      go_ret2
      exact ⟨rfl, HB.out⟩
    · have hlt : b < w.heap.size := block_lt_of_cell (HE.out.c0 k hk)
      have hEw := HE.out.below hbel hlt
      have hs : SP w b off k (xF k) (sF k) (iF k) a c wr := SP.of ⟨hEw.c2 k hk, hEw.c0 k hk, hEw.c1 k hk, hbox, hbel⟩
      have hsb := hEw.sb k hk
      have hib := hEw.ib k hk
      have hLk' : L = if sF k % 3 = a ∧ iF k % 4 = c then (xF k, true) else lastR sF iF xF a c k := hLk
      have hki : (k : Int) < n := by omega
      clear hEw hLk
      generalize sF k = s at hs hsb hLk'
      generalize iF k = i at hs hib hLk'
      generalize xF k = x at hs hLk'
      by_cases hm : s % 3 = a ∧ i % 4 = c
      · rw [if_pos hm] at hLk'
        subst hLk'
        obtain ⟨ha, hc⟩ := hm
        subst ha hc
        have heq := fun W : World => eq48_same (s % 3) (i % 4) W
        clear hbox hbel
        go_wp2_with fail
        go_region_held3 (fun W => W.cell? ⟨b, off + k * 6, none⟩ = some (.int .u16 s) ∧ W.cell? ⟨b, off + k * 6 + 1, none⟩ = some (.int .u32 i) ∧ W.cell? ⟨w.heap.size, 0, none⟩ = some (.int .u16 (s % 3)) ∧ W.cell? ⟨w.heap.size, 1, none⟩ = some (.int .u32 (i % 4)) ∧ PR w b off k x s i (s % 3) (i % 4) W) (first | with_reducible assumption | (with_reducible refine SP.drew ?_; first | with_reducible exact hs | with_reducible assumption))
          (first
            | (go_at_call 5; refine (key_any s i _ hsb hib).mono ?_; rintro e w7 ⟨rfl, hb7⟩; have g7 := SP.bel (w0 := w) (b := b) (off := off) (k := k) (x := x) (s := s) (i := i) (a := (s % 3)) (c := (i % 4)) (by with_reducible assumption) hb7))
        all_goals
          rename_i hHeld
          have HB := Lib.hid hHeld.2.2.2.2.below
          have e2 := hHeld.2.2.2.2.e2
          clear hHeld hs
          go_wp2
          go_ret2
          exact ⟨rfl, HB.out⟩
      · rw [if_neg hm] at hLk'
        have heq := fun W : World => eq48_other (s % 3) (i % 4) a c hm W
        clear hbox hbel hm
        go_wp2_with fail
        go_region_held3 (fun W => W.cell? ⟨b, off + k * 6, none⟩ = some (.int .u16 s) ∧ W.cell? ⟨b, off + k * 6 + 1, none⟩ = some (.int .u32 i) ∧ W.cell? ⟨w.heap.size, 0, none⟩ = some (.int .u16 a) ∧ W.cell? ⟨w.heap.size, 1, none⟩ = some (.int .u32 c) ∧ PR w b off k x s i a c W) (first | with_reducible assumption | (with_reducible refine SP.drew ?_; first | with_reducible exact hs | with_reducible assumption))
          (first
            | (go_at_call 5; refine (key_any s i _ hsb hib).mono ?_; rintro e w7 ⟨rfl, hb7⟩; have g7 := SP.bel (w0 := w) (b := b) (off := off) (k := k) (x := x) (s := s) (i := i) (a := a) (c := c) (by with_reducible assumption) hb7))
        all_goals
          rename_i hHeld
          have HB := Lib.hid hHeld.2.2.2.2
          clear hHeld hs
          go_wp2
          go_roundw
          case rel =>
            refine ⟨?_, HB.out.box, HB.out.below⟩
            cases k with
            | zero => exact .inl ⟨by simp, hLk'⟩
            | succ k => exact .inr ⟨k, by omega, by simp, hLk'⟩
          case measure => simp [intOf]
end Go.Proofs.Ybulkdggs
