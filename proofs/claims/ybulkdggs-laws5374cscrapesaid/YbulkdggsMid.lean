/- The reports' map as a fold; what a round of the law's loop sees. -/
import Derived.Test.YbulkdggsRep
namespace Go.Proofs.Ybulkdggs
open Go.RowKit Go.Maps
set_option linter.unusedVariables false
theorem key_lit (a c : Int) (ha : 0 ≤ a ∧ a < 3) (hc : 0 ≤ c ∧ c < 4) : WideAt.IsKeyLit (kOf a c) := by
  have h := key_of a c ha hc
  generalize kOf a c = l at h ⊢
  exact law.key h
attribute [local irreducible] kOf
/-- the reports' map behind k rounds -/
noncomputable def DK (sF iF : Nat → Int) (xF : Nat → Nat) : Nat → DataW Value
  | 0 => .map []
  | k + 1 => (DK sF iF xF k).put (kOf (sF k % 3) (iF k % 4)) (.held (.float .f64 (xF k)))
theorem DK_isMap (sF iF : Nat → Int) (xF : Nat → Nat) : ∀ k, IsMap (DK sF iF xF k)
  | 0 => isMap_empty
  | k + 1 => (DK_isMap sF iF xF k).put _ _
theorem DK_at (sF iF : Nat → Int) (xF : Nat → Nat) (a c : Int) (ha : 0 ≤ a ∧ a < 3) (hc : 0 ≤ c ∧ c < 4) : ∀ k, (∀ j, j < k → 0 ≤ sF j ∧ 0 ≤ iF j) →
    (DK sF iF xF k).atKey (kOf a c) (.held zeroF) = .held (.float .f64 (lastR sF iF xF a c k).1) ∧ Maps.has (DK sF iF xF k) (kOf a c) = (lastR sF iF xF a c k).2
  | 0, _ => ⟨rfl, rfl⟩
  | k + 1, hb => by
    have hk := hb k (Nat.lt_succ_self k)
    have h1 : 0 ≤ sF k % 3 ∧ sF k % 3 < 3 := by omega
    have h2 : 0 ≤ iF k % 4 ∧ iF k % 4 < 4 := by omega
    have ih := DK_at sF iF xF a c ha hc k (fun j hj => hb j (by omega))
    by_cases hm : sF k % 3 = a ∧ iF k % 4 = c
    · have hl : lastR sF iF xF a c (k + 1) = (xF k, true) := by
        show (if _ then _ else _) = _
        rw [if_pos hm]
      rw [hl]
      have hd : DK sF iF xF (k + 1) = (DK sF iF xF k).put (kOf a c) (.held (.float .f64 (xF k))) := by
        have h0 : DK sF iF xF (k + 1) = (DK sF iF xF k).put (kOf (sF k % 3) (iF k % 4)) (.held (.float .f64 (xF k))) := rfl
        rw [h0, hm.1, hm.2]
      rw [hd]
      have hlit := key_lit a c ha hc
      exact ⟨atKey_put_same (DK_isMap sF iF xF k) hlit _ _, has_put_same (DK_isMap sF iF xF k) hlit _⟩
    · have hl : lastR sF iF xF a c (k + 1) = lastR sF iF xF a c k := by
        show (if _ then _ else _) = _
        rw [if_neg hm]
      rw [hl]
      have hne : kOf a c ≠ kOf (sF k % 3) (iF k % 4) := fun e => hm (by
        obtain ⟨e1, e2⟩ := kOf_inj ha hc h1 h2 e
        exact ⟨e1.symm, e2.symm⟩)
      have hd : DK sF iF xF (k + 1) = (DK sF iF xF k).put (kOf (sF k % 3) (iF k % 4)) (.held (.float .f64 (xF k))) := rfl
      rw [hd]
      exact ⟨(atKey_put_other hne _ _).trans ih.1, (has_put_other hne _).trans ih.2⟩
theorem Reg.store {g bR bS n m : Nat} {D S : DataW Value} {W : World} {a c : Int} {v : Value} (h : Reg g bR bS n m D S W) (hm : n ≤ 100000) (hne : bR ≠ bS ∧ bR ≠ g) (hk : keyOf Yba.prog 48 (keyV a c) = some (kOf a c)) :
    Reg g bR bS (n + 1) m (D.put (kOf a c) (.held v)) S (storeW 26 bR (keyV a c) v W) ∧ W.mapTurned (storeW 26 bR (keyV a c) v W) bR := by
  obtain ⟨_, h1, h2⟩ := store_run (v := v) h.oR Yba.underlying26 (by unfold maxLen; omega) hk
  have hg := h2.grown
  have hcell : ∀ i, (storeW 26 bR (keyV a c) v W).cell? ⟨g, i, none⟩ = W.cell? ⟨g, i, none⟩ := fun i => World.cell?_of_block (w := W) (a := ⟨g, i, none⟩) (hg.block g (block_lt_of_cell h.c3) (fun e => hne.2 (Option.some.inj e).symm))
  exact ⟨{ c3 := (hcell 3).trans h.c3, f3 := (h2.frozen _).trans h.f3, c6 := (hcell 6).trans h.c6, c7 := (hcell 7).trans h.c7, oR := h1, oS := h.oS.kept hg (fun e => hne.1 (Option.some.inj e).symm) }, h2⟩
theorem below_turned {B b : Nat} {w W W' : World} (h : Below B w W) (ht : W.mapTurned W' b) (hb : B ≤ b) (hB : B ≤ W.heap.size) : Below B w W' :=
  h.grown ht.grown hB (fun k hk => by cases hk; exact hb)
/-- what a round of the law's loop sees; at most k entries -/
structure UQ (k g b x : Nat) (s i : Int) (v : Nat) (f1 f2 f3 : Bool) (W : World) : Prop where
  cell : W.cell? ⟨g, 6, none⟩ = some (.map (some b))
  box : W.heap[x]? = some (.cells #[.int .u16 s, .int .u32 i, .float .f64 v, .bool f1, .bool f2, .bool f3] 46)
  own : ∃ n D, n ≤ k ∧ W.ownsMap Yba.prog 48 R b n D
  ne : g ≠ b ∧ x ≠ b
abbrev SQ (k g b x : Nat) (s i : Int) (v : Nat) (f1 f2 f3 : Bool) (W : World) : Prop :=
  W.cell? ⟨g, 6, none⟩ = some (.map (some b)) ∧ W.cell? ⟨x, 0, none⟩ = some (.int .u16 s) ∧ W.cell? ⟨x, 1, none⟩ = some (.int .u32 i) ∧ W.cell? ⟨x, 2, none⟩ = some (.float .f64 v) ∧
  (Instr.mapUpdate 26 (.map (some b)) (.agg #[.int .u16 (s % 3), .int .u32 (i % 4)]) (.float .f64 v)).run Yba.prog W = .ok () (storeW 26 b (.agg #[.int .u16 (s % 3), .int .u32 (i % 4)]) (.float .f64 v) W) ∧ UQ k g b x s i v f1 f2 f3 W
section
variable {k g b x v : Nat} {s i : Int} {f1 f2 f3 : Bool} {W W' : World}
theorem SQ.of (hk : keyOf Yba.prog 48 (keyV (s % 3) (i % 4)) = some (kOf (s % 3) (i % 4))) (hb : k ≤ 100000) (h : UQ k g b x s i v f1 f2 f3 W) : SQ k g b x s i v f1 f2 f3 W := by
  obtain ⟨n, D, hn, ho⟩ := h.own
  exact ⟨h.cell, (box_cell h.box 0).1, (box_cell h.box 1).1, (box_cell h.box 2).1, (store_run ho Yba.underlying26 (by unfold maxLen; omega) hk).1, h⟩
theorem UQ.bel (h : UQ k g b x s i v f1 f2 f3 W) (hb : Below W.heap.size W W') : UQ k g b x s i v f1 f2 f3 W' where
  cell := (hb.cell (block_lt_of_cell h.cell)).trans h.cell
  box := box_below h.box hb
  own := by
    obtain ⟨n, D, hn, ho⟩ := h.own
    exact ⟨n, D, hn, ho.kept (below_grown hb none) (by simp)⟩
  ne := h.ne
theorem UQ.up (h : UQ k g b x s i v f1 f2 f3 W) : UQ (k + 1) g b x s i v f1 f2 f3 W := ⟨h.cell, h.box, by obtain ⟨n, D, hn, ho⟩ := h.own; exact ⟨n, D, by omega, ho⟩, h.ne⟩
theorem UQ.store (hk : keyOf Yba.prog 48 (keyV (s % 3) (i % 4)) = some (kOf (s % 3) (i % 4))) (hb : k ≤ 100000) (h : UQ k g b x s i v f1 f2 f3 W) : UQ (k + 1) g b x s i v f1 f2 f3 (storeW 26 b (keyV (s % 3) (i % 4)) (.float .f64 v) W) := by
  obtain ⟨n, D, hn, ho⟩ := h.own
  obtain ⟨_, h1, h2⟩ := store_run (v := .float .f64 v) ho Yba.underlying26 (by unfold maxLen; omega) hk
  refine ⟨?_, turned_block h2 h.box h.ne.2, ⟨n + 1, _, by omega, h1⟩, h.ne⟩
  have hl := block_lt_of_cell h.cell
  rw [World.cell?_of_block (w := W) (a := ⟨g, 6, none⟩) (h2.grown.block g hl (fun e => h.ne.1 (Option.some.inj e)))]
  exact h.cell
theorem SQ.bel (hk : keyOf Yba.prog 48 (keyV (s % 3) (i % 4)) = some (kOf (s % 3) (i % 4))) (hb : k ≤ 100000) (h : SQ k g b x s i v f1 f2 f3 W) (hw : Below W.heap.size W W') : SQ k g b x s i v f1 f2 f3 W' := SQ.of hk hb (h.2.2.2.2.2.bel hw)
theorem SQ.drew (hk : keyOf Yba.prog 48 (keyV (s % 3) (i % 4)) = some (kOf (s % 3) (i % 4))) (hb : k ≤ 100000) (h : SQ k g b x s i v f1 f2 f3 W) : SQ k g b x s i v f1 f2 f3 W.drew := SQ.bel hk hb h (Below.refl W.heap.size W).drew
theorem SQ.up (hk : keyOf Yba.prog 48 (keyV (s % 3) (i % 4)) = some (kOf (s % 3) (i % 4))) (hb : k + 1 ≤ 100000) (h : SQ k g b x s i v f1 f2 f3 W) : SQ (k + 1) g b x s i v f1 f2 f3 W := SQ.of hk hb h.2.2.2.2.2.up
theorem SQ.store (hk : keyOf Yba.prog 48 (keyV (s % 3) (i % 4)) = some (kOf (s % 3) (i % 4))) (hb : k + 1 ≤ 100000) (h : SQ k g b x s i v f1 f2 f3 W) : SQ (k + 1) g b x s i v f1 f2 f3 (storeW 26 b (.agg #[.int .u16 (s % 3), .int .u32 (i % 4)]) (.float .f64 v) W) :=
  SQ.of hk hb (h.2.2.2.2.2.store hk (by omega))
end
set_option maxRecDepth 100000 in
set_option maxHeartbeats 8000000 in
theorem rep_zero (sp : Option Addr) (cc : Nat) (a c : Int) (w : World) :
    Calls Yba.prog 7 #[.slice sp 0 cc, keyV a c] w fun e w' => e = .returned (.tuple #[.float .f64 0, .bool false]) ∧ Below w.heap.size w w' := by
  have hb0 : Below w.heap.size w (w.alloc (.cells #[.int .u16 a, .int .u32 c] 48)) := (Below.refl _ _).alloc (Nat.le_refl _) _
  have H0 := Lib.hid hb0
  clear hb0
  go_enter Yba.func7, Yba.ntmps7
  go_wp2_with fail
  go_loop [6] (fun iv => iv = .int .i64 (-1)) (fun _ => 0)
  case atStart => simp
  case round =>
    subst hrel
    go_wp2
    go_ret2
    exact ⟨rfl, H0.out⟩
end Go.Proofs.Ybulkdggs
