/- A store into a map inside a region that draws its order; Scrape. -/
import Derived.Test.YbulkdggsFig
import Derived.Test.YbulkdggsLocks
import Derived.Conc.MuLone
namespace Go.Proofs.Ybulkdggs
open Go.RowKit Go.Maps Go.MuLone
set_option linter.unusedVariables false
/-- the world behind 'm[k] = v' -/
noncomputable def storeW (t b : Nat) (key v : Value) (W : World) : World :=
  match (Instr.mapUpdate t (.map (some b)) key v).run Yba.prog W with
  | .ok _ w' => w'
  | _ => W
theorem store_run {W : World} {t e b n : Nat} {D : DataW Value} {key v : Value} {kl : Lit} (h : W.ownsMap Yba.prog 48 R b n D) (ht : Yba.prog.underlying t = some (.map 48 e)) (hn : n < maxLen) (hk : keyOf Yba.prog 48 key = some kl) :
    (Instr.mapUpdate t (.map (some b)) key v).run Yba.prog W = .ok () (storeW t b key v W) ∧ (storeW t b key v W).ownsMap Yba.prog 48 R b (n + 1) (D.put kl (.held v)) ∧ W.mapTurned (storeW t b key v W) b := by
  obtain ⟨w', hrun, h1, h2⟩ := h.store law ht hn hk (val := v) (d := .held v) (ps := []) rfl
  have he : storeW t b key v W = w' := by unfold storeW; rw [hrun]
  rw [he]
  exact ⟨hrun, h1, h2⟩
theorem turned_block {W W' : World} {b : Nat} (h : W.mapTurned W' b) {k : Nat} {o : Obj} (hk : W.heap[k]? = some o) (hne : k ≠ b) : W'.heap[k]? = some o :=
  (h.grown.block k (lt_of_box hk) (fun e => hne (Option.some.inj e))).trans hk
/-- what a store into a map sees: the registry's cell, the key's box, the map; at most k entries -/
structure UR (k g fld b x : Nat) (a c : Int) (W : World) : Prop where
  cell : W.cell? ⟨g, fld, none⟩ = some (.map (some b))
  box : W.heap[x]? = some (.cells #[.int .u16 a, .int .u32 c] 48)
  own : ∃ n D, n ≤ k ∧ W.ownsMap Yba.prog 48 R b n D
  ne : g ≠ b ∧ x ≠ b
abbrev SU (k g fld t b x : Nat) (v : Value) (a c : Int) (W : World) : Prop :=
  W.cell? ⟨g, fld, none⟩ = some (.map (some b)) ∧ W.cell? ⟨x, 0, none⟩ = some (.int .u16 a) ∧ W.cell? ⟨x, 1, none⟩ = some (.int .u32 c) ∧
  (Instr.mapUpdate t (.map (some b)) (.agg #[.int .u16 a, .int .u32 c]) v).run Yba.prog W = .ok () (storeW t b (keyV a c) v W) ∧ UR k g fld b x a c W
section
variable {k g fld t e b x : Nat} {v : Value} {a c : Int} {W W' : World}
theorem SU.of (ht : Yba.prog.underlying t = some (.map 48 e)) (hk : keyOf Yba.prog 48 (keyV a c) = some (kOf a c)) (hb : k ≤ 100000) (h : UR k g fld b x a c W) : SU k g fld t b x v a c W := by
  obtain ⟨n, D, hn, ho⟩ := h.own
  exact ⟨h.cell, (box_cell h.box 0).1, (box_cell h.box 1).1, (store_run ho ht (by unfold maxLen; omega) hk).1, h⟩
theorem UR.bel (h : UR k g fld b x a c W) (hb : Below W.heap.size W W') : UR k g fld b x a c W' where
  cell := (hb.cell (block_lt_of_cell h.cell)).trans h.cell
  box := box_below h.box hb
  own := by
    obtain ⟨n, D, hn, ho⟩ := h.own
    exact ⟨n, D, hn, ho.kept (below_grown hb none) (by simp)⟩
  ne := h.ne
theorem UR.store (ht : Yba.prog.underlying t = some (.map 48 e)) (hk : keyOf Yba.prog 48 (keyV a c) = some (kOf a c)) (hb : k ≤ 100000) (h : UR k g fld b x a c W) : UR (k + 1) g fld b x a c (storeW t b (keyV a c) v W) := by
  obtain ⟨n, D, hn, ho⟩ := h.own
  obtain ⟨_, h1, h2⟩ := store_run (v := v) ho ht (by unfold maxLen; omega) hk
  refine ⟨?_, turned_block h2 h.box h.ne.2, ⟨n + 1, _, by omega, h1⟩, h.ne⟩
  have hl := block_lt_of_cell h.cell
  rw [World.cell?_of_block (w := W) (a := ⟨g, fld, none⟩) (h2.grown.block g hl (fun e => h.ne.1 (Option.some.inj e)))]
  exact h.cell
theorem UR.up (h : UR k g fld b x a c W) : UR (k + 1) g fld b x a c W := ⟨h.cell, h.box, by obtain ⟨n, D, hn, ho⟩ := h.own; exact ⟨n, D, by omega, ho⟩, h.ne⟩
theorem SU.drew (ht : Yba.prog.underlying t = some (.map 48 e)) (hk : keyOf Yba.prog 48 (keyV a c) = some (kOf a c)) (hb : k ≤ 100000) (h : SU k g fld t b x v a c W) : SU k g fld t b x v a c W.drew :=
  SU.of ht hk hb (h.2.2.2.2.bel (Below.refl W.heap.size W).drew)
theorem SU.up (ht : Yba.prog.underlying t = some (.map 48 e)) (hk : keyOf Yba.prog 48 (keyV a c) = some (kOf a c)) (hb : k + 1 ≤ 100000) (h : SU k g fld t b x v a c W) : SU (k + 1) g fld t b x v a c W :=
  SU.of ht hk hb h.2.2.2.2.up
theorem SU.store (ht : Yba.prog.underlying t = some (.map 48 e)) (hk : keyOf Yba.prog 48 (keyV a c) = some (kOf a c)) (hb : k + 1 ≤ 100000) (h : SU k g fld t b x v a c W) : SU (k + 1) g fld t b x v a c (storeW t b (.agg #[.int .u16 a, .int .u32 c]) v W) :=
  SU.of ht hk hb (h.2.2.2.2.store ht hk (by omega))
end

/-- the registry while the lock is held, against the world at the call -/
structure Lk (g bR bS n m : Nat) (D S : DataW Value) (w W : World) : Prop where
  c3 : W.cell? ⟨g, 3, none⟩ = some (.int .i32 1)
  f3 : W.frozen? ⟨g, 3, none⟩ = false
  c6 : W.cell? ⟨g, 6, none⟩ = some (.map (some bR))
  c7 : W.cell? ⟨g, 7, none⟩ = some (.map (some bS))
  oR : W.ownsMap Yba.prog 48 R bR n D
  oS : W.ownsMap Yba.prog 48 R bS m S
  size : w.heap.size ≤ W.heap.size
  os : W.os = w.os ∧ W.tape = w.tape ∧ W.output = w.output
  same : ∀ k, k < w.heap.size → k ≠ g → k ≠ bS → W.heap[k]? = w.heap[k]?
section
variable {g bR bS n m : Nat} {D S : DataW Value} {w W W' : World} {a c : Int}
theorem Lk.start (h : Reg g bR bS n m D S w) (hne : bR ≠ g ∧ bS ≠ g) : Lk g bR bS n m D S w (w.setCell ⟨g, 3, none⟩ (.int .i32 1)) where
  c3 := World.cell?_setCell_same _ _ _ h.c3
  f3 := by rw [World.frozen?_setCell]; exact h.f3
  c6 := (World.cell?_setCell_other _ _ _ _ (by simp)).trans h.c6
  c7 := (World.cell?_setCell_other _ _ _ _ (by simp)).trans h.c7
  oR := h.oR.setCell hne.1 _
  oS := h.oS.setCell hne.2 _
  size := by simp
  os := ⟨rfl, rfl, rfl⟩
  same k _ hk _ := Below.heap_setCell _ _ _ _ hk
theorem Lk.bel (h : Lk g bR bS n m D S w W) (hb : Below W.heap.size W W') : Lk g bR bS n m D S w W' where
  c3 := (hb.cell (block_lt_of_cell h.c3)).trans h.c3
  f3 := (hb.frozen (block_lt_of_cell h.c3)).trans h.f3
  c6 := (hb.cell (block_lt_of_cell h.c6)).trans h.c6
  c7 := (hb.cell (block_lt_of_cell h.c7)).trans h.c7
  oR := h.oR.kept (below_grown hb none) (by simp)
  oS := h.oS.kept (below_grown hb none) (by simp)
  size := Nat.le_trans h.size hb.size
  os := ⟨hb.os.trans h.os.1, hb.tape.trans h.os.2.1, hb.output.trans h.os.2.2⟩
  same k hk h1 h2 := (hb.block k (Nat.lt_of_lt_of_le hk h.size)).trans (h.same k hk h1 h2)
theorem Lk.store (h : Lk g bR bS n m D S w W) (hm : m ≤ 100000) (hne : bR ≠ bS ∧ bS ≠ g) (hk : keyOf Yba.prog 48 (keyV a c) = some (kOf a c)) : Lk g bR bS n (m + 1) D (S.put (kOf a c) (.held zeroS)) w (storeW 27 bS (keyV a c) zeroS W) := by
  obtain ⟨_, h1, h2⟩ := store_run (v := zeroS) h.oS Yba.underlying27 (by unfold maxLen; omega) hk
  have hg := h2.grown
  have hcell : ∀ i, (storeW 27 bS (keyV a c) zeroS W).cell? ⟨g, i, none⟩ = W.cell? ⟨g, i, none⟩ := fun i => World.cell?_of_block (w := W) (a := ⟨g, i, none⟩) (hg.block g (block_lt_of_cell h.c3) (fun e => hne.2 (Option.some.inj e).symm))
  exact { c3 := (hcell 3).trans h.c3, f3 := (h2.frozen _).trans h.f3, c6 := (hcell 6).trans h.c6, c7 := (hcell 7).trans h.c7, oR := h.oR.kept hg (fun e => hne.1 (Option.some.inj e)), oS := h1,
          size := Nat.le_trans h.size hg.size, os := ⟨hg.os.trans h.os.1, hg.tape.trans h.os.2.1, hg.output.trans h.os.2.2⟩,
          same := fun k hk' k1 k2 => (hg.block k (Nat.lt_of_lt_of_le hk' h.size) (fun e => k2 (Option.some.inj e))).trans (h.same k hk' k1 k2) }
theorem Lk.done (h : Lk g bR bS n m D S w W) (hne : bR ≠ g ∧ bS ≠ g) : Reg g bR bS n m D S (W.setCell ⟨g, 3, none⟩ (.int .i32 0)) where
  c3 := World.cell?_setCell_same _ _ _ h.c3
  f3 := by rw [World.frozen?_setCell]; exact h.f3
  c6 := (World.cell?_setCell_other _ _ _ _ (by simp)).trans h.c6
  c7 := (World.cell?_setCell_other _ _ _ _ (by simp)).trans h.c7
  oR := h.oR.setCell hne.1 _
  oS := h.oS.setCell hne.2 _
end

set_option maxRecDepth 100000 in
set_option maxHeartbeats 8000000 in
theorem scrape_any (g bR bS n ga : Nat) (D S : DataW Value) (a c : Int) (w : World) (hr : Reg g bR bS n 0 D S w) (hne : bR ≠ bS ∧ bR ≠ g ∧ bS ≠ g ∧ ga ≠ g ∧ ga ≠ bS) (hk : keyOf Yba.prog 48 (keyV a c) = some (kOf a c)) (hga : w.heap[ga]? = some (.cells #[.int .u16 a, .int .u32 c] 48)) :
    Calls Yba.prog 10 #[.pointer (some ⟨g, 0, none⟩), .slice (some ⟨ga, 0, none⟩) 1 1] w fun e w' => e = .returned (.tuple #[]) ∧ Reg g bR bS n 1 D (S.put (kOf a c) (.held zeroS)) w' ∧ w.heap.size ≤ w'.heap.size ∧ (w'.os = w.os ∧ w'.tape = w.tape ∧ w'.output = w.output) ∧ ∀ k, k < w.heap.size → k ≠ g → k ≠ bS → w'.heap[k]? = w.heap[k]? := by
  have h3 := hr.c3
  have f3 := hr.f3
  have HR := Lib.hid hr
  have HGA := Lib.hid hga
  have HN := Lib.hid hne
  have HK := Lib.hid hk
  clear hr hga hne hk
  go_enter_defers Yba.func10, Yba.ntmps10
  go_wp2_with (go_at_call 11; refine (lock_free Yba.muLib ⟨g, 3, none⟩ _ h3 f3).mono ?_; rintro e w' ⟨rfl, rfl⟩)
  have HL := Lib.hid (Lk.start HR.out ⟨HN.out.2.1, HN.out.2.2.1⟩)
  clear h3 f3 HR
  go_loopw [15] (fun iv W => (iv = .int .i64 0 ∧ Lk g bR bS n 0 D S w W) ∨ (iv = .int .i64 1 ∧ Lk g bR bS n 1 D (S.put (kOf a c) (.held zeroS)) w W)) (fun iv _ => 1 - (intOf iv).toNat)
  case atStart => exact .inl ⟨rfl, HL.out⟩
  case round =>
    clear HL
    rcases hrel with ⟨rfl, hl⟩ | ⟨rfl, hl⟩
    · have hg := HGA.out
      have hbox : wr.heap[ga]? = some (.cells #[.int .u16 a, .int .u32 c] 48) := (hl.same ga (lt_of_box hg) HN.out.2.2.2.1 HN.out.2.2.2.2).trans hg
      have q0 := (box_cell hbox 0).1
      have q1 := (box_cell hbox 1).1
      have hb5 : Below wr.heap.size wr (wr.alloc (.cells #[.int .u16 a, .int .u32 c] 48)) := (Below.refl _ _).alloc (Nat.le_refl _) _
      have HL5 := Lib.hid (hl.bel hb5)
      have hltS : bS < wr.heap.size := hl.oS.lt
      have hs : SU 0 g 7 27 bS wr.heap.size zeroS a c (wr.alloc (.cells #[.int .u16 a, .int .u32 c] 48)) := SU.of Yba.underlying27 HK.out (by omega) ⟨HL5.out.c7, box_new _ _, ⟨0, S, Nat.le_refl _, HL5.out.oS⟩, ⟨HN.out.2.2.1.symm, by omega⟩⟩
      have HS := Lib.hid hs
      clear hg hbox hb5 hl hs
      go_wp2_with fail
      have hs := HS.out
      clear HS q0 q1
      generalize wr.alloc (.cells #[.int .u16 a, .int .u32 c] 48) = W5 at hs HL5 ⊢
      go_region_held3 (fun W => W.cell? ⟨g, 7, none⟩ = some (.map (some bS)) ∧ W.cell? ⟨wr.heap.size, 0, none⟩ = some (.int .u16 a) ∧ W.cell? ⟨wr.heap.size, 1, none⟩ = some (.int .u32 c) ∧
        (Instr.mapUpdate 27 (.map (some bS)) (.agg #[.int .u16 a, .int .u32 c]) (.agg #[.float .f64 0, .bool false, .bool false, .bool false])).run Yba.prog W = .ok () (storeW 27 bS (.agg #[.int .u16 a, .int .u32 c]) (.agg #[.float .f64 0, .bool false, .bool false, .bool false]) W) ∧ UR 1 g 7 bS wr.heap.size a c W) (first | with_reducible assumption | (with_reducible refine SU.store (k := 0) Yba.underlying27 HK.out (by omega) ?_; (repeat (with_reducible first | exact hs | refine SU.drew Yba.underlying27 HK.out (by omega) ?_)); done) | (with_reducible refine SU.up (k := 0) Yba.underlying27 HK.out (by omega) ?_; (repeat (with_reducible first | exact hs | refine SU.drew Yba.underlying27 HK.out (by omega) ?_)); done)) (fail)
      all_goals
        clear hs
        go_wp2
        go_roundw
        case rel => exact .inr ⟨rfl, (HL5.out.bel (Below.refl W5.heap.size W5).drew).store (by omega) ⟨HN.out.1, HN.out.2.2.1⟩ HK.out⟩
        case measure => simp [intOf]
    · have h3 := hl.c3
      have f3 := hl.f3
      have HL5 := Lib.hid hl
      clear hl
      go_wp2
      refine leaves_cons (f := 12) (args := #[.pointer (some ⟨g, 3, none⟩)]) (by simp) (by simp [go_sem]) ?_
      refine (unlock_deferred Yba.muLib ⟨g, 3, none⟩ .returning _ h3 f3).mono ?_
      rintro e u' w'' ⟨rfl, rfl, rfl⟩
      have hL := HL5.out
      exact ⟨_, results_none rfl _ _ _, rfl, hL.done ⟨HN.out.2.1, HN.out.2.2.1⟩, by simpa using hL.size, hL.os, fun k hk k1 k2 => (Below.heap_setCell _ _ _ _ k1).trans (hL.same k hk k1 k2)⟩
end Go.Proofs.Ybulkdggs
