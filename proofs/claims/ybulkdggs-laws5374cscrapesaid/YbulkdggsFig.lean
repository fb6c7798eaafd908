import Derived.Test.YbulkdggsNew
import Derived.Lib.Hide
import Derived.WalkLawsBesides
import Derived.WalkSpells
namespace Go.Proofs.Ybulkdggs
open Go.RowKit Go.Maps
set_option linter.unusedVariables false
@[go_sem] theorem run_store_float (P : Program) (w : World) (a : Addr) (m : Mode) (k : FloatKind) (x : Nat) : (store a (.float k x) m).run P w = stored P w a (.float k x) m := run_store P w a _ m rfl
theorem lt_of_box {w : World} {k : Nat} {x : Obj} (h : w.heap[k]? = some x) : k < w.heap.size := by
  rcases Nat.lt_or_ge k w.heap.size with h' | h'
  · exact h'
  · rw [Array.getElem?_eq_none h'] at h
    cases h
theorem box_below {w w' : World} {k : Nat} {x : Obj} (h : w.heap[k]? = some x) (hb : Below w.heap.size w w') : w'.heap[k]? = some x := (hb.block k (lt_of_box h)).trans h
/-- what figureLocked sees -/
structure FR (w0 : World) (g bR bS n m : Nat) (D S : DataW Value) (a b : Int) (W : World) : Prop where
  reg : Reg g bR bS n m D S W
  box : W.heap[w0.heap.size]? = some (.cells #[.int .u16 a, .int .u32 b] 48)
  below : Below w0.heap.size w0 W
theorem FR.bel {w0 : World} {g bR bS n m : Nat} {D S : DataW Value} {a b : Int} {W W' : World} (h : FR w0 g bR bS n m D S a b W) (hb : Below W.heap.size W W') : FR w0 g bR bS n m D S a b W' :=
  ⟨h.reg.below hb, box_below h.box hb, h.below.trans (hb.mono h.below.size)⟩
abbrev SF (q : Bool) (w0 : World) (g bR bS n m : Nat) (D S : DataW Value) (a b : Int) (W : World) : Prop :=
  W.cell? ⟨w0.heap.size, 0, none⟩ = some (.int .u16 a) ∧ W.cell? ⟨w0.heap.size, 1, none⟩ = some (.int .u32 b) ∧ W.cell? ⟨g, 7, none⟩ = some (.map (some bS)) ∧
  (Instr.lookup 27 (.map (some bS)) (.agg #[.int .u16 a, .int .u32 b]) true).run Yba.prog W = .ok (.tuple #[.agg #[.float .f64 0, .bool false, .bool false, .bool false], .bool q]) W ∧ FR w0 g bR bS n m D S a b W
section
variable {q : Bool} {w0 : World} {g bR bS n m : Nat} {D S : DataW Value} {a b : Int} {W : World}
theorem SF.of (hk : keyOf Yba.prog 48 (keyV a b) = some (kOf a b)) (hz : S.atKey (kOf a b) (.held zeroS) = .held zeroS) (hq : Maps.has S (kOf a b) = q) (h : FR w0 g bR bS n m D S a b W) : SF q w0 g bR bS n m D S a b W :=
  ⟨(box_cell h.box 0).1, (box_cell h.box 1).1, h.reg.c7, hq ▸ look h.reg.oS Yba.underlying27 (zero51 W) hk hz, h⟩
theorem SF.drew (hk : keyOf Yba.prog 48 (keyV a b) = some (kOf a b)) (hz : S.atKey (kOf a b) (.held zeroS) = .held zeroS) (hq : Maps.has S (kOf a b) = q) (h : SF q w0 g bR bS n m D S a b W) : SF q w0 g bR bS n m D S a b W.drew :=
  SF.of hk hz hq (h.2.2.2.2.bel (Below.refl W.heap.size W).drew)
theorem SF.alloc (hk : keyOf Yba.prog 48 (keyV a b) = some (kOf a b)) (hz : S.atKey (kOf a b) (.held zeroS) = .held zeroS) (hq : Maps.has S (kOf a b) = q) (h : SF q w0 g bR bS n m D S a b W) (o : Obj) : SF q w0 g bR bS n m D S a b (W.alloc o) :=
  SF.of hk hz hq (h.2.2.2.2.bel ((Below.refl W.heap.size W).alloc (Nat.le_refl _) o))
end

theorem below_drewN {B : Nat} {a w : World} (h : Below B a w) : ∀ n, Below B a (w.drewN n) := fun n => ⟨h.os, h.tape, h.output, h.size, h.block⟩
abbrev SG (q : Bool) (c : Nat) (w0 : World) (g bR bS n m : Nat) (D S : DataW Value) (a b : Int) (W : World) : Prop :=
  W.cell? ⟨w0.heap.size, 0, none⟩ = some (.int .u16 a) ∧ W.cell? ⟨w0.heap.size, 1, none⟩ = some (.int .u32 b) ∧ W.cell? ⟨g, 6, none⟩ = some (.map (some bR)) ∧
  (Instr.lookup 26 (.map (some bR)) (.agg #[.int .u16 a, .int .u32 b]) true).run Yba.prog W = .ok (.tuple #[.float .f64 c, .bool q]) W ∧ FR w0 g bR bS n m D S a b W
section
variable {q : Bool} {c : Nat} {w0 : World} {g bR bS n m : Nat} {D S : DataW Value} {a b : Int} {W : World}
theorem SG.of (hk : keyOf Yba.prog 48 (keyV a b) = some (kOf a b)) (hz : D.atKey (kOf a b) (.held zeroF) = .held (.float .f64 c)) (hq : Maps.has D (kOf a b) = q) (h : FR w0 g bR bS n m D S a b W) : SG q c w0 g bR bS n m D S a b W :=
  ⟨(box_cell h.box 0).1, (box_cell h.box 1).1, h.reg.c6, hq ▸ look h.reg.oR Yba.underlying26 (zero44 W) hk hz, h⟩
theorem SG.drew (hk : keyOf Yba.prog 48 (keyV a b) = some (kOf a b)) (hz : D.atKey (kOf a b) (.held zeroF) = .held (.float .f64 c)) (hq : Maps.has D (kOf a b) = q) (h : SG q c w0 g bR bS n m D S a b W) : SG q c w0 g bR bS n m D S a b W.drew :=
  SG.of hk hz hq (h.2.2.2.2.bel (Below.refl W.heap.size W).drew)
end

set_option maxRecDepth 100000 in
set_option maxHeartbeats 4000000 in
theorem fig_hit (g bR bS n m : Nat) (D S : DataW Value) (a b : Int) (w : World) (hr : Reg g bR bS n m D S w) (hk : keyOf Yba.prog 48 (keyV a b) = some (kOf a b)) (hz : S.atKey (kOf a b) (.held zeroS) = .held zeroS) (hq : Maps.has S (kOf a b) = true) :
    Calls Yba.prog 6 #[.pointer (some ⟨g, 0, none⟩), keyV a b] w fun e w' => e = .returned (.tuple #[zeroF, .bool false]) ∧ Below w.heap.size w w' := by
  have h0 : FR w g bR bS n m D S a b (w.alloc (.cells #[.int .u16 a, .int .u32 b] 48)) := by
    have hb0 : Below w.heap.size w (w.alloc (.cells #[.int .u16 a, .int .u32 b] 48)) := (Below.refl _ _).alloc (Nat.le_refl _) _
    exact ⟨hr.below hb0, box_new _ _, hb0⟩
  have hs := SF.of hk hz hq h0
  have HK := Lib.hid (And.intro hk (And.intro hz hq))
  clear h0 hr hk hz hq
  go_enter Yba.func6, Yba.ntmps6
  go_wp2_with fail
  generalize w.alloc (.cells #[.int .u16 a, .int .u32 b] 48) = W at hs ⊢
  go_region_held3 (fun W => W.cell? ⟨w.heap.size, 0, none⟩ = some (.int .u16 a) ∧ W.cell? ⟨w.heap.size, 1, none⟩ = some (.int .u32 b) ∧ W.cell? ⟨g, 7, none⟩ = some (.map (some bS)) ∧
    (Instr.lookup 27 (.map (some bS)) (.agg #[.int .u16 a, .int .u32 b]) true).run Yba.prog W = .ok (.tuple #[.agg #[.float .f64 0, .bool false, .bool false, .bool false], .bool true]) W ∧ FR w g bR bS n m D S a b W) (first | with_reducible assumption | (repeat (with_reducible first | exact hs | refine SF.drew HK.out.1 HK.out.2.1 HK.out.2.2 ?_ | refine SF.alloc HK.out.1 HK.out.2.1 HK.out.2.2 ?_ _))) (fail)
  all_goals
    rename_i hHeld
    have HB := Lib.hid hHeld.2.2.2.2.below
    clear hHeld hs
    go_wp2_with fail
    go_quiet (fail)
    go_wp2
    go_ret2
    exact ⟨rfl, below_drewN HB.out _⟩

set_option maxRecDepth 100000 in
set_option maxHeartbeats 4000000 in
theorem fig_miss (g bR bS n m : Nat) (D S : DataW Value) (a b : Int) (w : World) (hr : Reg g bR bS n m D S w) (hk : keyOf Yba.prog 48 (keyV a b) = some (kOf a b)) (hz : S.atKey (kOf a b) (.held zeroS) = .held zeroS) (hq : Maps.has S (kOf a b) = false) (q : Bool) (c : Nat) (hz2 : D.atKey (kOf a b) (.held zeroF) = .held (.float .f64 c)) (hq2 : Maps.has D (kOf a b) = q) :
    Calls Yba.prog 6 #[.pointer (some ⟨g, 0, none⟩), keyV a b] w fun e w' => e = .returned (.tuple #[.float .f64 c, .bool q]) ∧ Below w.heap.size w w' := by
  have h0 : FR w g bR bS n m D S a b (w.alloc (.cells #[.int .u16 a, .int .u32 b] 48)) := by
    have hb0 : Below w.heap.size w (w.alloc (.cells #[.int .u16 a, .int .u32 b] 48)) := (Below.refl _ _).alloc (Nat.le_refl _) _
    exact ⟨hr.below hb0, box_new _ _, hb0⟩
  have hs := SF.of hk hz hq h0
  have HK := Lib.hid (And.intro hk (And.intro hz hq))
  have HD := Lib.hid (And.intro hz2 hq2)
  clear h0 hr hk hz hq hz2 hq2
  go_enter Yba.func6, Yba.ntmps6
  go_wp2_with fail
  generalize w.alloc (.cells #[.int .u16 a, .int .u32 b] 48) = W at hs ⊢
  go_region_held3 (fun W => W.cell? ⟨w.heap.size, 0, none⟩ = some (.int .u16 a) ∧ W.cell? ⟨w.heap.size, 1, none⟩ = some (.int .u32 b) ∧ W.cell? ⟨g, 7, none⟩ = some (.map (some bS)) ∧
    (Instr.lookup 27 (.map (some bS)) (.agg #[.int .u16 a, .int .u32 b]) true).run Yba.prog W = .ok (.tuple #[.agg #[.float .f64 0, .bool false, .bool false, .bool false], .bool false]) W ∧ FR w g bR bS n m D S a b W) (first | with_reducible assumption | (repeat (with_reducible first | exact hs | refine SF.drew HK.out.1 HK.out.2.1 HK.out.2.2 ?_ | refine SF.alloc HK.out.1 HK.out.2.1 HK.out.2.2 ?_ _))) (fail)
  all_goals
    rename_i hHeld
    have hs2 := SG.of HK.out.1 HD.out.1 HD.out.2 hHeld.2.2.2.2
    clear hHeld hs
    go_wp2_with fail
    generalize (W.alloc (.cells #[.float .f64 0, .bool false, .bool false, .bool false] 51)).drew = W4 at hs2 ⊢
    go_region_held3 (fun W => W.cell? ⟨w.heap.size, 0, none⟩ = some (.int .u16 a) ∧ W.cell? ⟨w.heap.size, 1, none⟩ = some (.int .u32 b) ∧ W.cell? ⟨g, 6, none⟩ = some (.map (some bR)) ∧
      (Instr.lookup 26 (.map (some bR)) (.agg #[.int .u16 a, .int .u32 b]) true).run Yba.prog W = .ok (.tuple #[.float .f64 c, .bool q]) W ∧ FR w g bR bS n m D S a b W) (first | with_reducible assumption | (repeat (with_reducible first | exact hs2 | refine SG.drew HK.out.1 HD.out.1 HD.out.2 ?_))) (fail)
    all_goals
      rename_i hHeld2
      have HB := Lib.hid hHeld2.2.2.2.2.below
      clear hHeld2 hs2
      go_wp2
      go_ret2
      exact ⟨rfl, HB.out⟩
end Go.Proofs.Ybulkdggs
