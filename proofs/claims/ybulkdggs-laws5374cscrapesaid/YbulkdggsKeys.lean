/- Keys, maps that hold values as they are, the registry in memory. -/
import Derived.Test.YbulkdggsRows
import Derived.WalkKit
import Derived.Maps.OwnSet
import Derived.Maps.Views
import Derived.DeepKeys5
import Derived.Deep.RegionHeld3
import Derived.BigQuiet
import Derived.Below
namespace Go.Proofs.Ybulkdggs
open Go.RowKit Go.Maps
set_option linter.unusedVariables false

theorem laidOut : laidOutB Yba.prog = true := by kernel_rfl
theorem law : Keyed Yba.prog 48 := Keyed.of_law (deep_law_laid laidOut (m := 3) (by omega) (of_decide_eq_true (by kernel_rfl)) (by kernel_rfl) (by kernel_rfl))
/-- a key, as a value -/
abbrev keyV (a b : Int) : Value := .agg #[.int .u16 a, .int .u32 b]
noncomputable def kOf (a b : Int) : Lit := (keyOf Yba.prog 48 (keyV a b)).getD (.bool false)
theorem key_of (a b : Int) (ha : 0 ≤ a ∧ a < 3) (hb : 0 ≤ b ∧ b < 4) : keyOf Yba.prog 48 (keyV a b) = some (kOf a b) := by
  have hs : (keyOf Yba.prog 48 (keyV a b)).isSome = true := by
    obtain rfl | rfl | rfl : a = 0 ∨ a = 1 ∨ a = 2 := by omega
    all_goals
      obtain rfl | rfl | rfl | rfl : b = 0 ∨ b = 1 ∨ b = 2 ∨ b = 3 := by omega
      all_goals kernel_rfl
  obtain ⟨l, hl⟩ := Option.isSome_iff_exists.1 hs
  unfold kOf
  rw [hl]
  rfl
theorem kOf_inj {a b a' b' : Int} (ha : 0 ≤ a ∧ a < 3) (hb : 0 ≤ b ∧ b < 4) (ha' : 0 ≤ a' ∧ a' < 3) (hb' : 0 ≤ b' ∧ b' < 4) (h : kOf a b = kOf a' b') : a = a' ∧ b = b' := by
  have h1 := key_of a b ha hb
  have h2 := key_of a' b' ha' hb'
  rw [← h] at h2
  have := law.inj h1 h2
  simpa using this
/-- an element is read as it is -/
def R (v : Value) : Option (DataW Value × List MemPlace) := some (.held v, [])
abbrev zeroF : Value := .float .f64 0
abbrev zeroS : Value := .agg #[.float .f64 0, .bool false, .bool false, .bool false]
theorem zero44 (w : World) : (zeroValue 44).run Yba.prog w = .ok zeroF w := by kernel_rfl
theorem zero51 (w : World) : (zeroValue 51).run Yba.prog w = .ok zeroS w := by kernel_rfl
/-- 'v, ok := m[k]' -/
theorem look {w : World} {t e b n : Nat} {D : DataW Value} {z v key : Value} {kl : Lit} (h : w.ownsMap Yba.prog 48 R b n D) (ht : Yba.prog.underlying t = some (.map 48 e)) (hz : (zeroValue e).run Yba.prog w = .ok z w) (hkey : keyOf Yba.prog 48 key = some kl) (hv : D.atKey kl (.held z) = .held v) :
    (Instr.lookup t (.map (some b)) key true).run Yba.prog w = .ok (.tuple #[v, .bool (Maps.has D kl)]) w := by
  obtain ⟨u, ps, hrun, hu⟩ := h.look_ok law ht hz (zd := .held z) (zp := []) rfl hkey
  rw [hv] at hu
  have : u = v := by
    have := (Prod.mk.inj (Option.some.inj hu)).1
    injection this
  rw [← this]
  exact hrun

/-- the registry, in memory -/
structure Reg (g bR bS n m : Nat) (D S : DataW Value) (w : World) : Prop where
  c3 : w.cell? ⟨g, 3, none⟩ = some (.int .i32 0)
  f3 : w.frozen? ⟨g, 3, none⟩ = false
  c6 : w.cell? ⟨g, 6, none⟩ = some (.map (some bR))
  c7 : w.cell? ⟨g, 7, none⟩ = some (.map (some bS))
  oR : w.ownsMap Yba.prog 48 R bR n D
  oS : w.ownsMap Yba.prog 48 R bS m S
theorem below_grown {w w' : World} (hb : Below w.heap.size w w') (r : Option Nat) : w.grownBy w' r := ⟨hb.os, hb.tape, hb.output, hb.size, fun k hk _ => hb.block k hk⟩
theorem Reg.below {g bR bS n m : Nat} {D S : DataW Value} {w w' : World} (h : Reg g bR bS n m D S w) (hb : Below w.heap.size w w') : Reg g bR bS n m D S w' where
  c3 := (hb.cell (block_lt_of_cell h.c3)).trans h.c3
  f3 := (hb.frozen (block_lt_of_cell h.c3)).trans h.f3
  c6 := (hb.cell (block_lt_of_cell h.c6)).trans h.c6
  c7 := (hb.cell (block_lt_of_cell h.c7)).trans h.c7
  oR := h.oR.kept (below_grown hb none) (by simp)
  oS := h.oS.kept (below_grown hb none) (by simp)

set_option maxHeartbeats 2000000 in
theorem key_any (s i : Int) (w : World) (hs : 0 ≤ s ∧ s ≤ 65535) (hi : 0 ≤ i ∧ i ≤ 4294967295) :
    Calls Yba.prog 5 #[.int .u16 s, .int .u32 i] w fun e w' => e = .returned (keyV (s % 3) (i % 4)) ∧ Below w.heap.size w w' := by
  go_enter Yba.func5, Yba.ntmps5
  go_wp2
  exact bodyPost_ret (v := keyV (s % 3) (i % 4)) (by simp [results, Yba.results5, go_sem]) rfl ⟨rfl, (Below.refl _ _).alloc (Nat.le_refl _) _⟩
theorem bits_run (b : Nat) (w : World) : (callFunc 8 #[.float .f64 b]).run Yba.prog w = .ok (.value (.int .u64 b)) w := by kernel_rfl
end Go.Proofs.Ybulkdggs
