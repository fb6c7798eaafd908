import Derived.Test.YbulkdggsDoorApp
import Derived.Laws.IdiomStrings
namespace Go.Proofs.YbulkdggsDoor
open Go.RowKit
set_option linter.unusedVariables false

/-- the string of the bytes zs -/
def strOf (zs : List Int) : ByteArray := ⟨(zs.map fun z => UInt8.ofNat z.toNat).toArray⟩
theorem own_shape {w : World} {B e s n : Nat} {v : Value} {xs : List Value} (h : w.ownsRow B e s v (n + 4) xs) : ∃ g cap, v = .slice (some ⟨g, 0, none⟩) (n + 4) cap ∧ B ≤ g := by
  rcases h.2 with ⟨_, h2⟩ | ⟨g, cap, cur, hv, hb, _⟩
  · omega
  · exact ⟨g, cap, hv, hb⟩
theorem conv_row {W : World} {B g n cap : Nat} {zs : List Int} (h : W.ownsRow B 5 1 (.slice (some ⟨g, 0, none⟩) n cap) n (cellsOf zs)) (hz : ∀ x ∈ zs, isB x) :
    (convert 35 9 (.slice (some ⟨g, 0, none⟩) n cap)).run Ybad.prog W = .ok (.string (strOf zs)) W := by
  have hl : zs.length = n := by have := h.1; simpa using this
  have hc := h.cells (g := g) rfl
  have := run_convert_bytes_back (P := Ybad.prog) W 35 9 5 ⟨g, 0, none⟩ cap (zs.map fun z => UInt8.ofNat z.toNat) Ybad.underlying35 Ybad.underlying5 Ybad.underlying9 (by
    intro j hj
    rw [List.length_map] at hj
    have h1 := hc j (.int .u8 zs[j]) (by rw [List.getElem?_map, List.getElem?_eq_getElem hj]; rfl)
    have h2 := hz zs[j] (List.getElem_mem hj)
    unfold isB at h2
    rw [h1, List.getElem_map, UInt8.toNat_ofNat_of_lt' (by show zs[j].toNat < 256; omega)]
    congr 2
    omega)
  rw [List.length_map, hl] at this
  exact this
theorem there_old {W : World} {g n : Nat} {c : Array Value} {t : TypeId} (h : W.heap[g]? = some (.cells c t)) (hc : c.size = n) : There g n W := by
  intro i hi
  obtain ⟨h1, h2⟩ := box_cell h i
  refine ⟨?_, h2⟩
  rw [h1, Array.getElem?_eq_getElem (by omega)]
  rfl
theorem there5 {g : Nat} {W : World} (h : There g 5 W) : (∃ x, W.cell? ⟨g, 0, none⟩ = some x ∧ W.frozen? ⟨g, 0, none⟩ = false) ∧ (∃ x, W.cell? ⟨g, 1, none⟩ = some x ∧ W.frozen? ⟨g, 1, none⟩ = false) ∧ (∃ x, W.cell? ⟨g, 2, none⟩ = some x ∧ W.frozen? ⟨g, 2, none⟩ = false) ∧ (∃ x, W.cell? ⟨g, 3, none⟩ = some x ∧ W.frozen? ⟨g, 3, none⟩ = false) ∧ (∃ x, W.cell? ⟨g, 4, none⟩ = some x ∧ W.frozen? ⟨g, 4, none⟩ = false) := by
  have hh : ∀ i, i < 5 → ∃ x, W.cell? ⟨g, i, none⟩ = some x ∧ W.frozen? ⟨g, i, none⟩ = false := fun i hi => by
    obtain ⟨x, hx⟩ := Option.isSome_iff_exists.1 (h i hi).1
    exact ⟨x, hx, (h i hi).2⟩
  exact ⟨hh 0 (by omega), hh 1 (by omega), hh 2 (by omega), hh 3 (by omega), hh 4 (by omega)⟩
theorem below_grown {w w' : World} (hb : Below w.heap.size w w') (r : Option Nat) : w.grownBy w' r := ⟨hb.os, hb.tape, hb.output, hb.size, fun k hk _ => hb.block k hk⟩
theorem Glob.set {p4 p6 : Addr} {W : World} (h : Glob p4 p6 W) (a : Addr) (v : Value) (ha : 5 < a.block) (h4 : p4.block ≠ a.block) (h6 : p6.block ≠ a.block) : Glob p4 p6 (W.setCell a v) where
  a0 := (World.cell?_setCell_far _ _ _ _ (by show a.block ≠ 0; omega)).trans h.a0
  a1 := (World.cell?_setCell_far _ _ _ _ (by show a.block ≠ 0; omega)).trans h.a1
  b0 := (World.cell?_setCell_far _ _ _ _ (by show a.block ≠ 1; omega)).trans h.b0
  b1 := (World.cell?_setCell_far _ _ _ _ (by show a.block ≠ 1; omega)).trans h.b1
  z4 := (World.cell?_setCell_far _ _ _ _ (by show a.block ≠ 3; omega)).trans h.z4
  z6 := (World.cell?_setCell_far _ _ _ _ (by show a.block ≠ 4; omega)).trans h.z6
  z0 := (World.cell?_setCell_far _ _ _ _ (by show a.block ≠ 5; omega)).trans h.z0
  h4 := by
    obtain ⟨c, t, h⟩ := h.h4
    exact ⟨c, t, (Below.heap_setCell _ _ _ _ h4).trans h⟩
  h6 := by
    obtain ⟨c, t, h⟩ := h.h6
    exact ⟨c, t, (Below.heap_setCell _ _ _ _ h6).trans h⟩
  ne := h.ne

/-- what is held over Route's last region, out of sight -/
structure R7 (K : ByteArray) (w0 : World) (N B : Nat) (g n c : Nat) (zs : List Int) (p4 p6 : Addr) (W : World) : Prop where
  there : There (N + 1) 5 W
  own : W.ownsRow B 5 1 (.slice (some ⟨g, 0, none⟩) n c) n (cellsOf zs)
  glob : Glob p4 p6 W
  isb : ∀ x ∈ zs, isB x
  key : K = strOf zs
  lt : N + 1 < B ∧ 5 < N ∧ p4.block < N ∧ p6.block < N
  below : Below N w0 W
theorem R7.bel {K : ByteArray} {w0 : World} {N B g n c : Nat} {zs : List Int} {p4 p6 : Addr} {W w1 : World} (hb : Below W.heap.size W w1) (h : R7 K w0 N B g n c zs p4 p6 W) : R7 K w0 N B g n c zs p4 p6 w1 where
  there i hi := by
    obtain ⟨u, hu⟩ := Option.isSome_iff_exists.1 (h.there i hi).1
    have hl := block_lt_of_cell hu
    exact ⟨by rw [hb.cell (p := ⟨N + 1, i, none⟩) hl]; exact (h.there i hi).1, (hb.frozen (p := ⟨N + 1, i, none⟩) hl).trans (h.there i hi).2⟩
  own := h.own.kept (below_grown hb none) (.inr (by simp [Value.ownBlock]))
  glob := h.glob.below hb
  isb := h.isb
  key := h.key
  lt := h.lt
  below := h.below.trans (hb.mono (by
    have := h.own.lt g rfl
    have := h.lt
    omega))
theorem R7.conv {K : ByteArray} {w0 : World} {N B g n c : Nat} {zs : List Int} {p4 p6 : Addr} {W : World} (h : R7 K w0 N B g n c zs p4 p6 W) : (convert 35 9 (.slice (some ⟨g, 0, none⟩) n c)).run Ybad.prog W = .ok (.string K) W := by
  rw [h.key]
  exact conv_row h.own h.isb
abbrev S7 (w0 : World) (N B : Nat) (hi lo : Int) (z : Option Addr) (g n c : Nat) (zs : List Int) (K : ByteArray) (p4 p6 : Addr) (W : World) : Prop :=
  W.cell? ⟨N, 8, none⟩ = some (.int .u64 hi) ∧ W.cell? ⟨N, 9, none⟩ = some (.int .u64 lo) ∧ W.cell? ⟨N, 10, none⟩ = some (.pointer z) ∧ (convert 35 9 (.slice (some ⟨g, 0, none⟩) n c)).run Ybad.prog W = .ok (.string K) W ∧ R7 K w0 N B g n c zs p4 p6 W
theorem S7.glob {w0 : World} {N B : Nat} {hi lo : Int} {z : Option Addr} {g n c : Nat} {zs : List Int} {K : ByteArray} {p4 p6 : Addr} {W : World} (h : S7 w0 N B hi lo z g n c zs K p4 p6 W) : Glob p4 p6 W := h.2.2.2.2.glob
theorem S7.below {w0 : World} {N B : Nat} {hi lo : Int} {z : Option Addr} {g n c : Nat} {zs : List Int} {K : ByteArray} {p4 p6 : Addr} {W w1 : World} (hb : Below W.heap.size W w1) (h : S7 w0 N B hi lo z g n c zs K p4 p6 W) : S7 w0 N B hi lo z g n c zs K p4 p6 w1 := by
  obtain ⟨h0, h1, h2, h3, h4⟩ := h
  exact ⟨(hb.cell (block_lt_of_cell h0)).trans h0, (hb.cell (block_lt_of_cell h1)).trans h1, (hb.cell (block_lt_of_cell h2)).trans h2, (h4.bel hb).conv, h4.bel hb⟩
theorem S7.drew {w0 : World} {N B : Nat} {hi lo : Int} {z : Option Addr} {g n c : Nat} {zs : List Int} {K : ByteArray} {p4 p6 : Addr} {W : World} (h : S7 w0 N B hi lo z g n c zs K p4 p6 W) : S7 w0 N B hi lo z g n c zs K p4 p6 W.drew :=
  S7.below (Below.refl W.heap.size W).drew h
theorem S7.set {w0 : World} {N B : Nat} {hi lo : Int} {z : Option Addr} {g n c : Nat} {zs : List Int} {K : ByteArray} {p4 p6 : Addr} {W : World} (h : S7 w0 N B hi lo z g n c zs K p4 p6 W) (i : Nat) (v : Value) : S7 w0 N B hi lo z g n c zs K p4 p6 (W.setCell ⟨N + 1, i, none⟩ v) := by
  obtain ⟨h0, h1, h2, h3, h4⟩ := h
  have hgB : B ≤ g := (h4.own.lt g rfl).1
  have hlt := h4.lt
  have h5 : R7 K w0 N B g n c zs p4 p6 (W.setCell ⟨N + 1, i, none⟩ v) := {
    there := fun k hk => ⟨isSome_setCell _ _ _ _ (h4.there k hk).1, by rw [World.frozen?_setCell]; exact (h4.there k hk).2⟩
    own := h4.own.kept (Lib.grownBy_setCell W (N + 1) i v) (.inr (by simp [Value.ownBlock]; omega))
    glob := h4.glob.set _ _ (by show 5 < N + 1; omega) (by show p4.block ≠ N + 1; omega) (by show p6.block ≠ N + 1; omega)
    isb := h4.isb
    key := h4.key
    lt := h4.lt
    below := h4.below.setCell (p := ⟨N + 1, i, none⟩) (Nat.le_succ N) v }
  refine ⟨?_, ?_, ?_, h5.conv, h5⟩
  · rw [World.cell?_setCell_far _ _ _ _ (by show N + 1 ≠ N; omega)]; exact h0
  · rw [World.cell?_setCell_far _ _ _ _ (by show N + 1 ≠ N; omega)]; exact h1
  · rw [World.cell?_setCell_far _ _ _ _ (by show N + 1 ≠ N; omega)]; exact h2
theorem S7.set5 {w0 : World} {N B : Nat} {hi lo : Int} {z : Option Addr} {g n c : Nat} {zs : List Int} {K : ByteArray} {p4 p6 : Addr} {W : World} (h : S7 w0 N B hi lo z g n c zs K p4 p6 W) (u0 u1 u2 u3 u4 : Value) :
    S7 w0 N B hi lo z g n c zs K p4 p6 (((((W.setCell ⟨N + 1, 0, none⟩ u0).setCell ⟨N + 1, 1, none⟩ u1).setCell ⟨N + 1, 2, none⟩ u2).setCell ⟨N + 1, 3, none⟩ u3).setCell ⟨N + 1, 4, none⟩ u4) :=
  (((((h.set 0 u0).set 1 u1).set 2 u2).set 3 u3).set 4 u4)
theorem stores5 (b : Nat) {v0 v1 v2 v3 v4 : Value} (x0 x1 x2 x3 x4 : Value) (w : World)
    (c0 : w.cell? ⟨b, 0, none⟩ = some v0) (c1 : w.cell? ⟨b, 1, none⟩ = some v1) (c2 : w.cell? ⟨b, 2, none⟩ = some v2) (c3 : w.cell? ⟨b, 3, none⟩ = some v3) (c4 : w.cell? ⟨b, 4, none⟩ = some v4) :
    (((((w.setCell ⟨b, 0, none⟩ x0).setCell ⟨b, 1, none⟩ x1).setCell ⟨b, 2, none⟩ x2).setCell ⟨b, 3, none⟩ x3).setCell ⟨b, 4, none⟩ x4).cell? ⟨b, 0, none⟩ = some x0 ∧
    (((((w.setCell ⟨b, 0, none⟩ x0).setCell ⟨b, 1, none⟩ x1).setCell ⟨b, 2, none⟩ x2).setCell ⟨b, 3, none⟩ x3).setCell ⟨b, 4, none⟩ x4).cell? ⟨b, 1, none⟩ = some x1 ∧
    (((((w.setCell ⟨b, 0, none⟩ x0).setCell ⟨b, 1, none⟩ x1).setCell ⟨b, 2, none⟩ x2).setCell ⟨b, 3, none⟩ x3).setCell ⟨b, 4, none⟩ x4).cell? ⟨b, 2, none⟩ = some x2 ∧
    (((((w.setCell ⟨b, 0, none⟩ x0).setCell ⟨b, 1, none⟩ x1).setCell ⟨b, 2, none⟩ x2).setCell ⟨b, 3, none⟩ x3).setCell ⟨b, 4, none⟩ x4).cell? ⟨b, 3, none⟩ = some x3 ∧
    (((((w.setCell ⟨b, 0, none⟩ x0).setCell ⟨b, 1, none⟩ x1).setCell ⟨b, 2, none⟩ x2).setCell ⟨b, 3, none⟩ x3).setCell ⟨b, 4, none⟩ x4).cell? ⟨b, 4, none⟩ = some x4 := by
  obtain ⟨t0, t1, t2⟩ := stores3 b x0 x1 x2 w c0 c1 c2
  have t3 : (((w.setCell ⟨b, 0, none⟩ x0).setCell ⟨b, 1, none⟩ x1).setCell ⟨b, 2, none⟩ x2).cell? ⟨b, 3, none⟩ = some v3 := by
    rw [World.cell?_setCell_other _ _ _ _ (ne_off (by omega)), World.cell?_setCell_other _ _ _ _ (ne_off (by omega)), World.cell?_setCell_other _ _ _ _ (ne_off (by omega))]; exact c3
  have t4 : ((((w.setCell ⟨b, 0, none⟩ x0).setCell ⟨b, 1, none⟩ x1).setCell ⟨b, 2, none⟩ x2).setCell ⟨b, 3, none⟩ x3).cell? ⟨b, 4, none⟩ = some v4 := by
    rw [World.cell?_setCell_other _ _ _ _ (ne_off (by omega)), World.cell?_setCell_other _ _ _ _ (ne_off (by omega)), World.cell?_setCell_other _ _ _ _ (ne_off (by omega)), World.cell?_setCell_other _ _ _ _ (ne_off (by omega))]; exact c4
  refine ⟨?_, ?_, ?_, ?_, World.cell?_setCell_same _ _ _ t4⟩
  · rw [World.cell?_setCell_other _ _ _ _ (ne_off (by omega)), World.cell?_setCell_other _ _ _ _ (ne_off (by omega))]; exact t0
  · rw [World.cell?_setCell_other _ _ _ _ (ne_off (by omega)), World.cell?_setCell_other _ _ _ _ (ne_off (by omega))]; exact t1
  · rw [World.cell?_setCell_other _ _ _ _ (ne_off (by omega)), World.cell?_setCell_other _ _ _ _ (ne_off (by omega))]; exact t2
  · rw [World.cell?_setCell_other _ _ _ _ (ne_off (by omega))]; exact World.cell?_setCell_same _ _ _ t3
/-- the bytes of the route -/
def wire (r0 r1 r2 r3 r4 r5 r6 r7 t : Int) (zs : List Int) : List Int := [1, 0, 4, 13 + (zs.length : Int)] ++ [r0, r1, r2, r3, r4, r5, r6, r7] ++ [8 * (zs.length : Int) + 32] ++ zs ++ [t / 16777216, t / 65536 % 256, t / 256 % 256, t % 256]
/-- what Route answers -/
def RoutePost (zs : List Int) (f : Int) (cs : Value) (w : World) (e : Ending) (w' : World) : Prop :=
  ∃ g c, e = .returned (.agg #[.int .u16 f, .int .u8 85, .string (strOf zs), .slice (some ⟨g, 0, none⟩) zs.length c, cs]) ∧ w.heap.size ≤ g ∧ (∀ j u, (cellsOf zs)[j]? = some u → w'.cell? ⟨g, j, none⟩ = some u) ∧ Below w.heap.size w w'
theorem routePost_of {K : ByteArray} {w W : World} {N B g n c : Nat} {zs zs' : List Int} {p4 p6 : Addr} {f : Int} {cs : Value} (hN : N = w.heap.size) (hz : zs' = zs) (h : R7 K w N B g n c zs p4 p6 W) :
    RoutePost zs' f cs w (.returned (.agg #[.int .u16 f, .int .u8 85, .string K, .slice (some ⟨g, 0, none⟩) n c, cs])) W := by
  subst hN hz
  have hl : zs'.length = n := by have := h.own.1; simpa using this
  refine ⟨g, c, ?_, ?_, fun j u hj => ?_, h.below⟩
  · rw [h.key, hl]
  · have := (h.own.lt g rfl).1
    have := h.lt
    omega
  · have := h.own.cells (g := g) rfl j u hj
    rwa [add_off] at this
theorem all_nil {r0 r1 r2 r3 r4 r5 r6 r7 t : Int} (b0 : isB r0) (b1 : isB r1) (b2 : isB r2) (b3 : isB r3) (b4 : isB r4) (b5 : isB r5) (b6 : isB r6) (b7 : isB r7) (ht : 0 ≤ t ∧ t < 4294967296) : ∀ x ∈ ([1, 0, 4, (13 : Int)] ++ [r0, r1, r2, r3, r4, r5, r6, r7] ++ [(32 : Int)] ++ [] ++ [t / 16777216, t / 65536 % 256, t / 256 % 256, t % 256]), isB x := by
  intro x hx
  simp at hx
  rcases hx with rfl | rfl | rfl | rfl | rfl | rfl | rfl | rfl | rfl | rfl | rfl | rfl | rfl | rfl | rfl | rfl | rfl <;> first | assumption | (unfold isB; omega)
theorem all_some {r0 r1 r2 r3 r4 r5 r6 r7 t : Int} {zs : List Int} (b0 : isB r0) (b1 : isB r1) (b2 : isB r2) (b3 : isB r3) (b4 : isB r4) (b5 : isB r5) (b6 : isB r6) (b7 : isB r7) (ht : 0 ≤ t ∧ t < 4294967296) (hzs : 0 < zs.length ∧ zs.length ≤ 16) (hzB : ∀ x ∈ zs, isB x) : ∀ x ∈ ([1, 0, 4, 9 + (zs.length : Int) + 4] ++ [r0, r1, r2, r3, r4, r5, r6, r7] ++ [8 * (zs.length : Int) + 32] ++ zs ++ [t / 16777216, t / 65536 % 256, t / 256 % 256, t % 256]), isB x := by
  intro x hx
  simp only [List.mem_append] at hx
  rcases hx with (((hx | hx) | hx) | hx) | hx
  · simp at hx
    rcases hx with rfl | rfl | rfl | rfl <;> (unfold isB; omega)
  · simp at hx
    rcases hx with rfl | rfl | rfl | rfl | rfl | rfl | rfl | rfl <;> assumption
  · simp at hx
    rcases hx with rfl
    unfold isB; omega
  · exact hzB x hx
  · simp at hx
    rcases hx with rfl | rfl | rfl | rfl <;> (unfold isB; omega)
theorem ep_news {W W' : World} {g : Nat} {xs : List Value} (h : ∀ j u, xs[j]? = some u → W.cell? ((⟨g, 0, none⟩ : Addr).add j) = some u) (hg : g < W.heap.size) (hb : Below W.heap.size W W') (j : Nat) (u : Value) (hj : xs[j]? = some u) : W'.cell? ((⟨g, 0, none⟩ : Addr).add j) = some u :=
  (hb.cell (p := (⟨g, 0, none⟩ : Addr).add j) (by rw [add_off]; exact hg)).trans (h j u hj)
theorem rd_news {W : World} {g : Nat} {r0 r1 r2 r3 r4 r5 r6 r7 hi lo t : Int} {z : Option Addr} (h : W.heap[g]? = some (.cells #[.int .u8 r0, .int .u8 r1, .int .u8 r2, .int .u8 r3, .int .u8 r4, .int .u8 r5, .int .u8 r6, .int .u8 r7, .int .u64 hi, .int .u64 lo, .pointer z, .int .u32 t] 45)) (j : Nat) (u : Value) (hj : (cellsOf [r0, r1, r2, r3, r4, r5, r6, r7])[j]? = some u) : W.cell? ((⟨g, 0, none⟩ : Addr).add j) = some u := by
  rw [add_off, (box_cell h j).1]
  have hl : j < 8 := (List.getElem?_eq_some_iff.1 hj).1
  match j, hl with
  | 0, _ => exact hj
  | 1, _ => exact hj
  | 2, _ => exact hj
  | 3, _ => exact hj
  | 4, _ => exact hj
  | 5, _ => exact hj
  | 6, _ => exact hj
  | 7, _ => exact hj

set_option maxHeartbeats 8000000 in
theorem route_nil (r0 r1 r2 r3 r4 r5 r6 r7 hi lo t f : Int) (z : Option Addr) (ca : Option Addr) (cl cc : Nat) (p4 p6 : Addr) (w : World) (hG : Glob p4 p6 w) (b0 : isB r0) (b1 : isB r1) (b2 : isB r2) (b3 : isB r3) (b4 : isB r4) (b5 : isB r5) (b6 : isB r6) (b7 : isB r7) (ht : 0 ≤ t ∧ t < 4294967296)
    (hAs : ∀ W, Glob p4 p6 W → Calls Ybad.prog 8 #[addrV hi lo z] W fun e w' => e = .returned (.slice none 0 0) ∧ Below W.heap.size W w')
    (hFam : ∀ W, Glob p4 p6 W → Calls Ybad.prog 11 #[addrV hi lo z] W fun e w' => e = .returned (.agg #[.int .u16 f, .int .u8 85]) ∧ Below W.heap.size W w') :
    Calls Ybad.prog 5 #[.agg #[.int .u8 r0, .int .u8 r1, .int .u8 r2, .int .u8 r3, .int .u8 r4, .int .u8 r5, .int .u8 r6, .int .u8 r7, .int .u64 hi, .int .u64 lo, .pointer z, .int .u32 t], .slice ca cl cc] w fun e w' => RoutePost (wire r0 r1 r2 r3 r4 r5 r6 r7 t []) f (.slice ca cl cc) w e w' := by
  obtain ⟨i0, hi1, hi2, hi3, hi4⟩ := info_parts info5
  have hl2 : 2 < w.heap.size := by have : 5 < w.heap.size := block_lt_of_cell hG.z0; omega
  have hp : 5 < w.heap.size ∧ p4.block < w.heap.size ∧ p6.block < w.heap.size := by
    obtain ⟨c4, t4, h4⟩ := hG.h4
    obtain ⟨c6, t6, h6⟩ := hG.h6
    exact ⟨block_lt_of_cell hG.z0, lt_of_some h4, lt_of_some h6⟩
  have hb0 : Below w.heap.size w ((w.alloc (.cells #[.int .u8 r0, .int .u8 r1, .int .u8 r2, .int .u8 r3, .int .u8 r4, .int .u8 r5, .int .u8 r6, .int .u8 r7, .int .u64 hi, .int .u64 lo, .pointer z, .int .u32 t] 45)).alloc (.cells #[.int .u16 0, .int .u8 0, .string ⟨#[]⟩, .slice none 0 0, .slice none 0 0] 42)) := ((Below.refl _ _).alloc (Nat.le_refl _) _).alloc (by simp) _
  have hx0 : ((w.alloc (.cells #[.int .u8 r0, .int .u8 r1, .int .u8 r2, .int .u8 r3, .int .u8 r4, .int .u8 r5, .int .u8 r6, .int .u8 r7, .int .u64 hi, .int .u64 lo, .pointer z, .int .u32 t] 45)).alloc (.cells #[.int .u16 0, .int .u8 0, .string ⟨#[]⟩, .slice none 0 0, .slice none 0 0] 42)).heap[w.heap.size]? = some (.cells #[.int .u8 r0, .int .u8 r1, .int .u8 r2, .int .u8 r3, .int .u8 r4, .int .u8 r5, .int .u8 r6, .int .u8 r7, .int .u64 hi, .int .u64 lo, .pointer z, .int .u32 t] 45) := box_old (box_new _ _)
  have hx1 : ((w.alloc (.cells #[.int .u8 r0, .int .u8 r1, .int .u8 r2, .int .u8 r3, .int .u8 r4, .int .u8 r5, .int .u8 r6, .int .u8 r7, .int .u64 hi, .int .u64 lo, .pointer z, .int .u32 t] 45)).alloc (.cells #[.int .u16 0, .int .u8 0, .string ⟨#[]⟩, .slice none 0 0, .slice none 0 0] 42)).heap[w.heap.size + 1]? = some (.cells #[.int .u16 0, .int .u8 0, .string ⟨#[]⟩, .slice none 0 0, .slice none 0 0] 42) := by
    have := box_new (w.alloc (.cells #[.int .u8 r0, .int .u8 r1, .int .u8 r2, .int .u8 r3, .int .u8 r4, .int .u8 r5, .int .u8 r6, .int .u8 r7, .int .u64 hi, .int .u64 lo, .pointer z, .int .u32 t] 45)) (.cells #[.int .u16 0, .int .u8 0, .string ⟨#[]⟩, .slice none 0 0, .slice none 0 0] 42)
    rw [show (w.alloc (.cells #[.int .u8 r0, .int .u8 r1, .int .u8 r2, .int .u8 r3, .int .u8 r4, .int .u8 r5, .int .u8 r6, .int .u8 r7, .int .u64 hi, .int .u64 lo, .pointer z, .int .u32 t] 45)).heap.size = w.heap.size + 1 from by simp] at this
    exact this
  have HG := Lib.hid (hG.below hb0)
  have HB := Lib.hid hb0
  have HX := Lib.hid (And.intro hx0 hx1)
  have HAS := Lib.hid hAs
  have HF := Lib.hid hFam
  clear hG hb0 hx0 hx1 hAs hFam
  go_enter Ybad.func5, Ybad.ntmps5
  go_wp2_with (go_at_call 8; refine (HAS.out _ HG.out).mono ?_; rintro e w1 ⟨rfl, hb1⟩; refine Hid.out ?_)
  refine Lib.hid ?_
  have HG1 := Lib.hid (HG.out.below hb1)
  have HB1 := Lib.hid (HB.out.trans (hb1.mono HB.out.size))
  have HX1 := Lib.hid (And.intro (box_below HX.out.1 hb1) (box_below HX.out.2 hb1))
  have hz1 := HB1.out.size
  have hzz : w.heap.size + 1 < w1.heap.size := lt_of_box HX1.out.2
  clear hb1 HG HB HX HAS
  go_wp2_with (go_at_call 9; refine (start_any _ _ (by omega) (by omega)).mono ?_; rintro e w2 ⟨v2, rfl, ho2, hb2⟩; refine Hid.out ?_)
  refine Lib.hid ?_
  have HK2 := Lib.hid hb2
  have HO2 := Lib.hid ho2
  have hz2 := hb2.size
  clear ho2 hb2
  go_wp2_with (at_builtin; refine wpList_append_own _ rfl _ _ 35 rfl w1.heap.size 5 i0 (.int .u8 0) 1 1 Ybad.underlying35 hi1 hi2 hi3 hi4 rfl (by decide) (v2) (4) (cellsOf [1, 0, 4, (13 : Int)]) rfl HO2.out ⟨w.heap.size, 0, none⟩ 8 8 (cellsOf [r0, r1, r2, r3, r4, r5, r6, r7]) rfl rfl (rd_news (box_below HX1.out.1 HK2.out)) (one_cells _) (by unfold maxLen; omega) (by omega) hz2 ?_; refine Hid.out ?_)
  refine Lib.hid ?_
  intro v3 w3 ho3 hg3 hi3'
  have HK3 := Lib.hid (HK2.out.trans (row_below HO2.out hg3 hz2))
  have hz3 := HK3.out.size
  have ho3' : w3.ownsRow w1.heap.size 5 1 v3 12 (cellsOf ([1, 0, 4, (13 : Int)] ++ [r0, r1, r2, r3, r4, r5, r6, r7])) := ho3
  have HO3 := Lib.hid (ho3'.alloc (.cells #[.int .u8 ((32 : Int))] 5))
  clear ho3 ho3' hg3 hi3' HO2 HK2
  go_wp2_with (at_builtin; refine wpList_append_own _ rfl _ _ 35 rfl w1.heap.size 5 i0 (.int .u8 0) 1 1 Ybad.underlying35 hi1 hi2 hi3 hi4 rfl (by decide) (v3) (12) (cellsOf ([1, 0, 4, (13 : Int)] ++ [r0, r1, r2, r3, r4, r5, r6, r7])) rfl HO3.out ⟨w3.heap.size, 0, none⟩ 1 1 (cellsOf [(32 : Int)]) rfl rfl (one_new w3 ((32 : Int))) (one_cells _) (by unfold maxLen; omega) (by omega) (by simp; omega) ?_; refine Hid.out ?_)
  refine Lib.hid ?_
  intro v4 w4 ho4 hg4 hi4'
  have HK4 := Lib.hid ((HK3.out.alloc (o := .cells #[.int .u8 ((32 : Int))] 5) hz3).trans (row_below HO3.out hg4 (by simp; omega)))
  have hz4 := HK4.out.size
  have ho4' : w4.ownsRow w1.heap.size 5 1 v4 13 (cellsOf ([1, 0, 4, (13 : Int)] ++ [r0, r1, r2, r3, r4, r5, r6, r7] ++ [(32 : Int)])) := ho4
  have HO4 := Lib.hid ho4'
  clear ho4 ho4' hg4 hi4' HO3 HK3
  go_wp2_with (at_builtin; refine wpList_append_own_none rfl _ _ 35 rfl w1.heap.size 5 i0 1 Ybad.underlying35 hi1 v4 13 (cellsOf ([1, 0, 4, (13 : Int)] ++ [r0, r1, r2, r3, r4, r5, r6, r7] ++ [(32 : Int)])) rfl HO4.out rfl ?_; refine Hid.out ?_)
  refine Lib.hid ?_
  have HO5 : Hid (w4.ownsRow w1.heap.size 5 1 v4 13 (cellsOf ([1, 0, 4, (13 : Int)] ++ [r0, r1, r2, r3, r4, r5, r6, r7] ++ [(32 : Int)] ++ []))) := HO4
  clear HO4
  have ct := (box_cell (box_below HX1.out.1 HK4.out) 11).1
  go_wp2_with (go_at_call 10; refine (app32_any w1.heap.size 13 t v4 (cellsOf ([1, 0, 4, (13 : Int)] ++ [r0, r1, r2, r3, r4, r5, r6, r7] ++ [(32 : Int)] ++ [])) _ ht HO5.out hz4 (by omega)).mono ?_; rintro e w6 ⟨v6, rfl, ho6, hb6⟩; refine Hid.out ?_)
  refine Lib.hid ?_
  have HK6 := Lib.hid (HK4.out.trans hb6)
  have HO6 := Lib.hid ho6
  clear ho6 hb6 HO5 HK4 ct
  go_wp2_with fail
  obtain ⟨g6, c6, hv6, hb6⟩ := own_shape HO6.out
  rw [hv6]
  have hs6 : S7 w w.heap.size w1.heap.size hi lo z g6 (13 + 4) c6 ([1, 0, 4, (13 : Int)] ++ [r0, r1, r2, r3, r4, r5, r6, r7] ++ [(32 : Int)] ++ [] ++ [t / 16777216, t / 65536 % 256, t / 256 % 256, t % 256]) (strOf ([1, 0, 4, (13 : Int)] ++ [r0, r1, r2, r3, r4, r5, r6, r7] ++ [(32 : Int)] ++ [] ++ [t / 16777216, t / 65536 % 256, t / 256 % 256, t % 256])) p4 p6 w6 := by
    have ho : w6.ownsRow w1.heap.size 5 1 (.slice (some ⟨g6, 0, none⟩) (13 + 4) c6) (13 + 4) (cellsOf ([1, 0, 4, (13 : Int)] ++ [r0, r1, r2, r3, r4, r5, r6, r7] ++ [(32 : Int)] ++ [] ++ [t / 16777216, t / 65536 % 256, t / 256 % 256, t % 256])) := by
      have h := HO6.out
      rw [hv6] at h
      rw [show cellsOf ([1, 0, 4, (13 : Int)] ++ [r0, r1, r2, r3, r4, r5, r6, r7] ++ [(32 : Int)] ++ [] ++ [t / 16777216, t / 65536 % 256, t / 256 % 256, t % 256]) = cellsOf ([1, 0, 4, (13 : Int)] ++ [r0, r1, r2, r3, r4, r5, r6, r7] ++ [(32 : Int)] ++ []) ++ cellsOf [t / 16777216, t / 65536 % 256, t / 256 % 256, t % 256] from List.map_append]
      exact h
    have hx := box_below HX1.out.1 HK6.out
    exact ⟨(box_cell hx 8).1, (box_cell hx 9).1, (box_cell hx 10).1, conv_row ho (all_nil b0 b1 b2 b3 b4 b5 b6 b7 ht), ⟨there_old (box_below HX1.out.2 HK6.out) rfl, ho, HG1.out.below HK6.out, (all_nil b0 b1 b2 b3 b4 b5 b6 b7 ht), rfl, ⟨hzz, hp⟩, HB1.out.trans (HK6.out.mono hz1)⟩⟩
  clear hv6 HO6 HK6 HG1 HX1
  generalize hK : strOf ([1, 0, 4, (13 : Int)] ++ [r0, r1, r2, r3, r4, r5, r6, r7] ++ [(32 : Int)] ++ [] ++ [t / 16777216, t / 65536 % 256, t / 256 % 256, t % 256]) = K at hs6
  generalize hA : [1, 0, 4, (13 : Int)] ++ [r0, r1, r2, r3, r4, r5, r6, r7] ++ [(32 : Int)] ++ [] ++ [t / 16777216, t / 65536 % 256, t / 256 % 256, t % 256] = zsA at hs6
  generalize hn6 : (13 + 4) = n6 at hs6 ⊢
  have hS := hs6
  have HE7 := Lib.hid (And.intro hK (And.intro hA hn6))
  clear hs6 hK hA hn6
  go_region_held3 (fun W => W.cell? ⟨w.heap.size, 8, none⟩ = some (.int .u64 hi) ∧ W.cell? ⟨w.heap.size, 9, none⟩ = some (.int .u64 lo) ∧ W.cell? ⟨w.heap.size, 10, none⟩ = some (.pointer z) ∧ (convert 35 9 (.slice (some ⟨g6, 0, none⟩) n6 c6)).run Ybad.prog W = .ok (.string K) W ∧ R7 K w w.heap.size w1.heap.size g6 n6 c6 zsA p4 p6 W) (first | with_reducible assumption | with_reducible exact S7.drew hS | with_reducible exact S7.set5 (by with_reducible assumption) _ _ _ _ _)
    (first
      | (go_at_call 11; refine (HF.out _ (S7.glob (K := K) (w0 := w) (N := w.heap.size) (B := w1.heap.size) (hi := hi) (lo := lo) (z := z) (g := g6) (n := n6) (c := c6) (zs := zsA) (by with_reducible assumption))).mono ?_; rintro e w7 ⟨rfl, hb7⟩; have g7 : S7 w w.heap.size w1.heap.size hi lo z g6 n6 c6 zsA K p4 p6 w7 := S7.below hb7 (by with_reducible assumption); obtain ⟨⟨x0, e0, f0⟩, ⟨x1, e1, f1⟩, ⟨x2, e2, f2⟩, ⟨x3, e3, f3⟩, ⟨x4, e4, f4⟩⟩ := there5 g7.2.2.2.2.there))
  all_goals
    go_wp2
    rename_i hHeld
    have hR := hHeld.2.2.2.2
    clear hHeld
    have st := stores5 (w.heap.size + 1) (.int .u16 f) (.int .u8 85) (.string K) (.slice (some ⟨g6, 0, none⟩) n6 c6) (.slice ca cl cc) _ e0 e1 e2 e3 e4
    refine bodyPost_ret (v := .agg #[.int .u16 f, .int .u8 85, .string K, .slice (some ⟨g6, 0, none⟩) n6 c6, .slice ca cl cc]) (by simp [results, Ybad.results5, go_sem, st]) rfl ?_
    exact routePost_of rfl (by rw [← HE7.out.2.1]; simp [wire] <;> omega) hR

set_option maxHeartbeats 8000000 in
theorem route_some (r0 r1 r2 r3 r4 r5 r6 r7 hi lo t f : Int) (z : Option Addr) (ca : Option Addr) (cl cc : Nat) (p4 p6 : Addr) (w : World) (hG : Glob p4 p6 w) (b0 : isB r0) (b1 : isB r1) (b2 : isB r2) (b3 : isB r3) (b4 : isB r4) (b5 : isB r5) (b6 : isB r6) (b7 : isB r7) (ht : 0 ≤ t ∧ t < 4294967296)
    (zs : List Int) (hzs : 0 < zs.length ∧ zs.length ≤ 16) (hzB : ∀ x ∈ zs, isB x) (hAs : ∀ W, Glob p4 p6 W → Calls Ybad.prog 8 #[addrV hi lo z] W fun e w' => ∃ v, e = .returned v ∧ Src W.heap.size v zs w' ∧ Below W.heap.size W w')
    (hFam : ∀ W, Glob p4 p6 W → Calls Ybad.prog 11 #[addrV hi lo z] W fun e w' => e = .returned (.agg #[.int .u16 f, .int .u8 85]) ∧ Below W.heap.size W w') :
    Calls Ybad.prog 5 #[.agg #[.int .u8 r0, .int .u8 r1, .int .u8 r2, .int .u8 r3, .int .u8 r4, .int .u8 r5, .int .u8 r6, .int .u8 r7, .int .u64 hi, .int .u64 lo, .pointer z, .int .u32 t], .slice ca cl cc] w fun e w' => RoutePost (wire r0 r1 r2 r3 r4 r5 r6 r7 t zs) f (.slice ca cl cc) w e w' := by
  obtain ⟨i0, hi1, hi2, hi3, hi4⟩ := info_parts info5
  have hl2 : 2 < w.heap.size := by have : 5 < w.heap.size := block_lt_of_cell hG.z0; omega
  have hp : 5 < w.heap.size ∧ p4.block < w.heap.size ∧ p6.block < w.heap.size := by
    obtain ⟨c4, t4, h4⟩ := hG.h4
    obtain ⟨c6, t6, h6⟩ := hG.h6
    exact ⟨block_lt_of_cell hG.z0, lt_of_some h4, lt_of_some h6⟩
  have hb0 : Below w.heap.size w ((w.alloc (.cells #[.int .u8 r0, .int .u8 r1, .int .u8 r2, .int .u8 r3, .int .u8 r4, .int .u8 r5, .int .u8 r6, .int .u8 r7, .int .u64 hi, .int .u64 lo, .pointer z, .int .u32 t] 45)).alloc (.cells #[.int .u16 0, .int .u8 0, .string ⟨#[]⟩, .slice none 0 0, .slice none 0 0] 42)) := ((Below.refl _ _).alloc (Nat.le_refl _) _).alloc (by simp) _
  have hx0 : ((w.alloc (.cells #[.int .u8 r0, .int .u8 r1, .int .u8 r2, .int .u8 r3, .int .u8 r4, .int .u8 r5, .int .u8 r6, .int .u8 r7, .int .u64 hi, .int .u64 lo, .pointer z, .int .u32 t] 45)).alloc (.cells #[.int .u16 0, .int .u8 0, .string ⟨#[]⟩, .slice none 0 0, .slice none 0 0] 42)).heap[w.heap.size]? = some (.cells #[.int .u8 r0, .int .u8 r1, .int .u8 r2, .int .u8 r3, .int .u8 r4, .int .u8 r5, .int .u8 r6, .int .u8 r7, .int .u64 hi, .int .u64 lo, .pointer z, .int .u32 t] 45) := box_old (box_new _ _)
  have hx1 : ((w.alloc (.cells #[.int .u8 r0, .int .u8 r1, .int .u8 r2, .int .u8 r3, .int .u8 r4, .int .u8 r5, .int .u8 r6, .int .u8 r7, .int .u64 hi, .int .u64 lo, .pointer z, .int .u32 t] 45)).alloc (.cells #[.int .u16 0, .int .u8 0, .string ⟨#[]⟩, .slice none 0 0, .slice none 0 0] 42)).heap[w.heap.size + 1]? = some (.cells #[.int .u16 0, .int .u8 0, .string ⟨#[]⟩, .slice none 0 0, .slice none 0 0] 42) := by
    have := box_new (w.alloc (.cells #[.int .u8 r0, .int .u8 r1, .int .u8 r2, .int .u8 r3, .int .u8 r4, .int .u8 r5, .int .u8 r6, .int .u8 r7, .int .u64 hi, .int .u64 lo, .pointer z, .int .u32 t] 45)) (.cells #[.int .u16 0, .int .u8 0, .string ⟨#[]⟩, .slice none 0 0, .slice none 0 0] 42)
    rw [show (w.alloc (.cells #[.int .u8 r0, .int .u8 r1, .int .u8 r2, .int .u8 r3, .int .u8 r4, .int .u8 r5, .int .u8 r6, .int .u8 r7, .int .u64 hi, .int .u64 lo, .pointer z, .int .u32 t] 45)).heap.size = w.heap.size + 1 from by simp] at this
    exact this
  have HG := Lib.hid (hG.below hb0)
  have HB := Lib.hid hb0
  have HX := Lib.hid (And.intro hx0 hx1)
  have HAS := Lib.hid hAs
  have HF := Lib.hid hFam
  clear hG hb0 hx0 hx1 hAs hFam
  go_enter Ybad.func5, Ybad.ntmps5
  go_wp2_with (go_at_call 8; refine (HAS.out _ HG.out).mono ?_; rintro e w1 ⟨ve, rfl, hsrc, hb1⟩; refine Hid.out ?_)
  refine Lib.hid ?_
  obtain ⟨ge, ce, hge, hve, hcell⟩ : ∃ g cap, ((w.alloc (.cells #[.int .u8 r0, .int .u8 r1, .int .u8 r2, .int .u8 r3, .int .u8 r4, .int .u8 r5, .int .u8 r6, .int .u8 r7, .int .u64 hi, .int .u64 lo, .pointer z, .int .u32 t] 45)).alloc (.cells #[.int .u16 0, .int .u8 0, .string ⟨#[]⟩, .slice none 0 0, .slice none 0 0] 42)).heap.size ≤ g ∧ ve = .slice (some ⟨g, 0, none⟩) zs.length cap ∧ ∀ j u, (cellsOf zs)[j]? = some u → w1.cell? ((⟨g, 0, none⟩ : Addr).add j) = some u := by
    rcases hsrc with ⟨_, h2⟩ | ⟨g, cap, h1, h2, h3, h4⟩
    · rw [h2] at hzs; simp at hzs
    · exact ⟨g, cap, h1, h2, h4⟩
  rw [hve]
  clear hve hsrc
  have lge : ge < w1.heap.size := by
    have h := hcell 0 _ (by rw [List.getElem?_map, List.getElem?_eq_getElem hzs.1]; rfl)
    exact block_lt_of_cell h
  have HE := Lib.hid hcell
  clear hcell
  have HG1 := Lib.hid (HG.out.below hb1)
  have HB1 := Lib.hid (HB.out.trans (hb1.mono HB.out.size))
  have HX1 := Lib.hid (And.intro (box_below HX.out.1 hb1) (box_below HX.out.2 hb1))
  have hz1 := HB1.out.size
  have hzz : w.heap.size + 1 < w1.heap.size := lt_of_box HX1.out.2
  clear hb1 HG HB HX HAS
  go_wp2_with (go_at_call 9; refine (start_any _ _ (by omega) (by omega)).mono ?_; rintro e w2 ⟨v2, rfl, ho2, hb2⟩; refine Hid.out ?_)
  refine Lib.hid ?_
  have HK2 := Lib.hid hb2
  have HO2 := Lib.hid ho2
  have hz2 := hb2.size
  clear ho2 hb2
  go_wp2_with (at_builtin; refine wpList_append_own _ rfl _ _ 35 rfl w1.heap.size 5 i0 (.int .u8 0) 1 1 Ybad.underlying35 hi1 hi2 hi3 hi4 rfl (by decide) (v2) (4) (cellsOf [1, 0, 4, 9 + (zs.length : Int) + 4]) rfl HO2.out ⟨w.heap.size, 0, none⟩ 8 8 (cellsOf [r0, r1, r2, r3, r4, r5, r6, r7]) rfl rfl (rd_news (box_below HX1.out.1 HK2.out)) (one_cells _) (by unfold maxLen; omega) (by omega) hz2 ?_; refine Hid.out ?_)
  refine Lib.hid ?_
  intro v3 w3 ho3 hg3 hi3'
  have HK3 := Lib.hid (HK2.out.trans (row_below HO2.out hg3 hz2))
  have hz3 := HK3.out.size
  have ho3' : w3.ownsRow w1.heap.size 5 1 v3 12 (cellsOf ([1, 0, 4, 9 + (zs.length : Int) + 4] ++ [r0, r1, r2, r3, r4, r5, r6, r7])) := ho3
  have HO3 := Lib.hid (ho3'.alloc (.cells #[.int .u8 (8 * (zs.length : Int) + 32)] 5))
  clear ho3 ho3' hg3 hi3' HO2 HK2
  go_wp2_with (at_builtin; refine wpList_append_own _ rfl _ _ 35 rfl w1.heap.size 5 i0 (.int .u8 0) 1 1 Ybad.underlying35 hi1 hi2 hi3 hi4 rfl (by decide) (v3) (12) (cellsOf ([1, 0, 4, 9 + (zs.length : Int) + 4] ++ [r0, r1, r2, r3, r4, r5, r6, r7])) rfl HO3.out ⟨w3.heap.size, 0, none⟩ 1 1 (cellsOf [8 * (zs.length : Int) + 32]) rfl rfl (one_new w3 (8 * (zs.length : Int) + 32)) (one_cells _) (by unfold maxLen; omega) (by omega) (by simp; omega) ?_; refine Hid.out ?_)
  refine Lib.hid ?_
  intro v4 w4 ho4 hg4 hi4'
  have HK4 := Lib.hid ((HK3.out.alloc (o := .cells #[.int .u8 (8 * (zs.length : Int) + 32)] 5) hz3).trans (row_below HO3.out hg4 (by simp; omega)))
  have hz4 := HK4.out.size
  have ho4' : w4.ownsRow w1.heap.size 5 1 v4 13 (cellsOf ([1, 0, 4, 9 + (zs.length : Int) + 4] ++ [r0, r1, r2, r3, r4, r5, r6, r7] ++ [8 * (zs.length : Int) + 32])) := ho4
  have HO4 := Lib.hid ho4'
  clear ho4 ho4' hg4 hi4' HO3 HK3
  go_wp2_with (at_builtin; refine wpList_append_own _ rfl _ _ 35 rfl w1.heap.size 5 i0 (.int .u8 0) 1 1 Ybad.underlying35 hi1 hi2 hi3 hi4 rfl (by decide) (v4) (13) (cellsOf ([1, 0, 4, 9 + (zs.length : Int) + 4] ++ [r0, r1, r2, r3, r4, r5, r6, r7] ++ [8 * (zs.length : Int) + 32])) rfl HO4.out ⟨ge, 0, none⟩ zs.length ce (cellsOf zs) rfl (by simp) (ep_news HE.out lge HK4.out) (one_cells _) (by unfold maxLen; omega) (by omega) hz4 ?_; refine Hid.out ?_)
  refine Lib.hid ?_
  intro v5 w5 ho5 hg5 hi5'
  have HK5 := Lib.hid (HK4.out.trans (row_below HO4.out hg5 hz4))
  have hz5 := HK5.out.size
  have ho5' : w5.ownsRow w1.heap.size 5 1 v5 (13 + zs.length) (cellsOf ([1, 0, 4, 9 + (zs.length : Int) + 4] ++ [r0, r1, r2, r3, r4, r5, r6, r7] ++ [8 * (zs.length : Int) + 32] ++ zs)) := ho5
  have HO5 := Lib.hid ho5'
  clear ho5 ho5' hg5 hi5' HO4 HK4
  have ct := (box_cell (box_below HX1.out.1 HK5.out) 11).1
  go_wp2_with (go_at_call 10; refine (app32_any w1.heap.size (13 + zs.length) t v5 (cellsOf ([1, 0, 4, 9 + (zs.length : Int) + 4] ++ [r0, r1, r2, r3, r4, r5, r6, r7] ++ [8 * (zs.length : Int) + 32] ++ zs)) _ ht HO5.out hz5 (by omega)).mono ?_; rintro e w6 ⟨v6, rfl, ho6, hb6⟩; refine Hid.out ?_)
  refine Lib.hid ?_
  have HK6 := Lib.hid (HK5.out.trans hb6)
  have HO6 := Lib.hid ho6
  clear ho6 hb6 HO5 HK5 ct
  go_wp2_with fail
  obtain ⟨g6, c6, hv6, hb6⟩ := own_shape HO6.out
  rw [hv6]
  have hs6 : S7 w w.heap.size w1.heap.size hi lo z g6 (13 + zs.length + 4) c6 ([1, 0, 4, 9 + (zs.length : Int) + 4] ++ [r0, r1, r2, r3, r4, r5, r6, r7] ++ [8 * (zs.length : Int) + 32] ++ zs ++ [t / 16777216, t / 65536 % 256, t / 256 % 256, t % 256]) (strOf ([1, 0, 4, 9 + (zs.length : Int) + 4] ++ [r0, r1, r2, r3, r4, r5, r6, r7] ++ [8 * (zs.length : Int) + 32] ++ zs ++ [t / 16777216, t / 65536 % 256, t / 256 % 256, t % 256])) p4 p6 w6 := by
    have ho : w6.ownsRow w1.heap.size 5 1 (.slice (some ⟨g6, 0, none⟩) (13 + zs.length + 4) c6) (13 + zs.length + 4) (cellsOf ([1, 0, 4, 9 + (zs.length : Int) + 4] ++ [r0, r1, r2, r3, r4, r5, r6, r7] ++ [8 * (zs.length : Int) + 32] ++ zs ++ [t / 16777216, t / 65536 % 256, t / 256 % 256, t % 256])) := by
      have h := HO6.out
      rw [hv6] at h
      rw [show cellsOf ([1, 0, 4, 9 + (zs.length : Int) + 4] ++ [r0, r1, r2, r3, r4, r5, r6, r7] ++ [8 * (zs.length : Int) + 32] ++ zs ++ [t / 16777216, t / 65536 % 256, t / 256 % 256, t % 256]) = cellsOf ([1, 0, 4, 9 + (zs.length : Int) + 4] ++ [r0, r1, r2, r3, r4, r5, r6, r7] ++ [8 * (zs.length : Int) + 32] ++ zs) ++ cellsOf [t / 16777216, t / 65536 % 256, t / 256 % 256, t % 256] from List.map_append]
      exact h
    have hx := box_below HX1.out.1 HK6.out
    exact ⟨(box_cell hx 8).1, (box_cell hx 9).1, (box_cell hx 10).1, conv_row ho (all_some b0 b1 b2 b3 b4 b5 b6 b7 ht hzs hzB), ⟨there_old (box_below HX1.out.2 HK6.out) rfl, ho, HG1.out.below HK6.out, (all_some b0 b1 b2 b3 b4 b5 b6 b7 ht hzs hzB), rfl, ⟨hzz, hp⟩, HB1.out.trans (HK6.out.mono hz1)⟩⟩
  clear hv6 HO6 HK6 HG1 HX1
  generalize hK : strOf ([1, 0, 4, 9 + (zs.length : Int) + 4] ++ [r0, r1, r2, r3, r4, r5, r6, r7] ++ [8 * (zs.length : Int) + 32] ++ zs ++ [t / 16777216, t / 65536 % 256, t / 256 % 256, t % 256]) = K at hs6
  generalize hA : [1, 0, 4, 9 + (zs.length : Int) + 4] ++ [r0, r1, r2, r3, r4, r5, r6, r7] ++ [8 * (zs.length : Int) + 32] ++ zs ++ [t / 16777216, t / 65536 % 256, t / 256 % 256, t % 256] = zsA at hs6
  generalize hn6 : (13 + zs.length + 4) = n6 at hs6 ⊢
  have hS := hs6
  have HE7 := Lib.hid (And.intro hK (And.intro hA hn6))
  clear hs6 hK hA hn6
  go_region_held3 (fun W => W.cell? ⟨w.heap.size, 8, none⟩ = some (.int .u64 hi) ∧ W.cell? ⟨w.heap.size, 9, none⟩ = some (.int .u64 lo) ∧ W.cell? ⟨w.heap.size, 10, none⟩ = some (.pointer z) ∧ (convert 35 9 (.slice (some ⟨g6, 0, none⟩) n6 c6)).run Ybad.prog W = .ok (.string K) W ∧ R7 K w w.heap.size w1.heap.size g6 n6 c6 zsA p4 p6 W) (first | with_reducible assumption | with_reducible exact S7.drew hS | with_reducible exact S7.set5 (by with_reducible assumption) _ _ _ _ _)
    (first
      | (go_at_call 11; refine (HF.out _ (S7.glob (K := K) (w0 := w) (N := w.heap.size) (B := w1.heap.size) (hi := hi) (lo := lo) (z := z) (g := g6) (n := n6) (c := c6) (zs := zsA) (by with_reducible assumption))).mono ?_; rintro e w7 ⟨rfl, hb7⟩; have g7 : S7 w w.heap.size w1.heap.size hi lo z g6 n6 c6 zsA K p4 p6 w7 := S7.below hb7 (by with_reducible assumption); obtain ⟨⟨x0, e0, f0⟩, ⟨x1, e1, f1⟩, ⟨x2, e2, f2⟩, ⟨x3, e3, f3⟩, ⟨x4, e4, f4⟩⟩ := there5 g7.2.2.2.2.there))
  all_goals
    go_wp2
    rename_i hHeld
    have hR := hHeld.2.2.2.2
    clear hHeld
    have st := stores5 (w.heap.size + 1) (.int .u16 f) (.int .u8 85) (.string K) (.slice (some ⟨g6, 0, none⟩) n6 c6) (.slice ca cl cc) _ e0 e1 e2 e3 e4
    refine bodyPost_ret (v := .agg #[.int .u16 f, .int .u8 85, .string K, .slice (some ⟨g6, 0, none⟩) n6 c6, .slice ca cl cc]) (by simp [results, Ybad.results5, go_sem, st]) rfl ?_
    exact routePost_of rfl (by rw [← HE7.out.2.1]; simp [wire] <;> omega) hR

end Go.Proofs.YbulkdggsDoor
