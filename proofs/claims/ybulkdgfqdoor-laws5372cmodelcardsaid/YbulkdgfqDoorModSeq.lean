import Derived.Test.YbulkdgfqDoorModYield
import Derived.Test.YbulkdgfqDoorSib
namespace Go.Proofs.YbulkdgfqDoor
open Go.RowKit

/-- the cells of the dates of i years from y on -/
def flat (y : Int) : Nat → List Value
  | 0 => []
  | i + 1 => flat y i ++ cells3 (eY (y + i)) (eM (y + i)) (eD (y + i))

/-- the captured values of the law's closure -/
abbrev yieldM (bg bl : Nat) : Value := .func (.func 11) #[] #[.pointer (some ⟨bg, 0, none⟩), .pointer (some ⟨bl, 0, none⟩)]

/-- what holds at every year Z of the run: the dates of the years y to Z - 1 have been gathered -/
structure ModW (B base bs bg bl : Nat) (y l L Z : Int) (w wr : World) : Prop where
  cl : wr.cell? ⟨bs, 0, none⟩ = some (.int .i64 l)
  cm : wr.cell? ⟨bl, 0, none⟩ = some (.int .i64 L)
  got : ∃ v, wr.cell? ⟨bg, 0, none⟩ = some v ∧ wr.ownsRow base 40 3 v (Z - y).toNat (flat y (Z - y).toNat)
  fg : wr.frozen? ⟨bg, 0, none⟩ = false
  bel : Below B w wr
  hb : base ≤ wr.heap.size

/-- the blocks are apart -/
structure ModB (B base bs bg bl bt : Nat) : Prop where
  h1 : bs ≠ bg
  h2 : bl ≠ bg
  h3 : bt ≠ bg
  g1 : bs ≠ bt
  g2 : bl ≠ bt
  l1 : bs < base
  l2 : bl < base
  l3 : bg < base
  l4 : bt < base
  hB : B ≤ bg
  hT : B ≤ bt

theorem below_grown {w w' : World} (hb : Below w.heap.size w w') (r : Option Nat) : w.grownBy w' r := ⟨hb.os, hb.tape, hb.output, hb.size, fun k hk _ => hb.block k hk⟩
theorem ownsRow_below {w w' : World} {base e size n : Nat} {v : Value} {xs : List Value} (h : w.ownsRow base e size v n xs) (hb : Below w.heap.size w w') : w'.ownsRow base e size v n xs :=
  h.kept (below_grown hb none) (by cases hv : v.ownBlock <;> simp)

theorem ModW.below {B base bs bg bl : Nat} {y l L Z : Int} {w wr w' : World} (h : ModW B base bs bg bl y l L Z w wr) (hBb : B ≤ base) (hb : Below wr.heap.size wr w') : ModW B base bs bg bl y l L Z w w' where
  cl := (hb.cell (p := ⟨bs, 0, none⟩) (block_lt_of_cell h.cl)).trans h.cl
  cm := (hb.cell (p := ⟨bl, 0, none⟩) (block_lt_of_cell h.cm)).trans h.cm
  got := by
    obtain ⟨v, h1, h2⟩ := h.got
    exact ⟨v, (hb.cell (p := ⟨bg, 0, none⟩) (block_lt_of_cell h1)).trans h1, ownsRow_below h2 hb⟩
  fg := by
    obtain ⟨v, h1, h2⟩ := h.got
    exact (hb.frozen (p := ⟨bg, 0, none⟩) (block_lt_of_cell h1)).trans h.fg
  bel := h.bel.trans (hb.mono (Nat.le_trans hBb h.hb))
  hb := Nat.le_trans h.hb hb.size

theorem ModW.set {B base bs bg bl bt : Nat} {y l L Z : Int} {w wr w' : World} (h : ModW B base bs bg bl y l L Z w wr) (hB : ModB B base bs bg bl bt) (hg : wr.grownBy w' (some bt)) : ModW B base bs bg bl y l L Z w w' where
  cl := hg.cell h.cl (fun e => hB.g1 (Option.some.inj e))
  cm := hg.cell h.cm (fun e => hB.g2 (Option.some.inj e))
  got := by
    obtain ⟨v, h1, h2⟩ := h.got
    refine ⟨v, hg.cell h1 (fun e => hB.h3 (Option.some.inj e).symm), h2.kept hg ?_⟩
    cases hv : v.ownBlock with
    | none => exact .inl rfl
    | some k =>
      refine .inr (fun e => ?_)
      have := h2.lt k hv
      have := hB.l4
      have := Option.some.inj e
      omega
  fg := by
    obtain ⟨v, h1, h2⟩ := h.got
    exact (hg.frozen_far ⟨bg, 0, none⟩ (block_lt_of_cell h1) (fun e => hB.h3 (Option.some.inj e).symm)).trans h.fg
  bel := h.bel.grown hg (Nat.le_trans (Nat.le_of_lt (Nat.lt_of_le_of_lt hB.hB hB.l3)) h.hb) (fun k e => by cases e; exact hB.hT)
  hb := Nat.le_trans h.hb hg.size

theorem Kept.cell {base bg : Nat} {w w' : World} (h : Kept base bg w w') {a : Addr} (ha : a.block < base) (hn : a.block ≠ bg) : w'.cell? a = w.cell? a := World.cell?_of_block (h.block a.block ha hn)
theorem Kept.frozen {base bg : Nat} {w w' : World} (h : Kept base bg w w') {a : Addr} (ha : a.block < base) (hn : a.block ≠ bg) : w'.frozen? a = w.frozen? a := World.frozen?_of_block (h.block a.block ha hn)
theorem ModW.yielded {B base bs bg bl bt : Nat} {y l L Z : Int} {w wr w' : World} (h : ModW B base bs bg bl y l L Z w wr) (hB : ModB B base bs bg bl bt) (hZ : y ≤ Z) {v' : Value} (hc : w'.cell? ⟨bg, 0, none⟩ = some v') (hf : w'.frozen? ⟨bg, 0, none⟩ = false)
    (ho : w'.ownsRow base 40 3 v' ((Z - y).toNat + 1) (flat y (Z - y).toNat ++ cells3 (eY Z) (eM Z) (eD Z))) (hk : Kept base bg wr w') : ModW B base bs bg bl y l L (Z + 1) w w' where
  cl := (hk.cell (a := ⟨bs, 0, none⟩) hB.l1 hB.h1).trans h.cl
  cm := (hk.cell (a := ⟨bl, 0, none⟩) hB.l2 hB.h2).trans h.cm
  got := by
    refine ⟨v', hc, ?_⟩
    have e : (Z + 1 - y).toNat = (Z - y).toNat + 1 := by omega
    rw [e]
    show w'.ownsRow base 40 3 v' ((Z - y).toNat + 1) (flat y (Z - y).toNat ++ cells3 (eY (y + ((Z - y).toNat : Int))) (eM (y + ((Z - y).toNat : Int))) (eD (y + ((Z - y).toNat : Int))))
    rw [show y + ((Z - y).toNat : Int) = Z from by omega]
    exact ho
  fg := hf
  bel := ⟨hk.os.trans h.bel.os, hk.tape.trans h.bel.tape, hk.output.trans h.bel.output, Nat.le_trans h.bel.size hk.size, fun k hkB => by
    have := hB.hB
    have := hB.l3
    rw [hk.block k (by omega) (by omega)]
    exact h.bel.block k hkB⟩
  hb := Nat.le_trans h.hb hk.size
theorem CentAt.kept {b base bg : Nat} {y : Int} {w w' : World} (h : CentAt b y w) (hk : Kept base bg w w') (hl : b < base) (hn : b ≠ bg) : CentAt b y w' := by
  obtain ⟨h0, h1, h2, h3, h4, h5⟩ := h
  exact ⟨(hk.cell (a := ⟨b, 0, none⟩) hl hn).trans h0, (hk.cell (a := ⟨b, 1, none⟩) hl hn).trans h1, (hk.cell (a := ⟨b, 2, none⟩) hl hn).trans h2, (hk.frozen (a := ⟨b, 0, none⟩) hl hn).trans h3, (hk.frozen (a := ⟨b, 1, none⟩) hl hn).trans h4, (hk.frozen (a := ⟨b, 2, none⟩) hl hn).trans h5⟩

theorem yield_modAt {B base bs bg bl bt : Nat} {y l L Z : Int} {w wr : World} (h : ModW B base bs bg bl y l L Z w wr) (hB : ModB B base bs bg bl bt) (hZ : y ≤ Z) (hl : Z ≤ y + 900) :
    Calls Ybad.prog 11 #[dateV (eY Z) (eM Z) (eD Z), .pointer (some ⟨bg, 0, none⟩), .pointer (some ⟨bl, 0, none⟩)] wr fun e w' =>
      e = .returned (.bool (decide (Z - y + 1 < L))) ∧ ModW B base bs bg bl y l L (Z + 1) w w' ∧ Kept base bg wr w' := by
  obtain ⟨v, h1, h2⟩ := h.got
  refine (yield_mod bg bl base v (Z - y).toNat (flat y (Z - y).toNat) L (eY Z) (eM Z) (eD Z) wr h1 h.cm h.fg h2 h.hb hB.l3 hB.l2 hB.h2 (by omega)).mono ?_
  rintro e w' ⟨v', rfl, hc, hf, ho, hk⟩
  refine ⟨?_, h.yielded hB hZ hc hf ho hk, hk⟩
  rw [show ((Z - y).toNat : Int) = Z - y from by omega]


set_option maxHeartbeats 4000000 in
theorem seq_mod (B bs bf bg bl : Nat) (y l L : Int) (w : World) (hb : ModB B (w.heap.size + 1) bs bg bl w.heap.size) (hyl : y ≤ l) (k1 : l ≤ y + 900) (y0 : 1583 ≤ y) (l1 : l ≤ 9223372036854775807) (hok : eY l ≤ 9223372036854775807)
    (cl : w.cell? ⟨bs, 0, none⟩ = some (.int .i64 l)) (cm : w.cell? ⟨bl, 0, none⟩ = some (.int .i64 L)) (cg : w.cell? ⟨bg, 0, none⟩ = some (.slice none 0 0)) (fg : w.frozen? ⟨bg, 0, none⟩ = false) (cf : w.cell? ⟨bf, 0, none⟩ = some (.int .i64 y)) :
    Calls Ybad.prog 20 #[yieldM bg bl, .pointer (some ⟨bs, 0, none⟩), .pointer (some ⟨bf, 0, none⟩)] w fun e w' =>
      e = .returned (.tuple #[]) ∧ ∃ Z, y ≤ Z ∧ Z ≤ l ∧ (Z = y ∨ Z - y < L) ∧ (L ≤ Z + 1 - y ∨ Z = l) ∧ ModW B (w.heap.size + 1) bs bg bl y l L (Z + 1) w w' := by
  have ll := block_lt_of_cell cl
  have lf := block_lt_of_cell cf
  have hne : ¬ l < y := by omega
  have hBb : B ≤ w.heap.size + 1 := by have := hb.hT; omega
  have hw0 : ModW B (w.heap.size + 1) bs bg bl y l L y w (w.alloc zeroC) := by
    refine ⟨?_, ?_, ⟨.slice none 0 0, ?_, ?_⟩, ?_, (Below.refl _ _).alloc (by have := hb.hT; omega) _, by simp⟩
    · rw [World.cell?_alloc_lt _ _ _ ll]; exact cl
    · rw [World.cell?_alloc_lt _ _ _ (block_lt_of_cell cm)]; exact cm
    · rw [World.cell?_alloc_lt _ _ _ (block_lt_of_cell cg)]; exact cg
    · rw [show (y - y).toNat = 0 from by omega]
      exact World.ownsRow_nil _ _ _ _
    · rw [frozen?_alloc_cells]; exact fg
  have HW := Lib.hid hw0
  have HK := Lib.hid hok
  have HBB := Lib.hid hb
  have hbn := Lib.hid (box_new w zeroC)
  clear hw0 hok hb cm cg fg
  go_enter Ybad.func20, Ybad.ntmps20
  go_wp2_with fail
  clear cl cf
  go_loopw [5] (fun Yv wr => ∃ Y : Int, y ≤ Y ∧ Y ≤ l ∧ Yv = .int .i64 Y ∧ (Y = y ∨ Y - y < L) ∧ ModW B (w.heap.size + 1) bs bg bl y l L Y w wr ∧ ∃ a b c : Int, wr.cell? ⟨w.heap.size, 0, none⟩ = some (.int .i64 a) ∧ wr.cell? ⟨w.heap.size, 1, none⟩ = some (.int .i64 b) ∧ wr.cell? ⟨w.heap.size, 2, none⟩ = some (.int .i64 c) ∧ wr.frozen? ⟨w.heap.size, 0, none⟩ = false ∧ wr.frozen? ⟨w.heap.size, 1, none⟩ = false ∧ wr.frozen? ⟨w.heap.size, 2, none⟩ = false) (fun Yv _ => (l + 1 - intOf Yv).toNat)
  case atStart => exact ⟨y, Int.le_refl _, hyl, rfl, .inl rfl, HW.out, 0, 0, 0, box_cells hbn.out⟩
  case round =>
    obtain ⟨Y, hY0, hY1, rfl, hYL, hsw, a, b, c, c0, c1, c2, f0, f1, f2⟩ := hrel
    obtain ⟨wo, hwo⟩ : ∃ wo : World, wo = wr := ⟨_, rfl⟩
    subst hwo
    have HSW := Lib.hid hsw
    have HYL := Lib.hid hYL
    clear hsw HW hbn hYL
    go_wp2_with (go_at_call 21; refine (set_any w.heap.size Y a b c _ (by omega) (by omega) c0 c1 c2 f0 f1 f2).mono ?_; rintro e w1 ⟨rfl, hcent, hg1⟩; refine Hid.out ?_)
    refine Lib.hid ?_
    have HS1 := Lib.hid (HSW.out.set HBB.out hg1)
    have HC1 := Lib.hid hcent
    clear hcent hg1 c0 c1 c2 f0 f1 f2 HSW
    go_wp2_with fail
    go_loopw [5, 6, 7, 8] (fun Yv nv bv cv wr => ∃ Z : Int, Y ≤ Z ∧ Z ≤ l ∧ Yv = .int .i64 Z ∧ bv = .int .i64 (Z % 7) ∧ cv = .int .i64 (Z % 19) ∧ (Z = y ∨ Z - y < L) ∧ ModW B (w.heap.size + 1) bs bg bl y l L Z w wr ∧
      ((nv = .int .i64 (Z % 100) ∧ CentAt w.heap.size Z wr) ∨ (nv = .int .i64 100 ∧ Y < Z ∧ CentAt w.heap.size (Z - 1) wr))) (fun Yv _ _ _ _ => (l + 1 - intOf Yv).toNat)
    case atStart => exact ⟨Y, Int.le_refl _, hY1, rfl, rfl, rfl, HYL.out, HS1.out, .inl ⟨rfl, HC1.out⟩⟩
    case round =>
      obtain ⟨Z, hZ0, hZ1, rfl, rfl, rfl, hZL, hsw, hor⟩ := hrel
      have HZL := Lib.hid hZL
      clear hZL HYL
      rcases hor with ⟨rfl, hcent⟩ | ⟨rfl, hlt, hcent⟩
      · have hokZ : eY Z ≤ 9223372036854775807 := by have := eY_mono Z l hZ1; have := HK.out; omega
        have HSW := Lib.hid hsw
        have HC := Lib.hid hcent
        clear hsw hcent HS1 HC1
        go_wp2_with (go_at_call 22; refine (reckon_ok w.heap.size Z _ HC.out (by omega) (by omega) hokZ).mono ?_; rintro e w2 ⟨rfl, hb2⟩; refine Hid.out ?_)
        refine Lib.hid ?_
        have HS2 := Lib.hid ((HSW.out.below hBb hb2).below hBb ((Below.refl w2.heap.size w2).alloc (Nat.le_refl _) (.cells #[.int .i64 (eY Z), .int .i64 (eM Z), .int .i64 (eD Z)] 40)))
        have HC2 := Lib.hid ((HC.out.below hb2).below ((Below.refl w2.heap.size w2).alloc (Nat.le_refl _) (.cells #[.int .i64 (eY Z), .int .i64 (eM Z), .int .i64 (eD Z)] 40)))
        clear HSW HC hb2
        by_cases hcont : Z - y + 1 < L
        · go_wp2_with (go_at_call 11; refine (yield_modAt HS2.out HBB.out (by omega) (by omega)).mono ?_; rintro e w3 ⟨rfl, hs3, hk3⟩; refine Hid.out ?_)
          refine Lib.hid ?_
          have HS3 := Lib.hid hs3
          have HC3 := Lib.hid (HC2.out.kept hk3 HBB.out.l4 HBB.out.h3)
          clear hs3 hk3 HS2 HC2
          have cl3 := HS3.out.cl
          by_cases hZl : Z = l
          · have hq : (Z == l) = true := by rw [hZl]; simp
            have HZ := Lib.hid hZl
            clear hZl
            go_wp2_with fail
            exact bodyPost_ret (v := .tuple #[]) (by simp [results, Ybad.results20, go_sem]) rfl ⟨rfl, Z, by omega, hZ1, HZL.out, .inr HZ.out, HS3.out⟩
          · have hq : (Z == l) = false := by simpa using hZl
            have hZlt : Z < l := by omega
            have hor : ∀ x : Int, x = Z % 100 + 1 → (Value.int .i64 x = .int .i64 ((Z + 1) % 100) ∧ CentAt w.heap.size (Z + 1) w3) ∨ (Value.int .i64 x = .int .i64 100 ∧ Y < Z + 1 ∧ CentAt w.heap.size (Z + 1 - 1) w3) := by
              intro x hx
              by_cases h99 : Z % 100 = 99
              · exact .inr ⟨int_eq (by omega), by omega, by rw [show Z + 1 - 1 = Z from by omega]; exact HC3.out⟩
              · exact .inl ⟨int_eq (by omega), HC3.out.cent (by omega)⟩
            have HO := Lib.hid hor
            clear hor hZl
            have hb0 : 0 ≤ Z % 7 ∧ Z % 7 ≤ 6 := by omega
            have hc0 : 0 ≤ Z % 19 ∧ Z % 19 ≤ 18 := by omega
            by_cases h7 : Z % 7 = 6
            · by_cases h19 : Z % 19 = 18
              · have t7 : (Z % 7 + 1 == 7) = true := by rw [h7]; rfl
                have t19 : (Z % 19 + 1 == 19) = true := by rw [h19]; rfl
                have H7 := Lib.hid h7
                have H19 := Lib.hid h19
                clear h7 h19
                go_wp2_with fail
                go_roundw
                case rel => exact ⟨Z + 1, by omega, by omega, rfl, int_eq (by have := H7.out; omega), int_eq (by have := H19.out; omega), .inr (by omega), HS3.out, HO.out _ rfl⟩
                case measure => simp [intOf]; omega
              · have t7 : (Z % 7 + 1 == 7) = true := by rw [h7]; rfl
                have t19 : (Z % 19 + 1 == 19) = false := by rw [beq_eq_false_iff_ne]; omega
                have H7 := Lib.hid h7
                have H19 := Lib.hid h19
                clear h7 h19
                go_wp2_with fail
                go_roundw
                case rel => exact ⟨Z + 1, by omega, by omega, rfl, int_eq (by have := H7.out; omega), int_eq (by have := H19.out; omega), .inr (by omega), HS3.out, HO.out _ rfl⟩
                case measure => simp [intOf]; omega
            · by_cases h19 : Z % 19 = 18
              · have t7 : (Z % 7 + 1 == 7) = false := by rw [beq_eq_false_iff_ne]; omega
                have t19 : (Z % 19 + 1 == 19) = true := by rw [h19]; rfl
                have H7 := Lib.hid h7
                have H19 := Lib.hid h19
                clear h7 h19
                go_wp2_with fail
                go_roundw
                case rel => exact ⟨Z + 1, by omega, by omega, rfl, int_eq (by have := H7.out; omega), int_eq (by have := H19.out; omega), .inr (by omega), HS3.out, HO.out _ rfl⟩
                case measure => simp [intOf]; omega
              · have t7 : (Z % 7 + 1 == 7) = false := by rw [beq_eq_false_iff_ne]; omega
                have t19 : (Z % 19 + 1 == 19) = false := by rw [beq_eq_false_iff_ne]; omega
                have H7 := Lib.hid h7
                have H19 := Lib.hid h19
                clear h7 h19
                go_wp2_with fail
                go_roundw
                case rel => exact ⟨Z + 1, by omega, by omega, rfl, int_eq (by have := H7.out; omega), int_eq (by have := H19.out; omega), .inr (by omega), HS3.out, HO.out _ rfl⟩
                case measure => simp [intOf]; omega
        · have hdec : decide (Z - y + 1 < L) = false := by simpa using hcont
          go_wp2_with (go_at_call 11; refine (yield_modAt HS2.out HBB.out (by omega) (by omega)).mono ?_; rintro e w3 ⟨rfl, hs3, hk3⟩; refine Hid.out ?_)
          refine Lib.hid ?_
          have HS3 := Lib.hid hs3
          clear hs3 hk3 HS2 HC2
          go_wp2_with fail
          exact bodyPost_ret (v := .tuple #[]) (by simp [results, Ybad.results20, go_sem]) rfl ⟨rfl, Z, by omega, hZ1, HZL.out, .inl (by omega), HS3.out⟩
      · go_wp2_with fail
        go_roundw
        case rel => exact ⟨Z, by omega, hZ1, rfl, HZL.out, hsw, _, _, _, hcent⟩
        case measure => simp [intOf]; omega

end Go.Proofs.YbulkdgfqDoor
