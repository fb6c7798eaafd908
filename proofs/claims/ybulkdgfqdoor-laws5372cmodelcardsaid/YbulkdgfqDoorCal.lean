import Derived.WalkKit
namespace Go.Proofs.YbulkdgfqDoor
/-! The plain calendar: no program in sight. Days are counted from 1 March of year 0. -/

/-- days from 1 March of year 0 to 1 March of y -/
def md (y : Int) : Int := 365 * y + y / 4 - y / 100 + y / 400
/-- is y a leap year? -/
def lp (y : Int) : Int := if (y % 4 = 0 ∧ y % 100 ≠ 0) ∨ y % 400 = 0 then 1 else 0
theorem lp_01 (y : Int) : lp y = 0 ∨ lp y = 1 := by
  unfold lp; split <;> omega

theorem md_succ (y : Int) : md (y + 1) = md y + 365 + lp (y + 1) := by
  unfold md lp
  split <;> omega
theorem md_400 (y k : Int) : md (y + 400 * k) = md y + 146097 * k := by
  unfold md; omega
theorem md_mono (a b : Int) (h : a ≤ b) : md a ≤ md b := by
  unfold md; omega
theorem md_gap (a b : Int) (h : a ≤ b) : 365 * (b - a) ≤ md b - md a := by
  unfold md; omega

/-- the guess of dateOf -/
def dG (n : Int) : Int := 400 * (n + 2) / 146097
/-- the year from March in which day n lies -/
def dY (n : Int) : Int := if n < md (dG n) then dG n - 1 else dG n
theorem dG_hi (n : Int) : n < md (dG n + 1) := by
  unfold dG md; omega
theorem dG_lo (n : Int) : md (dG n - 1) ≤ n := by
  unfold dG md; omega
theorem dY_lo (n : Int) : md (dY n) ≤ n := by
  unfold dY
  split
  · exact dG_lo n
  · omega
theorem dY_hi (n : Int) : n < md (dY n + 1) := by
  unfold dY
  split
  · rename_i h
    rw [show dG n - 1 + 1 = dG n from by omega]
    exact h
  · exact dG_hi n
def dD (n : Int) : Int := n - md (dY n)
theorem dD_bd (n : Int) : 0 ≤ dD n ∧ dD n ≤ 364 + lp (dY n + 1) := by
  have h1 := dY_lo n
  have h2 := dY_hi n
  rw [md_succ] at h2
  unfold dD
  omega
def dM (n : Int) : Int := (5 * dD n + 2) / 153
def dR (n : Int) : Int := dD n - (153 * dM n + 2) / 5
theorem dM_bd (n : Int) : 0 ≤ dM n ∧ dM n ≤ 11 := by
  have h := dD_bd n
  have := lp_01 (dY n + 1)
  unfold dM
  omega
theorem dR_bd (n : Int) : 0 ≤ dR n ∧ dR n ≤ 30 := by
  have h := dD_bd n
  have := lp_01 (dY n + 1)
  unfold dR dM
  omega
/-- the date of day n -/
def tY (n : Int) : Int := if 10 ≤ dM n then dY n + 1 else dY n
def tM (n : Int) : Int := if 10 ≤ dM n then dM n - 9 else dM n + 3
def tD (n : Int) : Int := dR n + 1

/-- the days of month m in a year with lf leap days -/
def mlen (lf m : Int) : Int := if m = 4 ∨ m = 6 ∨ m = 9 ∨ m = 11 then 30 else if m = 2 then 28 + lf else 31
/-- the days of the year ahead of month m -/
def cum (lf m : Int) : Int :=
  if m = 1 then 0 else if m = 2 then 31 else if m = 3 then 59 + lf else if m = 4 then 90 + lf else if m = 5 then 120 + lf else if m = 6 then 151 + lf
  else if m = 7 then 181 + lf else if m = 8 then 212 + lf else if m = 9 then 243 + lf else if m = 10 then 273 + lf else if m = 11 then 304 + lf else 334 + lf
def valid (y m d : Int) : Prop := 1 ≤ m ∧ m ≤ 12 ∧ 1 ≤ d ∧ d ≤ mlen (lp y) m
/-- the day's number -/
def dn (y m d : Int) : Int := md (y - 1) + 306 + cum (lp y) m + d - 1

theorem twelve (m : Int) (h0 : 1 ≤ m) (h1 : m ≤ 12) : m = 1 ∨ m = 2 ∨ m = 3 ∨ m = 4 ∨ m = 5 ∨ m = 6 ∨ m = 7 ∨ m = 8 ∨ m = 9 ∨ m = 10 ∨ m = 11 ∨ m = 12 := by omega

theorem in_year (y m d : Int) (h : valid y m d) : md (y - 1) + 306 ≤ dn y m d ∧ dn y m d < md y + 306 := by
  obtain ⟨h1, h2, h3, h4⟩ := h
  have hl := lp_01 y
  have hs := md_succ (y - 1)
  rw [show y - 1 + 1 = y from by omega] at hs
  unfold dn
  unfold mlen at h4
  rcases twelve m h1 h2 with rfl | rfl | rfl | rfl | rfl | rfl | rfl | rfl | rfl | rfl | rfl | rfl <;> simp [cum] at h4 ⊢ <;> omega

theorem same_year (a b n : Int) (h1 : md (a - 1) + 306 ≤ n) (h2 : n < md a + 306) (h3 : md (b - 1) + 306 ≤ n) (h4 : n < md b + 306) : a = b := by
  by_cases h : a < b
  · have := md_mono a (b - 1) (by omega); omega
  · by_cases h' : b < a
    · have := md_mono b (a - 1) (by omega); omega
    · omega

theorem dM_cases (n : Int) : dM n = 0 ∨ dM n = 1 ∨ dM n = 2 ∨ dM n = 3 ∨ dM n = 4 ∨ dM n = 5 ∨ dM n = 6 ∨ dM n = 7 ∨ dM n = 8 ∨ dM n = 9 ∨ dM n = 10 ∨ dM n = 11 := by
  have := dM_bd n
  omega

theorem dt_valid (n : Int) : valid (tY n) (tM n) (tD n) ∧ dn (tY n) (tM n) (tD n) = n := by
  have hD := dD_bd n
  have hn : n = md (dY n) + dD n := by unfold dD; omega
  have hl := lp_01 (dY n + 1)
  have hl0 := lp_01 (dY n)
  have hs := md_succ (dY n - 1)
  rw [show dY n - 1 + 1 = dY n from by omega] at hs
  have hM : dM n = (5 * dD n + 2) / 153 := rfl
  have hR : dR n = dD n - (153 * dM n + 2) / 5 := rfl
  unfold valid dn tD tY tM
  rcases dM_cases n with e | e | e | e | e | e | e | e | e | e | e | e <;> rw [e] at hM hR ⊢ <;> simp [mlen, cum] <;> omega

theorem month_unique (lf m d m' d' : Int) (hl : lf = 0 ∨ lf = 1) (h1 : 1 ≤ m) (h2 : m ≤ 12) (h3 : 1 ≤ d) (h4 : d ≤ mlen lf m) (g1 : 1 ≤ m') (g2 : m' ≤ 12) (g3 : 1 ≤ d') (g4 : d' ≤ mlen lf m') (e : cum lf m + d = cum lf m' + d') : m = m' ∧ d = d' := by
  rcases twelve m h1 h2 with rfl | rfl | rfl | rfl | rfl | rfl | rfl | rfl | rfl | rfl | rfl | rfl <;>
    rcases twelve m' g1 g2 with rfl | rfl | rfl | rfl | rfl | rfl | rfl | rfl | rfl | rfl | rfl | rfl <;> simp [cum, mlen] at h4 g4 e ⊢ <;> omega

theorem unique (y m d y' m' d' : Int) (h : valid y m d) (h' : valid y' m' d') (e : dn y m d = dn y' m' d') : y = y' ∧ m = m' ∧ d = d' := by
  have a1 := in_year y m d h
  have a2 := in_year y' m' d' h'
  rw [e] at a1
  have hy := same_year y y' _ a1.1 a1.2 a2.1 a2.2
  subst hy
  obtain ⟨h1, h2, h3, h4⟩ := h
  obtain ⟨g1, g2, g3, g4⟩ := h'
  have := month_unique (lp y) m d m' d' (lp_01 y) h1 h2 h3 h4 g1 g2 g3 g4 (by unfold dn at e; omega)
  exact ⟨rfl, this.1, this.2⟩

/-! ### Orthodox Easter -/
def fr (y : Int) : Int := (y - y % 100) % 400 + 800
def gap (y : Int) : Int := y / 100 - y / 400 - 2
def cyc (y : Int) : Int := gap y / 146097
def mar (y : Int) : Int := md (fr y) + 21 + gap y % 146097
def jE (a b c : Int) : Int := (19 * c + 15) % 30 + (2 * a + 4 * b - (19 * c + 15) % 30 + 34) % 7
theorem jE_bd (a b c : Int) : 0 ≤ jE a b c ∧ jE a b c ≤ 35 := by unfold jE; omega
def days (y : Int) : Int := mar y + 365 * (y % 100) + y % 100 / 4 + jE (y % 100 % 4) (y % 7) (y % 19)
def yrs (y : Int) : Int := tY (days y) - (fr y + y % 100) + 400 * cyc y
/-- the year, month and day of Orthodox Easter of year y, in the Gregorian calendar -/
def eY (y : Int) : Int := y + yrs y
def eM (y : Int) : Int := tM (days y)
def eD (y : Int) : Int := tD (days y)
/-- its day's number -/
def eN (y : Int) : Int := md y + 21 + gap y + jE (y % 4) (y % 7) (y % 19)

theorem fr_eq (y : Int) : fr y + y % 100 = y - 400 * (y / 400 - 2) := by
  unfold fr; omega
theorem md_fr (y : Int) : md (fr y) + 365 * (y % 100) + y % 100 / 4 = md y - 146097 * (y / 400 - 2) := by
  unfold fr md; omega
theorem days_eq (y : Int) : days y = eN y - 146097 * (y / 400 - 2 + cyc y) := by
  have h1 := md_fr y
  have h2 : y % 100 % 4 = y % 4 := by omega
  unfold days eN mar cyc
  rw [h2]
  omega
theorem eY_eq (y : Int) : eY y = tY (days y) + 400 * (y / 400 - 2 + cyc y) := by
  have h1 := fr_eq y
  unfold eY yrs
  omega
theorem lp_400 (y k : Int) : lp (y + 400 * k) = lp y := by
  unfold lp
  rw [show (y + 400 * k) % 4 = y % 4 from by omega, show (y + 400 * k) % 100 = y % 100 from by omega, show (y + 400 * k) % 400 = y % 400 from by omega]
theorem dn_400 (y m d k : Int) : dn (y + 400 * k) m d = dn y m d + 146097 * k := by
  unfold dn
  rw [lp_400, show y + 400 * k - 1 = y - 1 + 400 * k from by omega, md_400]
  omega
/-- OrthodoxEaster's date is a date, and its day is eN -/
theorem e_valid (y : Int) : valid (eY y) (eM y) (eD y) ∧ dn (eY y) (eM y) (eD y) = eN y := by
  have h := dt_valid (days y)
  have h2 := days_eq y
  rw [eY_eq]
  unfold eM eD
  refine ⟨?_, ?_⟩
  · have h3 := h.1
    unfold valid at h3 ⊢
    rw [lp_400]
    exact h3
  · rw [dn_400, h.2]
    omega

theorem eN_succ (y : Int) : eN y ≤ eN (y + 1) := by
  have h1 := jE_bd (y % 4) (y % 7) (y % 19)
  have h2 := jE_bd ((y + 1) % 4) ((y + 1) % 7) ((y + 1) % 19)
  have h3 := md_gap y (y + 1) (by omega)
  unfold eN gap
  omega
theorem eN_mono (y : Int) (k : Nat) : eN y ≤ eN (y + k) := by
  induction k with
  | zero => simp
  | succ k ih =>
    have := eN_succ (y + k)
    rw [show y + ((k + 1 : Nat) : Int) = y + k + 1 from by omega]
    omega
theorem eY_mono (a b : Int) (h : a ≤ b) : eY a ≤ eY b := by
  obtain ⟨k, rfl⟩ : ∃ k : Nat, b = a + k := ⟨(b - a).toNat, by omega⟩
  have h0 := eN_mono a k
  have h1 := e_valid a
  have h2 := e_valid (a + k)
  have a1 := in_year _ _ _ h1.1
  have a2 := in_year _ _ _ h2.1
  rw [h1.2] at a1
  rw [h2.2] at a2
  by_cases hc : eY (a + k) < eY a
  · have := md_mono (eY (a + k)) (eY a - 1) (by omega)
    omega
  · omega

/-! ### What a walk must know of the sizes -/
theorem fr_bd (y : Int) : 800 ≤ fr y ∧ fr y ≤ 1199 := by unfold fr; omega
theorem md_bd (y : Int) (h0 : 0 ≤ y) (h1 : y ≤ 5000) : 0 ≤ md y ∧ md y ≤ 1826213 := by unfold md; omega
theorem mar_bd (y : Int) : 0 ≤ mar y ∧ mar y ≤ 700000 := by
  have := fr_bd y
  unfold mar md
  omega
theorem days_bd (y : Int) : 0 ≤ days y ∧ days y ≤ 800000 := by
  have := mar_bd y
  have := jE_bd (y % 100 % 4) (y % 7) (y % 19)
  unfold days
  omega
theorem gap_bd (y : Int) (h : 0 ≤ y) : -2 ≤ gap y ∧ gap y ≤ y := by unfold gap; omega
/-- the same century -/
theorem fr_cent (y z : Int) (h : y / 100 = z / 100) : fr y = fr z := by unfold fr; omega
theorem gap_cent (y z : Int) (h : y / 100 = z / 100) : gap y = gap z := by unfold gap; omega
theorem cyc_cent (y z : Int) (h : y / 100 = z / 100) : cyc y = cyc z := by unfold cyc; rw [gap_cent y z h]
theorem mar_cent (y z : Int) (h : y / 100 = z / 100) : mar y = mar z := by unfold mar; rw [fr_cent y z h, gap_cent y z h]

end Go.Proofs.YbulkdgfqDoor
