/-
  THE PLAIN LAW OF THE CIVIL DATE: integers alone, no Go in sight.
-/
import Derived.RowKit
namespace Go.Proofs.Qxb6000712aMods.Civ

/-- Days of the years 0 to y - 1, counted from March: 'M (y + 1) - M y' is 365, or 366 where year y + 1 is a leap year. -/
def M (y : Int) : Int := 365 * y + y / 4 - y / 100 + y / 400
/-- 1 in a leap year, else 0. -/
def lp (y : Int) : Int := if y % 4 = 0 ∧ (y % 100 ≠ 0 ∨ y % 400 = 0) then 1 else 0
def leapB (y : Int) : Bool := decide (y % 4 = 0 ∧ (y % 100 ≠ 0 ∨ y % 400 = 0))

theorem lp_01 (y : Int) : lp y = 0 ∨ lp y = 1 := by unfold lp; split <;> simp
theorem lp_true {y : Int} (h : leapB y = true) : lp y = 1 := by unfold lp; exact if_pos (of_decide_eq_true h)
theorem lp_false {y : Int} (h : leapB y = false) : lp y = 0 := by unfold lp; exact if_neg (of_decide_eq_false h)
theorem M_succ (y : Int) : M (y + 1) = M y + 365 + lp (y + 1) := by
  unfold M lp
  split <;> omega
theorem M_mono (y z : Int) (h : y ≤ z) : M y ≤ M z := by
  unfold M
  omega

/-- The day of the era. -/
def doe (D : Int) : Int := D % 146097
def era (D : Int) : Int := D / 146097
def yoe (r : Int) : Int := (r - r / 1460 + r / 36524 - r / 146096) / 365
def doy (r Y : Int) : Int := r - (365 * Y + Y / 4 - Y / 100)
def mfm (d : Int) : Int := (5 * d + 2) / 153

theorem yoe_law (r : Int) (h0 : 0 ≤ r) (h1 : r ≤ 146096) :
    0 ≤ yoe r ∧ yoe r ≤ 399 ∧ 0 ≤ doy r (yoe r) ∧ doy r (yoe r) < 365 + lp (yoe r + 1) := by
  obtain ⟨B, hB⟩ : ∃ B, r / 36524 = B := ⟨_, rfl⟩
  obtain ⟨C, hC⟩ : ∃ C, r / 146096 = C := ⟨_, rfl⟩
  obtain ⟨A, hA⟩ : ∃ A, r / 1460 = A := ⟨_, rfl⟩
  obtain ⟨Y, hY⟩ : ∃ Y, (r - A + B - C) / 365 = Y := ⟨_, rfl⟩
  have eY : yoe r = Y := by unfold yoe; rw [hA, hB, hC, hY]
  rw [eY]
  unfold doy lp
  clear eY
  obtain ⟨q, hq⟩ : ∃ q, A = 25 * B + q := ⟨A - 25 * B, by omega⟩
  obtain ⟨t, ht⟩ : ∃ t, Y = 100 * B + 4 * q + t := ⟨Y - 100 * B - 4 * q, by omega⟩
  subst hq
  have hB' : B = 0 ∨ B = 1 ∨ B = 2 ∨ B = 3 ∨ B = 4 := by omega
  have hC' : B ≤ 3 → C = 0 := by omega
  have hb : 0 ≤ 36524 * B + r - r := by omega
  rcases hB' with rfl | rfl | rfl | rfl | rfl
  all_goals first
    | (have hr : r = 146096 := by omega
       subst hr
       have hq0 : q = 0 := by omega
       subst hq0
       have hY0 : Y = 399 := by omega
       subst hY0
       refine ⟨by omega, by omega, by omega, ?_⟩
       split <;> omega)
    | (have hC0 : C = 0 := by omega
       subst hC0
       have ht' : t = -1 ∨ t = 0 ∨ t = 1 ∨ t = 2 ∨ t = 3 := by omega
       have hq25 : 0 ≤ q ∧ q ≤ 25 := by omega
       rcases ht' with rfl | rfl | rfl | rfl | rfl
       all_goals
         subst ht
         refine ⟨by omega, by omega, by omega, ?_⟩
         split <;> omega)

/-- The year from March, and the day of that year, of day n. -/
def Yf (n : Int) : Int := era (n + 719468) * 400 + yoe (doe (n + 719468))
def dy (n : Int) : Int := doy (doe (n + 719468)) (yoe (doe (n + 719468)))
def cm (n : Int) : Int := if mfm (dy n) ≤ 9 then mfm (dy n) + 3 else mfm (dy n) - 9
def cy (n : Int) : Int := if mfm (dy n) ≤ 9 then Yf n else Yf n + 1
def cd (n : Int) : Int := dy n - (153 * mfm (dy n) + 2) / 5 + 1

theorem K1 (n : Int) (h : 0 ≤ n) : n + 719468 = M (Yf n) + dy n ∧ 0 ≤ dy n ∧ dy n < 365 + lp (Yf n + 1) ∧ 1969 ≤ Yf n := by
  have hr0 : 0 ≤ doe (n + 719468) := by unfold doe; omega
  have hr1 : doe (n + 719468) ≤ 146096 := by unfold doe; omega
  have hD : n + 719468 = 146097 * era (n + 719468) + doe (n + 719468) := by unfold era doe; omega
  have hE : 4 ≤ era (n + 719468) := by unfold era; omega
  obtain ⟨a, b, c, d⟩ := yoe_law _ hr0 hr1
  have hl : lp (Yf n + 1) = lp (yoe (doe (n + 719468)) + 1) := by
    unfold Yf lp
    split <;> split <;> omega
  have e1 : n + 719468 = M (Yf n) + dy n := by
    unfold M Yf dy doy
    omega
  refine ⟨e1, c, by rw [hl]; exact d, ?_⟩
  have hl1 := lp_01 (Yf n + 1)
  have d' : dy n < 365 + lp (Yf n + 1) := by rw [hl]; exact d
  clear hr0 hr1 hD hE a b c d hl
  unfold M at e1
  omega

theorem uniq (n Y d : Int) (h : 0 ≤ n) (e : n + 719468 = M Y + d) (h0 : 0 ≤ d) (h1 : d < 365 + lp (Y + 1)) : Yf n = Y ∧ dy n = d := by
  obtain ⟨k1, k2, k3, _⟩ := K1 n h
  have a1 := M_succ Y
  have a2 := M_succ (Yf n)
  have : ¬ Yf n < Y := fun hlt => by have := M_mono (Yf n + 1) Y (by omega); omega
  have : ¬ Y < Yf n := fun hlt => by have := M_mono (Y + 1) (Yf n) (by omega); omega
  have e2 : Yf n = Y := by omega
  rw [e2] at k1
  exact ⟨e2, by omega⟩

theorem mfm_cases (n : Int) (h : 0 ≤ n) : 0 ≤ mfm (dy n) ∧ mfm (dy n) ≤ 11 := by
  obtain ⟨_, k2, k3, _⟩ := K1 n h
  have := lp_01 (Yf n + 1)
  unfold mfm
  omega

/-- Days of month m in year y. -/
def ml (y m : Int) : Int :=
  if m = 1 ∨ m = 3 ∨ m = 5 ∨ m = 7 ∨ m = 8 ∨ m = 10 ∨ m = 12 then 31
  else if m = 4 ∨ m = 6 ∨ m = 9 ∨ m = 11 then 30
  else if m = 2 then 28 + lp y
  else 0
/-- Days of a common year before month m. -/
def bm (m : Int) : Int :=
  if m = 2 then 31 else if m = 3 then 59 else if m = 4 then 90 else if m = 5 then 120 else if m = 6 then 151 else if m = 7 then 181
  else if m = 8 then 212 else if m = 9 then 243 else if m = 10 then 273 else if m = 11 then 304 else if m = 12 then 334 else 0

theorem cm_of (n k : Int) (g : mfm (dy n) = k) : cm n = if k ≤ 9 then k + 3 else k - 9 := by unfold cm; rw [g]
theorem cy_of (n k : Int) (g : mfm (dy n) = k) : cy n = if k ≤ 9 then Yf n else Yf n + 1 := by unfold cy; rw [g]
theorem cd_of (n k : Int) (g : mfm (dy n) = k) : cd n = dy n - (153 * k + 2) / 5 + 1 := by unfold cd; rw [g]

/-- WHAT THE DATE OF DAY n IS: its year, month and day, and the count back. -/
structure Good (n : Int) : Prop where
  m1 : 1 ≤ cm n
  m2 : cm n ≤ 12
  d1 : 1 ≤ cd n
  d2 : cd n ≤ ml (cy n) (cm n)
  d3 : cd n ≤ 31
  y1 : 1970 ≤ cy n
  back : M (cy n - 1) + bm (cm n) + (if 2 < cm n then lp (cy n) else 0) + cd n - 719163 = n

theorem good (n : Int) (h : 0 ≤ n) : Good n := by
  obtain ⟨k1, k2, k3, k4⟩ := K1 n h
  obtain ⟨c1, c2⟩ := mfm_cases n h
  have l1 := lp_01 (Yf n + 1)
  have hmf : mfm (dy n) = (5 * dy n + 2) / 153 := rfl
  have hs := M_succ (Yf n - 1)
  have hs' := M_succ (Yf n)
  have l2 := lp_01 (Yf n)
  have e0 : Yf n - 1 + 1 = Yf n := by omega
  have e1 : Yf n + 1 - 1 = Yf n := by omega
  rw [e0] at hs
  have hM0 : M 1969 = 719162 := by decide
  have hM1 : M 1970 = 719527 := by decide
  have hy : 1970 ≤ Yf n ∨ (Yf n = 1969 ∧ 306 ≤ dy n) := by
    by_cases g : 1970 ≤ Yf n
    · exact .inl g
    · have g1 : Yf n = 1969 := by omega
      rw [g1] at k1
      exact .inr ⟨g1, by omega⟩
  have hm : mfm (dy n) = 0 ∨ mfm (dy n) = 1 ∨ mfm (dy n) = 2 ∨ mfm (dy n) = 3 ∨ mfm (dy n) = 4 ∨ mfm (dy n) = 5 ∨ mfm (dy n) = 6 ∨ mfm (dy n) = 7 ∨ mfm (dy n) = 8 ∨ mfm (dy n) = 9 ∨ mfm (dy n) = 10 ∨ mfm (dy n) = 11 := by omega
  rcases hm with g | g | g | g | g | g | g | g | g | g | g | g
  all_goals
    have ecm := cm_of n _ g
    have ecy := cy_of n _ g
    have ecd := cd_of n _ g
    simp at ecm ecy
    rw [g] at hmf
    refine ⟨?_, ?_, ?_, ?_, ?_, ?_, ?_⟩
    · rw [ecm]; decide
    · rw [ecm]; decide
    · rw [ecd]; omega
    · rw [ecd, ecm, ecy]; simp [ml]; omega
    · rw [ecd]; omega
    · rw [ecy]; omega
    · rw [ecd, ecm, ecy]; simp [bm]; try simp only [e1]
      omega

theorem month_cases (m : Int) (h1 : 1 ≤ m) (h2 : m ≤ 12) : m = 1 ∨ m = 2 ∨ m = 3 ∨ m = 4 ∨ m = 5 ∨ m = 6 ∨ m = 7 ∨ m = 8 ∨ m = 9 ∨ m = 10 ∨ m = 11 ∨ m = 12 := by omega

theorem within (y m d : Int) (h1 : 1 ≤ m) (h2 : m ≤ 12) (h3 : 1 ≤ d) (h4 : d ≤ ml y m) :
    1 ≤ bm m + (if 2 < m then lp y else 0) + d ∧ bm m + (if 2 < m then lp y else 0) + d ≤ 365 + lp y := by
  have l := lp_01 y
  rcases month_cases m h1 h2 with rfl | rfl | rfl | rfl | rfl | rfl | rfl | rfl | rfl | rfl | rfl | rfl
  all_goals
    simp [ml] at h4
    simp [bm]
    omega

/-- The year lies between 1970 + n/366 and 1970 + n/365. -/
theorem years (n : Int) (h : 0 ≤ n) : cy n - 1970 ≤ n / 365 ∧ n / 366 ≤ cy n - 1970 := by
  obtain ⟨m1, m2, d1, d2, d3, y1, back⟩ := good n h
  obtain ⟨a, b⟩ := within _ _ _ m1 m2 d1 d2
  have l := lp_01 (cy n)
  have hs := M_succ (cy n - 1)
  have e0 : cy n - 1 + 1 = cy n := by omega
  rw [e0] at hs
  have p1 : 365 * (cy n - 1970) ≤ M (cy n - 1) - 719162 := by unfold M; omega
  have p2 : M (cy n) - 719162 ≤ 366 * (cy n - 1969) := by unfold M; omega
  constructor <;> omega

/-- Two dates that are real and count back to one day are one date. -/
theorem inj (y m d y' m' d' : Int) (h1 : 1 ≤ m) (h2 : m ≤ 12) (h3 : 1 ≤ d) (h4 : d ≤ ml y m) (h1' : 1 ≤ m') (h2' : m' ≤ 12) (h3' : 1 ≤ d') (h4' : d' ≤ ml y' m')
    (e : M (y - 1) + bm m + (if 2 < m then lp y else 0) + d = M (y' - 1) + bm m' + (if 2 < m' then lp y' else 0) + d') : y = y' ∧ m = m' ∧ d = d' := by
  obtain ⟨a, b⟩ := within _ _ _ h1 h2 h3 h4
  obtain ⟨a', b'⟩ := within _ _ _ h1' h2' h3' h4'
  have hs := M_succ (y - 1)
  have hs' := M_succ (y' - 1)
  have e0 : y - 1 + 1 = y := by omega
  have e0' : y' - 1 + 1 = y' := by omega
  rw [e0] at hs
  rw [e0'] at hs'
  have g1 : ¬ y < y' := fun hlt => by have := M_mono y (y' - 1) (by omega); omega
  have g2 : ¬ y' < y := fun hlt => by have := M_mono y' (y - 1) (by omega); omega
  have g : y = y' := by omega
  subst g
  have l := lp_01 y
  clear g1 g2 hs hs' e0 e0' a b a' b'
  have k : bm m + (if 2 < m then lp y else 0) + d = bm m' + (if 2 < m' then lp y else 0) + d' := by omega
  clear e
  refine ⟨rfl, ?_⟩
  rcases month_cases m h1 h2 with rfl | rfl | rfl | rfl | rfl | rfl | rfl | rfl | rfl | rfl | rfl | rfl
  all_goals
    simp [ml] at h4
    rcases month_cases m' h1' h2' with rfl | rfl | rfl | rfl | rfl | rfl | rfl | rfl | rfl | rfl | rfl | rfl
    all_goals
      simp [ml] at h4'
      simp [bm] at k ⊢
      omega

/-- THE DAY AFTER, inside a month. -/
theorem next_in (n : Int) (h : 0 ≤ n) (g : cd n < ml (cy n) (cm n)) : cy (n + 1) = cy n ∧ cm (n + 1) = cm n ∧ cd (n + 1) = cd n + 1 := by
  have a := good n h
  have b := good (n + 1) (by omega)
  exact inj _ _ _ _ _ _ b.m1 b.m2 b.d1 b.d2 a.m1 a.m2 (by have := a.d1; omega) (by omega) (by have := a.back; have := b.back; omega)

/-- .. from a month's last day to the next month's first. -/
theorem next_month (n : Int) (h : 0 ≤ n) (g : ¬ cd n < ml (cy n) (cm n)) (g2 : cm n < 12) : cy (n + 1) = cy n ∧ cm (n + 1) = cm n + 1 ∧ cd (n + 1) = 1 := by
  have a := good n h
  have b := good (n + 1) (by omega)
  obtain ⟨m1, m2, d1, d2, d3, y1, back⟩ := a
  have l := lp_01 (cy n)
  have ed : cd n = ml (cy n) (cm n) := by omega
  have hm := month_cases (cm n) m1 m2
  generalize cm n = m at *
  refine inj _ _ _ _ _ _ b.m1 b.m2 b.d1 b.d2 (by omega) (by omega) (by omega) ?_ ?_
  · rcases hm with rfl | rfl | rfl | rfl | rfl | rfl | rfl | rfl | rfl | rfl | rfl | rfl
    all_goals
      first
      | omega
      | (simp [ml]; done)
      | (simp [ml]; omega)
  · have back' := b.back
    rw [ed] at back
    rcases hm with rfl | rfl | rfl | rfl | rfl | rfl | rfl | rfl | rfl | rfl | rfl | rfl
    all_goals
      first
      | (exfalso; omega)
      | (simp [ml, bm] at back; simp only [bm] at back' ⊢; simp; omega)

/-- .. from a year's last day to the next year's first. -/
theorem next_year (n : Int) (h : 0 ≤ n) (g : ¬ cd n < ml (cy n) (cm n)) (g2 : ¬ cm n < 12) : cy (n + 1) = cy n + 1 ∧ cm (n + 1) = 1 ∧ cd (n + 1) = 1 := by
  have a := good n h
  have b := good (n + 1) (by omega)
  obtain ⟨m1, m2, d1, d2, d3, y1, back⟩ := a
  have e12 : cm n = 12 := by omega
  have ed : cd n = ml (cy n) (cm n) := by omega
  have back' := b.back
  have hs := M_succ (cy n - 1)
  have e0 : cy n - 1 + 1 = cy n := by omega
  have e1 : cy n + 1 - 1 = cy n := by omega
  rw [e0] at hs
  rw [ed, e12] at back
  refine inj _ _ _ _ _ _ b.m1 b.m2 b.d1 b.d2 (by omega) (by omega) (by omega) (by simp [ml]) ?_
  rw [e1]
  simp [ml, bm] at back
  have eb : bm 1 = 0 := by decide
  rw [eb]
  simp
  omega

end Go.Proofs.Qxb6000712aMods.Civ
