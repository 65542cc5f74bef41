/-
  THE WALKS OF THE CIVIL DATE: civilDate (31), ZZcivilDate (12), zzLeap (33), zzMonthLen (14), zzBeforeMonth (32), zzDaysOf (13).
-/
import Derived.Test.Qxb6000712aModsRows
import Derived.Test.Qxb6000712aModsCivPlain
import Derived.WalkKit
import Derived.ProofKit
import Derived.WalkSpells
namespace Go.Proofs.Qxb6000712aMods
open Go.RowKit Civ

theorem ret3_int {k : IntKind} {a b c a' b' c' : Int} (h1 : a = a') (h2 : b = b') (h3 : c = c') :
    Ending.returned (.tuple #[.int k a, .int k b, .int k c]) = .returned (.tuple #[.int k a', .int k b', .int k c']) := by rw [h1, h2, h3]

theorem hid {p : Prop} (h : p) : Hid p := h
theorem ret_bool {a b : Bool} (h : a = b) : Ending.returned (.bool a) = .returned (.bool b) := by rw [h]

set_option maxHeartbeats 400000 in
theorem civ31 (n : Int) (h0 : 0 ≤ n) (h1 : n ≤ 18446744073708832147) (w : World) :
    Calls Trym.prog 31 #[.int .u64 n] w fun e w' => e = .returned (.tuple #[.int .u64 (cy n), .int .u64 (cm n), .int .u64 (cd n)]) ∧ w' = w := by
  obtain ⟨D, hD⟩ : ∃ D, n + 719468 = D := ⟨_, rfl⟩
  have hD0 : 719468 ≤ D := by omega
  have hD1 : D ≤ 18446744073709551615 := by omega
  obtain ⟨E, hE⟩ : ∃ E, D / 146097 = E := ⟨_, rfl⟩
  obtain ⟨r, hr⟩ : ∃ r, D % 146097 = r := ⟨_, rfl⟩
  have hr0 : 0 ≤ r := by omega
  have hr1 : r ≤ 146096 := by omega
  have hE0 : 0 ≤ E := by omega
  have hE1 : E ≤ 126263695584779 := by omega
  obtain ⟨Y, hY⟩ : ∃ Y, (r - r / 1460 + r / 36524 - r / 146096) / 365 = Y := ⟨_, rfl⟩
  obtain ⟨d, hd⟩ : ∃ d, r - (365 * Y + Y / 4 - Y / 100) = d := ⟨_, rfl⟩
  obtain ⟨m, hm⟩ : ∃ m, (5 * d + 2) / 153 = m := ⟨_, rfl⟩
  have L := yoe_law r hr0 hr1
  have eY : yoe r = Y := hY
  rw [eY] at L
  have ed : doy r Y = d := hd
  rw [ed] at L
  obtain ⟨hY0, hY1, hd0, hd1⟩ := L
  have l01 := lp_01 (Y + 1)
  have hd2 : d ≤ 365 := by omega
  have hm0 : 0 ≤ m := by omega
  have hm1 : m ≤ 11 := by omega
  have hk : (153 * m + 2) / 5 ≤ d := by omega
  have Ed : Hid (dy n = d) := by
    show doy (doe (n + 719468)) (yoe (doe (n + 719468))) = d
    rw [hD, show doe D = r from hr, eY, ed]
  have Ey : Hid (Yf n = E * 400 + Y) := by
    show era (n + 719468) * 400 + yoe (doe (n + 719468)) = _
    rw [hD, show doe D = r from hr, eY, show era D = E from hE]
  have Em : Hid (mfm d = m) := hm
  clear eY ed hd1 l01
  by_cases h9 : m ≤ 9
  · have X1 : Hid (cy n = E * 400 + Y) := hid (by unfold cy; rw [Ed.out, Em.out, if_pos h9, Ey.out])
    have X2 : Hid (cm n = m + 3) := hid (by unfold cm; rw [Ed.out, Em.out, if_pos h9])
    have X3 : Hid (cd n = d - (153 * m + 2) / 5 + 1) := hid (by unfold cd; rw [Ed.out, Em.out])
    go_enter Trym.func31, Trym.ntmps31
    go_wp2
    go_ret3
    exact ⟨ret3_int X1.out.symm X2.out.symm X3.out.symm, rfl⟩
  · have X1 : Hid (cy n = E * 400 + Y + 1) := hid (by unfold cy; rw [Ed.out, Em.out, if_neg h9, Ey.out])
    have X2 : Hid (cm n = m + 3 - 12) := hid (by unfold cm; rw [Ed.out, Em.out, if_neg h9]; omega)
    have X3 : Hid (cd n = d - (153 * m + 2) / 5 + 1) := hid (by unfold cd; rw [Ed.out, Em.out])
    go_enter Trym.func31, Trym.ntmps31
    go_wp2
    go_ret3
    exact ⟨ret3_int X1.out.symm X2.out.symm X3.out.symm, rfl⟩

/-- ZZcivilDate. -/
theorem civ12 (n : Int) (h0 : 0 ≤ n) (h1 : n ≤ 18446744073708832147) (w : World) :
    Calls Trym.prog 12 #[.int .u64 n] w fun e w' => e = .returned (.tuple #[.int .u64 (cy n), .int .u64 (cm n), .int .u64 (cd n)]) ∧ w' = w := by
  go_enter Trym.func12, Trym.ntmps12
  go_wp2_with (go_at_call 31; refine (civ31 n h0 h1 _).mono ?_; rintro e w' ⟨rfl, rfl⟩)
  go_ret3
  exact ⟨rfl, rfl⟩

/-- zzLeap. -/
theorem leap33 (y : Int) (h0 : 0 ≤ y) (h1 : y ≤ 18446744073709551615) (w : World) :
    Calls Trym.prog 33 #[.int .u64 y] w fun e w' => e = .returned (.bool (leapB y)) ∧ w' = w := by
  by_cases g : y % 4 = 0
  · by_cases g2 : y % 100 = 0
    · by_cases g3 : y % 400 = 0
      · have X : Hid (leapB y = true) := hid (by simp [leapB, g, g3])
        go_enter Trym.func33, Trym.ntmps33
        go_wp2
        go_ret
        exact ⟨ret_bool (by first | (rw [X.out]; done) | (rw [X.out]; simp [*])), rfl⟩
      · have X : Hid (leapB y = false) := hid (by simp [leapB, g, g2, g3])
        go_enter Trym.func33, Trym.ntmps33
        go_wp2
        go_ret
        exact ⟨ret_bool (by first | (rw [X.out]; done) | (rw [X.out]; simp [*])), rfl⟩
    · have X : Hid (leapB y = true) := hid (by simp [leapB, g, g2])
      go_enter Trym.func33, Trym.ntmps33
      go_wp2
      go_ret
      exact ⟨ret_bool (by first | (rw [X.out]; done) | (rw [X.out]; simp [*])), rfl⟩
  · have X : Hid (leapB y = false) := hid (by simp [leapB, g])
    go_enter Trym.func33, Trym.ntmps33
    go_wp2
    go_ret
    exact ⟨ret_bool (by first | (rw [X.out]; done) | (rw [X.out]; simp [*])), rfl⟩

theorem ret_int {k : IntKind} {a b : Int} (h : a = b) : Ending.returned (.int k a) = .returned (.int k b) := by rw [h]

/-- zzMonthLen, at a month. -/
theorem ml14 (y m : Int) (h0 : 0 ≤ y) (h1 : y ≤ 18446744073709551615) (m1 : 1 ≤ m) (m2 : m ≤ 12) (w : World) :
    Calls Trym.prog 14 #[.int .u64 y, .int .u64 m] w fun e w' => e = .returned (.int .u64 (ml y m)) ∧ w' = w := by
  rcases month_cases m m1 m2 with rfl | rfl | rfl | rfl | rfl | rfl | rfl | rfl | rfl | rfl | rfl | rfl
  case inr.inl =>
    by_cases g : leapB y = true
    · have X : Hid (ml y 2 = 29) := hid (by have : lp y = 1 := lp_true g; simp [ml, this])
      go_enter Trym.func14, Trym.ntmps14
      go_wp2_with (go_at_call 33; refine (leap33 y h0 h1 _).mono ?_; rintro e w' ⟨rfl, rfl⟩)
      go_ret
      exact ⟨ret_int X.out.symm, rfl⟩
    · have g' : leapB y = false := by simpa using g
      have X : Hid (ml y 2 = 28) := hid (by have : lp y = 0 := lp_false g'; simp [ml, this])
      clear g
      go_enter Trym.func14, Trym.ntmps14
      go_wp2_with (go_at_call 33; refine (leap33 y h0 h1 _).mono ?_; rintro e w' ⟨rfl, rfl⟩)
      go_ret
      exact ⟨ret_int X.out.symm, rfl⟩
  all_goals
    go_enter Trym.func14, Trym.ntmps14
    go_wp2
    go_ret
    exact ⟨ret_int (by simp [ml]), rfl⟩

/-- zzBeforeMonth, at a month. -/
theorem bm32 (m : Int) (m1 : 1 ≤ m) (m2 : m ≤ 12) (w : World) :
    Calls Trym.prog 32 #[.int .u64 m] w fun e w' => e = .returned (.int .u64 (bm m)) ∧ w' = w := by
  rcases month_cases m m1 m2 with rfl | rfl | rfl | rfl | rfl | rfl | rfl | rfl | rfl | rfl | rfl | rfl
  all_goals
    go_enter Trym.func32, Trym.ntmps32
    go_wp2
    go_ret
    exact ⟨ret_int (by simp [bm]), rfl⟩

/-- The count back, as the Go text reckons it, modulo 2^64: with the leap day .. -/
theorem back1 (y b d N : Int) (h : M (y - 1) + b + 1 + d - 719163 = N) (h0 : 0 ≤ N) (h1 : N ≤ 18446744073709551615) :
    IntKind.u64.wrap (IntKind.u64.wrap (IntKind.u64.wrap (IntKind.u64.wrap (IntKind.u64.wrap (IntKind.u64.wrap (IntKind.u64.wrap (IntKind.u64.wrap ((y - 1) * 365) + (y - 1) / 4) - (y - 1) / 100) + (y - 1) / 400) + b) + 1) + (d - 1)) - 719162) = N := by
  unfold M at h
  simp only [IntKind.wrap_u64]
  omega
/-- .. and without. -/
theorem back0 (y b d N : Int) (h : M (y - 1) + b + 0 + d - 719163 = N) (h0 : 0 ≤ N) (h1 : N ≤ 18446744073709551615) :
    IntKind.u64.wrap (IntKind.u64.wrap (IntKind.u64.wrap (IntKind.u64.wrap (IntKind.u64.wrap (IntKind.u64.wrap (IntKind.u64.wrap ((y - 1) * 365) + (y - 1) / 4) - (y - 1) / 100) + (y - 1) / 400) + b) + (d - 1)) - 719162) = N := by
  unfold M at h
  simp only [IntKind.wrap_u64]
  omega

set_option maxHeartbeats 400000 in
/-- zzDaysOf, at a date that counts back to day N. -/
theorem days13 (y m d N : Int) (y1 : 1 ≤ y) (y2 : y ≤ 18446744073709551615) (m1 : 1 ≤ m) (m2 : m ≤ 12) (d1 : 1 ≤ d) (d2 : d ≤ 31)
    (hN : Hid (M (y - 1) + bm m + (if 2 < m then lp y else 0) + d - 719163 = N ∧ 0 ≤ N ∧ N ≤ 18446744073709551615)) (w : World) :
    Calls Trym.prog 13 #[.int .u64 y, .int .u64 m, .int .u64 d] w fun e w' => e = .returned (.int .u64 N) ∧ w' = w := by
  by_cases g : 2 < m
  · by_cases gl : leapB y = true
    · have X : Hid (M (y - 1) + bm m + 1 + d - 719163 = N) := hid (by have := hN.out.1; rw [if_pos g, lp_true gl] at this; exact this)
      go_enter Trym.func13, Trym.ntmps13
      go_wp2_with (first | (go_at_call 33; refine (leap33 y (by omega) y2 _).mono ?_; rintro e w' ⟨rfl, rfl⟩) | (go_at_call 32; refine (bm32 m m1 m2 _).mono ?_; rintro e w' ⟨rfl, rfl⟩))
      go_ret
      exact ⟨ret_int (back1 _ _ _ _ X.out hN.out.2.1 hN.out.2.2), rfl⟩
    · have gl' : leapB y = false := by simpa using gl
      have X : Hid (M (y - 1) + bm m + 0 + d - 719163 = N) := hid (by have := hN.out.1; rw [if_pos g, lp_false gl'] at this; exact this)
      clear gl
      go_enter Trym.func13, Trym.ntmps13
      go_wp2_with (first | (go_at_call 33; refine (leap33 y (by omega) y2 _).mono ?_; rintro e w' ⟨rfl, rfl⟩) | (go_at_call 32; refine (bm32 m m1 m2 _).mono ?_; rintro e w' ⟨rfl, rfl⟩))
      go_ret
      exact ⟨ret_int (back0 _ _ _ _ X.out hN.out.2.1 hN.out.2.2), rfl⟩
  · have X : Hid (M (y - 1) + bm m + 0 + d - 719163 = N) := hid (by have := hN.out.1; rw [if_neg g] at this; exact this)
    go_enter Trym.func13, Trym.ntmps13
    go_wp2_with (first | (go_at_call 33; refine (leap33 y (by omega) y2 _).mono ?_; rintro e w' ⟨rfl, rfl⟩) | (go_at_call 32; refine (bm32 m m1 m2 _).mono ?_; rintro e w' ⟨rfl, rfl⟩))
    go_ret
    exact ⟨ret_int (back0 _ _ _ _ X.out hN.out.2.1 hN.out.2.2), rfl⟩

/-- Above the bound the laws say true at once. FnCivilDateInverse below it. -/
theorem law3 (n : Int) (h0 : 0 ≤ n) (hb : n ≤ 18446744073709551615) (w : World) :
    Calls Trym.prog 3 #[.int .u64 n] w fun e w' => e = .returned (.bool true) ∧ w' = w := by
  by_cases h1 : n ≤ 18446744073708832147
  · obtain ⟨m1, m2, d1, _, d3, y1, back⟩ := good n h0
    have yr := (years n h0).1
    have HN : Hid (M (cy n - 1) + bm (cm n) + (if 2 < cm n then lp (cy n) else 0) + cd n - 719163 = n ∧ 0 ≤ n ∧ n ≤ 18446744073709551615) := hid ⟨back, h0, hb⟩
    have y2 : cy n ≤ 18446744073709551615 := by omega
    clear back yr
    go_enter Trym.func3, Trym.ntmps3
    go_wp2_with (first | (go_at_call 12; refine (civ12 n h0 h1 _).mono ?_; rintro e w' ⟨rfl, rfl⟩) | (go_at_call 13; refine (days13 (cy n) (cm n) (cd n) n (by omega) y2 m1 m2 d1 d3 HN _).mono ?_; rintro e w' ⟨rfl, rfl⟩))
    go_ret
    exact ⟨rfl, rfl⟩
  · go_enter Trym.func3, Trym.ntmps3
    go_wp2
    go_ret
    exact ⟨rfl, rfl⟩

/-- FnCivilDateValid. -/
theorem law4 (n : Int) (h0 : 0 ≤ n) (hb : n ≤ 18446744073709551615) (w : World) :
    Calls Trym.prog 4 #[.int .u64 n] w fun e w' => e = .returned (.bool true) ∧ w' = w := by
  by_cases h1 : n ≤ 18446744073708832147
  · obtain ⟨m1, m2, d1, d2, d3, y1, _⟩ := good n h0
    obtain ⟨ya, yb⟩ := years n h0
    have y2 : cy n ≤ 18446744073709551615 := by omega
    have y0 : 0 ≤ cy n := by omega
    go_enter Trym.func4, Trym.ntmps4
    go_wp2_with (first | (go_at_call 12; refine (civ12 n h0 h1 _).mono ?_; rintro e w' ⟨rfl, rfl⟩) | (go_at_call 14; refine (ml14 (cy n) (cm n) y0 y2 m1 m2 _).mono ?_; rintro e w' ⟨rfl, rfl⟩))
    go_ret
    exact ⟨rfl, rfl⟩
  · go_enter Trym.func4, Trym.ntmps4
    go_wp2
    go_ret
    exact ⟨rfl, rfl⟩

/-- FnCivilDateNextDay. -/
theorem law5 (n : Int) (h0 : 0 ≤ n) (hb : n ≤ 18446744073709551615) (w : World) :
    Calls Trym.prog 5 #[.int .u64 n] w fun e w' => e = .returned (.bool true) ∧ w' = w := by
  by_cases h1 : n < 18446744073708832147
  · obtain ⟨m1, m2, d1, d2, d3, y1, _⟩ := good n h0
    have ya := (years n h0).1
    have y2 : cy n ≤ 18446744073709551614 := by omega
    have y0 : 0 ≤ cy n := by omega
    by_cases g : cd n < ml (cy n) (cm n)
    · obtain ⟨e1, e2, e3⟩ := next_in n h0 g
      go_enter Trym.func5, Trym.ntmps5
      go_wp2_with fail
      refine (civ12 n h0 (by omega) _).mono ?_
      rintro e w' ⟨rfl, rfl⟩
      go_wp2_with fail
      refine (civ12 (n + 1) (by omega) (by omega) _).mono ?_
      rintro e w' ⟨rfl, rfl⟩
      go_wp2_with (go_at_call 14; refine (ml14 (cy n) (cm n) y0 (by omega) m1 m2 _).mono ?_; rintro e w' ⟨rfl, rfl⟩)
      go_ret
      exact ⟨rfl, rfl⟩
    · by_cases g2 : cm n < 12
      · obtain ⟨e1, e2, e3⟩ := next_month n h0 g g2
        go_enter Trym.func5, Trym.ntmps5
        go_wp2_with fail
        refine (civ12 n h0 (by omega) _).mono ?_
        rintro e w' ⟨rfl, rfl⟩
        go_wp2_with fail
        refine (civ12 (n + 1) (by omega) (by omega) _).mono ?_
        rintro e w' ⟨rfl, rfl⟩
        go_wp2_with (go_at_call 14; refine (ml14 (cy n) (cm n) y0 (by omega) m1 m2 _).mono ?_; rintro e w' ⟨rfl, rfl⟩)
        go_ret
        exact ⟨rfl, rfl⟩
      · obtain ⟨e1, e2, e3⟩ := next_year n h0 g g2
        go_enter Trym.func5, Trym.ntmps5
        go_wp2_with fail
        refine (civ12 n h0 (by omega) _).mono ?_
        rintro e w' ⟨rfl, rfl⟩
        go_wp2_with fail
        refine (civ12 (n + 1) (by omega) (by omega) _).mono ?_
        rintro e w' ⟨rfl, rfl⟩
        go_wp2_with (go_at_call 14; refine (ml14 (cy n) (cm n) y0 (by omega) m1 m2 _).mono ?_; rintro e w' ⟨rfl, rfl⟩)
        go_ret
        exact ⟨rfl, rfl⟩
  · go_enter Trym.func5, Trym.ntmps5
    go_wp2
    go_ret
    exact ⟨rfl, rfl⟩
end Go.Proofs.Qxb6000712aMods
