/-
  THE WALKS THAT ONLY READ: zzEqual (26), zzHasBS (30), the two bounds on lengths (21, 29).
-/
import Derived.Test.Qxb6000712aModsAppBase
import Derived.Deep.QuietTactic
import Derived.BigQuiet
namespace Go.Proofs.Qxb6000712aMods.App
open Go.RowKit

theorem bytes21_yes (a b : Option Addr) (n m c d : Nat) (h : n + m ≤ 1048576) (w : World) :
    Calls Trym.prog 21 #[.slice a n c, .slice b m d] w fun e w' => e = .returned (.bool true) ∧ w' = w := by
  go_enter Trym.func21, Trym.ntmps21
  go_wp2
  go_ret
  exact ⟨rfl, rfl⟩
theorem bytes29_yes (a b : Option Addr) (n m c d : Nat) (q : Bool) (h : n + m ≤ 1048576) (w : World) :
    Calls Trym.prog 29 #[.slice a n c, .slice b m d, .bool q] w fun e w' => e = .returned (.bool true) ∧ w' = w := by
  go_enter Trym.func29, Trym.ntmps29
  go_wp2
  go_ret
  exact ⟨rfl, rfl⟩
theorem bytes21_no (a b : Option Addr) (n m c d : Nat) (h : ¬ n + m ≤ 1048576) (hn : n ≤ 9223372036854775807) (hm : m ≤ 9223372036854775807) (w : World) :
    Calls Trym.prog 21 #[.slice a n c, .slice b m d] w fun e w' => e = .returned (.bool false) ∧ w' = w := by
  by_cases h1 : n ≤ 1048576
  · by_cases h2 : m ≤ 1048576
    · go_enter Trym.func21, Trym.ntmps21
      go_wp2
      go_ret
      exact ⟨rfl, rfl⟩
    · go_enter Trym.func21, Trym.ntmps21
      go_wp2
      go_ret
      exact ⟨rfl, rfl⟩
  · go_enter Trym.func21, Trym.ntmps21
    go_wp2
    go_ret
    exact ⟨rfl, rfl⟩
theorem bytes29_no (a b : Option Addr) (n m c d : Nat) (q : Bool) (h : ¬ n + m ≤ 1048576) (hn : n ≤ 9223372036854775807) (hm : m ≤ 9223372036854775807) (w : World) :
    Calls Trym.prog 29 #[.slice a n c, .slice b m d, .bool q] w fun e w' => e = .returned (.bool false) ∧ w' = w := by
  by_cases h1 : n ≤ 1048576
  · by_cases h2 : m ≤ 1048576
    · go_enter Trym.func29, Trym.ntmps29
      go_wp2
      go_ret
      exact ⟨rfl, rfl⟩
    · go_enter Trym.func29, Trym.ntmps29
      go_wp2
      go_ret
      exact ⟨rfl, rfl⟩
  · go_enter Trym.func29, Trym.ntmps29
    go_wp2
    go_ret
    exact ⟨rfl, rfl⟩

/-- zzHasBS. -/
def hasB (xs : List Int) : Bool := xs.any (fun c => c == 92)
theorem hasB_no {xs : List Int} (h : hasB xs = false) : ∀ c ∈ xs, c ≠ 92 := by
  intro c hc e
  subst e
  have : hasB xs = true := List.any_eq_true.2 ⟨_, hc, by simp⟩
  rw [this] at h
  cases h
theorem take_next (xs : List Int) (k : Nat) (h : k < xs.length) (hs : ∀ c ∈ xs.take k, c ≠ 92) (hc : xs[k] ≠ 92) : ∀ c ∈ xs.take (k + 1), c ≠ 92 := by
  rw [List.take_succ_eq_append_getElem h]
  intro c hm
  rcases List.mem_append.1 hm with g | g
  · exact hs c g
  · simp at g; rw [g]; exact hc
theorem hasB_yes (xs : List Int) (k : Nat) (h : k < xs.length) (hc : xs[k] = 92) : hasB xs = true :=
  List.any_eq_true.2 ⟨xs[k], List.getElem_mem _, by simp [hc]⟩
theorem hasB_none (xs : List Int) (k : Nat) (h : ¬ k < xs.length) (hs : ∀ c ∈ xs.take k, c ≠ 92) : hasB xs = false := by
  rw [List.take_of_length_le (by omega)] at hs
  refine List.any_eq_false.2 fun c hc => ?_
  simpa using hs c hc
theorem bs30 (a : Option Addr) (c : Nat) (xs : List Int) (w : World) (hl : xs.length ≤ 4194304) (hR : Rd w a xs) :
    Calls Trym.prog 30 #[.slice a xs.length c] w fun e w' => e = .returned (.bool (hasB xs)) ∧ w' = w := by
  have HR : Hid (Rd w a xs) := hid hR
  clear hR
  go_enter Trym.func30, Trym.ntmps30
  go_wp2
  go_loop [3] (fun i => ∃ k : Nat, k ≤ xs.length ∧ i = .int .i64 k ∧ Hid (∀ c ∈ xs.take k, c ≠ 92)) (fun i => xs.length - (intOf i).toNat)
  case atStart => exact ⟨0, Nat.zero_le _, rfl, hid (by simp)⟩
  case round =>
    obtain ⟨k, hk, rfl, HS⟩ := hrel
    by_cases hlt : k < xs.length
    · obtain ⟨b, off, rfl, hc⟩ := HR.out (by omega)
      have q := hc k hlt
      clear hc
      by_cases h92 : xs[k] = 92
      · have HX := hid (hasB_yes xs k hlt h92)
        rw [h92] at q
        go_wp2
        go_ret
        exact ⟨ret_bool HX.out.symm, rfl⟩
      · have HX := hid (take_next xs k hlt HS.out h92)
        generalize xs[k] = x at *
        go_wp2
        go_round
        case rel => exact ⟨k + 1, by omega, by go_num, HX⟩
        case measure => simp [intOf]; omega
    · go_wp2
      go_ret
      exact ⟨ret_bool (hasB_none xs k hlt HS.out).symm, rfl⟩

/-- zzEqual, of two slices that hold the same. -/
theorem eq26 (a b : Option Addr) (c d : Nat) (xs : List Int) (w : World) (hl : xs.length ≤ 4194304) (hA : Rd w a xs) (hB : Rd w b xs) :
    Calls Trym.prog 26 #[.slice a xs.length c, .slice b xs.length d] w fun e w' => e = .returned (.bool true) ∧ ∃ n, w' = w.drewN n := by
  have HA : Hid (Rd w a xs) := hid hA
  have HB : Hid (Rd w b xs) := hid hB
  clear hA hB
  go_enter Trym.func26, Trym.ntmps26
  go_wp2
  go_loopw [5] (fun i wr => ∃ k nq : Nat, k ≤ xs.length ∧ i = .int .i64 k ∧ wr = w.drewN nq) (fun i _ => xs.length - (intOf i).toNat)
  case atStart => exact ⟨0, 0, Nat.zero_le _, rfl, rfl⟩
  case round =>
    obtain ⟨k, nq, hk, rfl, rfl⟩ := hrel
    by_cases hlt : k < xs.length
    · obtain ⟨b1, o1, rfl, h1⟩ := HA.out (by omega)
      obtain ⟨b2, o2, rfl, h2⟩ := HB.out (by omega)
      have q1 := h1 k hlt
      have q2 := h2 k hlt
      clear h1 h2
      have hz : (k : Int) < (xs.length : Int) := by omega
      generalize xs[k] = x at *
      go_wp2
      go_quiet (fail)
      go_wp2
      go_roundw
      case rel => exact ⟨k + 1, _, by omega, by go_num, rfl⟩
      case measure => simp [intOf]; omega
    · go_wp2
      go_ret
      exact ⟨rfl, _, rfl⟩
end Go.Proofs.Qxb6000712aMods.App
