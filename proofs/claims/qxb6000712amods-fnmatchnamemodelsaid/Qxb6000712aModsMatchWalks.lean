/-
  THE WALKS OF matchName (34), ZZmatchName (16), zzHasStar (19), the two bounds on lengths (15, 18).
-/
import Derived.Test.Qxb6000712aModsProg
import Derived.Test.Qxb6000712aModsMatchPlain
import Derived.WalkKit
import Derived.ProofKit
import Derived.WalkSpells
import Derived.Deep.QuietTactic
import Derived.BigQuiet
namespace Go.Proofs.Qxb6000712aMods.Mat
open Go.RowKit

theorem hid {p : Prop} (h : p) : Hid p := h
theorem ret_bool {a b : Bool} (h : a = b) : Ending.returned (.bool a) = .returned (.bool b) := by rw [h]

/-- The bounds on lengths. -/
theorem bytes18_yes (a b : ByteArray) (h : a.size + b.size ≤ 1048576) (w : World) :
    Calls Trym.prog 18 #[.string a, .string b] w fun e w' => e = .returned (.bool true) ∧ w' = w := by
  go_enter Trym.func18, Trym.ntmps18
  go_wp2
  go_ret
  exact ⟨rfl, rfl⟩
theorem bytes15_yes (a b : ByteArray) (h : a.size + b.size ≤ 1048576) (w : World) :
    Calls Trym.prog 15 #[.string a, .string b] w fun e w' => e = .returned (.bool true) ∧ w' = w := by
  go_enter Trym.func15, Trym.ntmps15
  go_wp2
  go_ret
  exact ⟨rfl, rfl⟩
theorem bytes18_no (a b : ByteArray) (h : ¬ a.size + b.size ≤ 1048576) (w : World) (ha : a.size ≤ maxLen) (hb : b.size ≤ maxLen) :
    Calls Trym.prog 18 #[.string a, .string b] w fun e w' => e = .returned (.bool false) ∧ w' = w := by
  unfold maxLen at ha hb
  by_cases h1 : a.size ≤ 1048576
  · by_cases h2 : b.size ≤ 1048576
    · go_enter Trym.func18, Trym.ntmps18
      go_wp2
      go_ret
      exact ⟨rfl, rfl⟩
    · go_enter Trym.func18, Trym.ntmps18
      go_wp2
      go_ret
      exact ⟨rfl, rfl⟩
  · go_enter Trym.func18, Trym.ntmps18
    go_wp2
    go_ret
    exact ⟨rfl, rfl⟩
theorem bytes15_no (a b : ByteArray) (h : ¬ a.size + b.size ≤ 1048576) (w : World) (ha : a.size ≤ maxLen) (hb : b.size ≤ maxLen) :
    Calls Trym.prog 15 #[.string a, .string b] w fun e w' => e = .returned (.bool false) ∧ w' = w := by
  unfold maxLen at ha hb
  by_cases h1 : a.size ≤ 1048576
  · by_cases h2 : b.size ≤ 1048576
    · go_enter Trym.func15, Trym.ntmps15
      go_wp2
      go_ret
      exact ⟨rfl, rfl⟩
    · go_enter Trym.func15, Trym.ntmps15
      go_wp2
      go_ret
      exact ⟨rfl, rfl⟩
  · go_enter Trym.func15, Trym.ntmps15
    go_wp2
    go_ret
    exact ⟨rfl, rfl⟩

/-- The answer says whether the name matches. -/
def Ans (a b : ByteArray) (e : Ending) : Prop := ∃ r : Bool, e = .returned (.bool r) ∧ (r = true ↔ G (L a) (L b))
theorem Ans.of {a b : ByteArray} {e : Ending} (r : Bool) (he : e = .returned (.bool r)) (h : r = true ↔ G (L a) (L b)) : Ans a b e := ⟨r, he, h⟩

set_option maxHeartbeats 800000 in
/-- matchName. -/
theorem match34 (a b : ByteArray) (h : a.size + b.size ≤ 1048576) (w : World) :
    Calls Trym.prog 34 #[.string a, .string b] w fun e w' => Ans a b e ∧ ∃ n, w' = w.drewN n := by
  go_enter Trym.func34, Trym.ntmps34
  go_wp2
  go_loopw [5, 6, 7, 8] (fun s t p i wr => ∃ st tk pp ii nq : Nat, s = .int .i64 ((st : Int) - 1) ∧ t = .int .i64 tk ∧ p = .int .i64 pp ∧ i = .int .i64 ii ∧ Inv (L a) (L b) st tk pp ii ∧ wr = w.drewN nq) (fun _ t p _ _ => mu a.size b.size (intOf t).toNat (intOf p).toNat)
  case atStart => exact ⟨0, 0, 0, 0, 0, by go_num, rfl, rfl, rfl, inv_start _ _, rfl⟩
  case round =>
    obtain ⟨st, tk, pp, ii, nq, rfl, rfl, rfl, rfl, hinv, rfl⟩ := hrel
    have HI : Hid _ := hid hinv
    have b1 := hinv.stp
    have b2 : pp ≤ a.size := by have := hinv.pl; simpa using this
    have b3 := hinv.tki
    have b4 : ii ≤ b.size := by have := hinv.il; simpa using this
    clear hinv
    by_cases hi : ii < b.size
    · by_cases hp : pp < a.size
      · by_cases hst : st = 0
        · subst hst
          go_wp2
          · have hc : ((a[pp].toNat : Int) == 42) = true := by assumption
            go_roundw
            case rel => exact ⟨pp + 1, ii, pp + 1, ii, nq, by go_num, rfl, by go_num, rfl, at_star HI.out hp hc, rfl⟩
            case measure => simp [intOf]; exact mu_on b3 (by omega) (by omega)
          · go_quiet (fail)
            go_wp2
            · have hn : ((a[pp].toNat : Int) == 42) = false := by assumption
              have hc : ((a[pp].toNat : Int) == (b[ii].toNat : Int)) = true := by assumption
              go_roundw
              case rel => exact ⟨0, tk, pp + 1, ii + 1, _, by go_num, rfl, by go_num, by go_num, at_fit HI.out hp hi hn hc, rfl⟩
              case measure => simp [intOf]; exact mu_on (Nat.le_refl _) (by omega) (by omega)
            · have hn : ((a[pp].toNat : Int) == 42) = false := by assumption
              have hc : ((a[pp].toNat : Int) == (b[ii].toNat : Int)) = false := by assumption
              go_ret
              exact ⟨Ans.of false rfl (at_fail HI.out hp hi hn hc), _, rfl⟩
        · go_wp2
          · have hc : ((a[pp].toNat : Int) == 42) = true := by assumption
            go_roundw
            case rel => exact ⟨pp + 1, ii, pp + 1, ii, nq, by go_num, rfl, by go_num, rfl, at_star HI.out hp hc, rfl⟩
            case measure => simp [intOf]; exact mu_on b3 (by omega) (by omega)
          · go_quiet (fail)
            go_wp2
            · have hn : ((a[pp].toNat : Int) == 42) = false := by assumption
              have hc : ((a[pp].toNat : Int) == (b[ii].toNat : Int)) = true := by assumption
              go_roundw
              case rel => exact ⟨st, tk, pp + 1, ii + 1, _, rfl, rfl, by go_num, by go_num, at_fit HI.out hp hi hn hc, rfl⟩
              case measure => simp [intOf]; exact mu_on (Nat.le_refl _) (by omega) (by omega)
            · have hn : ((a[pp].toNat : Int) == 42) = false := by assumption
              have hc : ((a[pp].toNat : Int) == (b[ii].toNat : Int)) = false := by assumption
              go_roundw
              case rel => exact ⟨st, tk + 1, st, tk + 1, _, rfl, by go_num, rfl, by go_num, at_back HI.out hst hp hi hn hc, rfl⟩
              case measure => simp [intOf]; exact mu_back (by omega) (by omega)
      · have hd : decide ((pp : Int) < (a.size : Int)) = false := by simpa using hp
        by_cases hst : st = 0
        · subst hst
          go_wp2
          go_quiet (fail)
          go_wp2
          go_ret
          exact ⟨Ans.of false rfl (at_fail' HI.out hp hi), _, rfl⟩
        · go_wp2
          go_quiet (fail)
          go_wp2
          go_roundw
          case rel => exact ⟨st, tk + 1, st, tk + 1, _, rfl, by go_num, rfl, by go_num, at_back' HI.out hst hp hi, rfl⟩
          case measure => simp [intOf]; exact mu_back (by omega) (by omega)
    · have HE : Hid _ := hid (at_out HI.out hi)
      clear HI
      go_wp2
      go_loop [7] (fun p => ∃ pp : Nat, pp ≤ a.size ∧ p = .int .i64 pp ∧ Hid (G (L a) (L b) ↔ G ((L a).drop pp) [])) (fun p => a.size - (intOf p).toNat)
      case atStart => exact ⟨pp, b2, rfl, HE⟩
      case round =>
        clear HE
        obtain ⟨qq, hq, rfl, HE⟩ := hrel
        by_cases hp : qq < a.size
        · go_wp2
          · have hc : ((a[qq].toNat : Int) == 42) = true := by assumption
            go_round
            case rel => exact ⟨qq + 1, by omega, by go_num, at_skip HE.out hp hc⟩
            case measure => simp [intOf]; omega
          · have hc : ((a[qq].toNat : Int) == 42) = false := by assumption
            go_ret
            exact ⟨Ans.of ((qq : Int) == (a.size : Int)) rfl (by rw [show ((qq : Int) == (a.size : Int)) = false from by simp; omega]; exact at_no HE.out hp hc), _, rfl⟩
        · go_wp2
          go_ret
          exact ⟨Ans.of ((qq : Int) == (a.size : Int)) rfl (by rw [show ((qq : Int) == (a.size : Int)) = true from by simp; omega]; exact at_yes HE.out hp), _, rfl⟩

/-- ZZmatchName. -/
theorem match16 (a b : ByteArray) (h : a.size + b.size ≤ 1048576) (w : World) :
    Calls Trym.prog 16 #[.string a, .string b] w fun e w' => Ans a b e ∧ ∃ n, w' = w.drewN n := by
  go_enter Trym.func16, Trym.ntmps16
  go_wp2_with (go_at_call 34; refine (match34 a b h _).mono ?_; rintro e w' ⟨⟨r, rfl, hr⟩, n, rfl⟩)
  go_ret
  exact ⟨Ans.of r rfl hr, _, rfl⟩

/-- zzHasStar. -/
def starB (a : ByteArray) : Bool := (L a).any (fun c => c == 42)
theorem starB_no {a : ByteArray} (h : starB a = false) : ∀ c ∈ L a, c ≠ 42 := by
  intro c hc e
  subst e
  have : starB a = true := List.any_eq_true.2 ⟨_, hc, by simp⟩
  rw [this] at h
  cases h
theorem take_next (a : ByteArray) (k : Nat) (h : k < a.size) (hs : ∀ c ∈ (L a).take k, c ≠ 42) (hc : ((a[k].toNat : Int) == 42) = false) : ∀ c ∈ (L a).take (k + 1), c ≠ 42 := by
  rw [List.take_succ_eq_append_getElem (by simpa using h)]
  intro c hm
  rcases List.mem_append.1 hm with g | g
  · exact hs c g
  · simp at g; rw [g]; exact u8_nostar _ hc
theorem star_yes (a : ByteArray) (k : Nat) (h : k < a.size) (hc : ((a[k].toNat : Int) == 42) = true) : starB a = true :=
  List.any_eq_true.2 ⟨a[k], by rw [← L_get a k h]; exact List.getElem_mem _, by simpa using (u8_star _).1 hc⟩
theorem star_no (a : ByteArray) (k : Nat) (h : ¬ k < a.size) (hs : ∀ c ∈ (L a).take k, c ≠ 42) : starB a = false := by
  rw [List.take_of_length_le (by simp; omega)] at hs
  refine List.any_eq_false.2 fun c hc => ?_
  simpa using hs c hc
theorem star19 (a : ByteArray) (h : a.size ≤ 1048576) (w : World) :
    Calls Trym.prog 19 #[.string a] w fun e w' => e = .returned (.bool (starB a)) ∧ w' = w := by
  go_enter Trym.func19, Trym.ntmps19
  go_wp2
  go_loop [3] (fun i => ∃ k : Nat, k ≤ a.size ∧ i = .int .i64 k ∧ Hid (∀ c ∈ (L a).take k, c ≠ 42)) (fun i => a.size - (intOf i).toNat)
  case atStart => exact ⟨0, Nat.zero_le _, rfl, hid (by simp)⟩
  case round =>
    obtain ⟨k, hk, rfl, HS⟩ := hrel
    by_cases hlt : k < a.size
    · go_wp2
      · have hc : ((a[k].toNat : Int) == 42) = true := by assumption
        go_ret
        exact ⟨ret_bool (star_yes a k hlt hc).symm, rfl⟩
      · have hc : ((a[k].toNat : Int) == 42) = false := by assumption
        go_round
        case rel => exact ⟨k + 1, by omega, by go_num, take_next a k hlt HS.out hc⟩
        case measure => simp [intOf]; omega
    · go_wp2
      go_ret
      exact ⟨ret_bool (star_no a k hlt HS.out).symm, rfl⟩

theorem lit_end {a b : ByteArray} {r : Bool} (hr : r = true ↔ G (L a) (L b)) (hs : starB a = false) : (r == (a.toList == b.toList)) = true := by
  rw [at_literal a b (starB_no hs)] at hr
  rw [beq_iff_eq, Bool.eq_iff_iff, hr, beq_iff_eq, ByteArray.toList_eq, ByteArray.toList_eq]
  constructor
  · rintro rfl
    rfl
  · intro e
    exact ByteArray.ext (Array.toList_inj.1 e)

set_option maxHeartbeats 400000 in
/-- FnMatchNameLiteral. -/
theorem law7 (a b : ByteArray) (ha : a.size ≤ maxLen) (hb : b.size ≤ maxLen) (w : World) :
    Calls Trym.prog 7 #[.string a, .string b] w fun e w' => e = .returned (.bool true) ∧ ∃ n, w' = w.drewN n := by
  by_cases h : a.size + b.size ≤ 1048576
  · by_cases hs : starB a = true
    · go_enter Trym.func7, Trym.ntmps7
      go_wp2_with (first | (go_at_call 18; refine (bytes18_yes a b h _).mono ?_; rintro e w' ⟨rfl, rfl⟩) | (go_at_call 19; refine (star19 a (by omega) _).mono ?_; rintro e w' ⟨rfl, rfl⟩))
      go_ret
      exact ⟨rfl, 0, rfl⟩
    · have hs' : starB a = false := by simpa using hs
      clear hs
      go_enter Trym.func7, Trym.ntmps7
      go_wp2_with (first | (go_at_call 18; refine (bytes18_yes a b h _).mono ?_; rintro e w' ⟨rfl, rfl⟩) | (go_at_call 19; refine (star19 a (by omega) _).mono ?_; rintro e w' ⟨rfl, rfl⟩) | (go_at_call 16; refine (match16 a b h _).mono ?_; rintro e w' ⟨⟨r, rfl, hr⟩, n, rfl⟩))
      go_ret
      exact ⟨ret_bool (lit_end hr hs'), _, rfl⟩
  · go_enter Trym.func7, Trym.ntmps7
    go_wp2_with (go_at_call 18; refine (bytes18_no a b h _ ha hb).mono ?_; rintro e w' ⟨rfl, rfl⟩)
    go_ret
    exact ⟨rfl, 0, rfl⟩
end Go.Proofs.Qxb6000712aMods.Mat
