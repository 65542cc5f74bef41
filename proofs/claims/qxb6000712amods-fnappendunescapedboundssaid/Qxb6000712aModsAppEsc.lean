/-
  THE WALK OF zzEscape (25): it makes a slice of its own and appends to it.
-/
import Derived.Test.Qxb6000712aModsAppBase
namespace Go.Proofs.Qxb6000712aMods.App
open Go.RowKit

/-- One byte more is escaped. -/
theorem esc_step {B : Nat} {w wr w1 : World} {v v' v2 : Value} {xs news : List Int} {k n : Nat} {o : Obj} {x : Int} (h : St B w v wr v' (escape (xs.take k))) (hk : k < xs.length) (hx : xs[k] = x) (he : es x = news)
    (hown : w1.ownsRow B 5 1 v2 n (V (escape (xs.take k)) ++ V news)) (hn : n = (escape (xs.take k)).length + news.length) (hgrow : (wr.alloc o).grownBy w1 v'.ownBlock) (hat : v2.ownBlock = v'.ownBlock ∨ v2.ownBlock = some (wr.alloc o).heap.size) :
    St B w v w1 v2 (escape (xs.take (k + 1))) := by
  rw [esc_next xs k hk, hx, he]
  exact h.append hown hgrow hat hn rfl
theorem esc_room {B : Nat} {w wr : World} {v v' : Value} {xs : List Int} {k : Nat} (h : St B w v wr v' (escape (xs.take k))) (hl : xs.length ≤ 4194304) (m : Nat) (hm : m ≤ 2) :
    Hid ((escape (xs.take k)).length + m ≤ maxLen ∧ ((escape (xs.take k)).length + m) * 1 ≤ 140737488355328 ∧ ∀ o, B ≤ (wr.alloc o).heap.size) := by
  have h1 := escape_len (xs.take k)
  have h2 := h.base
  have h3 := h.grown.size
  have h4 : (xs.take k).length ≤ xs.length := by simp; omega
  refine hid ⟨by simp [maxLen]; omega, by omega, fun o => by simp; omega⟩
theorem below_none {w w' : World} (h : w.grownBy w' none) : Below w.heap.size w w' := ⟨h.os, h.tape, h.output, h.size, fun k hk => h.block k hk (by simp)⟩
theorem own_start {w w1 : World} {c : Nat} (h : w1.ownsRow w.heap.size 5 1 (.slice (some ⟨w.heap.size, 0, none⟩) 0 c) 0 []) (hg : w.grownBy w1 none) :
    St w.heap.size w1 (.slice (some ⟨w.heap.size, 0, none⟩) 0 c) w1 (.slice (some ⟨w.heap.size, 0, none⟩) 0 c) (escape []) :=
  St.start (xs := escape []) h hg.size
theorem own_blk {w : World} {c : Nat} : ∀ k, (Value.slice (some ⟨w.heap.size, 0, none⟩) 0 c).ownBlock = some k → w.heap.size ≤ k := by
  intro k hk
  simp [Value.ownBlock] at hk
  omega

set_option maxHeartbeats 1600000 in
set_option maxRecDepth 100000 in
theorem esc25_pos (b off c : Nat) (xs : List Int) (w : World) (hl : xs.length ≤ 4194304) (hb : b < w.heap.size) (hR : ∀ i (h : i < xs.length), w.cell? ⟨b, off + i, none⟩ = some (.int .u8 xs[i])) :
    Calls Trym.prog 25 #[.slice (some ⟨b, off, none⟩) xs.length c] w fun e w' => ∃ v, e = .returned v ∧ Own w.heap.size w' v (escape xs) ∧ Below w.heap.size w w' := by
  obtain ⟨i0, hi, hz0, hz1, hz2⟩ := info_parts info5
  have HR : Hid _ := hid hR
  clear hR
  go_enter Trym.func25, Trym.ntmps25
  go_wp2_with (at_make; refine wpList_make_own _ rfl _ _ 31 rfl w.heap.size 5 i0 (.int .u8 0) 1 Trym.underlying31 hi hz0 hz1 .i64 .i64 _ (2 * xs.length) rfl rfl (by omega) (by rw [hz2]; omega) (by simp [maxLen]; omega) (Nat.le_refl _) ?_; intro w1 how hgr; have HS0 := hid (own_start how hgr); have HB1 := hid (below_none hgr); clear how hgr)
  go_loopw [3, 4] (fun s3 s4 wr => ∃ k : Nat, k ≤ xs.length ∧ s4 = .int .i64 k ∧ Hid (St w.heap.size w1 (.slice (some ⟨w.heap.size, 0, none⟩) 0 (2 * xs.length)) wr s3 (escape (xs.take k)))) (fun _ i _ => xs.length - (intOf i).toNat)
  case atStart => exact ⟨0, Nat.zero_le _, rfl, HS0⟩
  case round =>
    clear HS0
    obtain ⟨k, hk, rfl, HS⟩ := hrel
    have HB2 : Hid (Below w.heap.size w wr) := hid (HB1.out.trans (HS.out.below own_blk))
    by_cases hlt : k < xs.length
    · have hcell : wr.cell? ⟨b, off + k, none⟩ = some (.int .u8 xs[k]) := (HB2.out.cell (p := ⟨b, off + k, none⟩) hb).trans (HR.out k hlt)
      have hown : Hid _ := hid HS.out.own
      have HM1 := esc_room HS.out hl 1 (by omega)
      have HM2 := esc_room HS.out hl 2 (by omega)
      by_cases h0 : xs[k] = 0
      · have HD : Hid _ := hid h0
        rw [h0] at hcell
        clear h0
        go_wp2_with (at_builtin; refine wpList_append_own_at _ rfl (.tmp 27) (.tmp 28) 31 rfl w.heap.size 5 i0 (.int .u8 0) 1 1 Trym.underlying31 hi hz0 hz1 hz2 rfl (by decide) _ _ _ rfl (hown.out.alloc _) ⟨wr.heap.size, 0, none⟩ 2 2 (V [92, 48]) rfl rfl (two_new _ _ _) (V_one _) HM2.out.1 HM2.out.2.1 (HM2.out.2.2 _) ?_; intro v2 w2 hown2 hgrow2 hnil2 hat2; have HO2 := hid hown2; have HG2 := hid hgrow2; have HT2 := hid hat2; clear hown2 hgrow2 hnil2 hat2)
        go_roundw
        case rel => exact ⟨k + 1, by omega, by go_num, hid (esc_step HS.out hlt HD.out (by simp [es]) HO2.out (by simp) HG2.out HT2.out)⟩
        case measure => simp [intOf]; omega
      by_cases h8 : xs[k] = 8
      · have HD : Hid _ := hid h8
        rw [h8] at hcell
        clear h8
        go_wp2_with (at_builtin; refine wpList_append_own_at _ rfl (.tmp 32) (.tmp 33) 31 rfl w.heap.size 5 i0 (.int .u8 0) 1 1 Trym.underlying31 hi hz0 hz1 hz2 rfl (by decide) _ _ _ rfl (hown.out.alloc _) ⟨wr.heap.size, 0, none⟩ 2 2 (V [92, 98]) rfl rfl (two_new _ _ _) (V_one _) HM2.out.1 HM2.out.2.1 (HM2.out.2.2 _) ?_; intro v2 w2 hown2 hgrow2 hnil2 hat2; have HO2 := hid hown2; have HG2 := hid hgrow2; have HT2 := hid hat2; clear hown2 hgrow2 hnil2 hat2)
        go_roundw
        case rel => exact ⟨k + 1, by omega, by go_num, hid (esc_step HS.out hlt HD.out (by simp [es]) HO2.out (by simp) HG2.out HT2.out)⟩
        case measure => simp [intOf]; omega
      by_cases h10 : xs[k] = 10
      · have HD : Hid _ := hid h10
        rw [h10] at hcell
        clear h10
        go_wp2_with (at_builtin; refine wpList_append_own_at _ rfl (.tmp 37) (.tmp 38) 31 rfl w.heap.size 5 i0 (.int .u8 0) 1 1 Trym.underlying31 hi hz0 hz1 hz2 rfl (by decide) _ _ _ rfl (hown.out.alloc _) ⟨wr.heap.size, 0, none⟩ 2 2 (V [92, 110]) rfl rfl (two_new _ _ _) (V_one _) HM2.out.1 HM2.out.2.1 (HM2.out.2.2 _) ?_; intro v2 w2 hown2 hgrow2 hnil2 hat2; have HO2 := hid hown2; have HG2 := hid hgrow2; have HT2 := hid hat2; clear hown2 hgrow2 hnil2 hat2)
        go_roundw
        case rel => exact ⟨k + 1, by omega, by go_num, hid (esc_step HS.out hlt HD.out (by simp [es]) HO2.out (by simp) HG2.out HT2.out)⟩
        case measure => simp [intOf]; omega
      by_cases h13 : xs[k] = 13
      · have HD : Hid _ := hid h13
        rw [h13] at hcell
        clear h13
        go_wp2_with (at_builtin; refine wpList_append_own_at _ rfl (.tmp 42) (.tmp 43) 31 rfl w.heap.size 5 i0 (.int .u8 0) 1 1 Trym.underlying31 hi hz0 hz1 hz2 rfl (by decide) _ _ _ rfl (hown.out.alloc _) ⟨wr.heap.size, 0, none⟩ 2 2 (V [92, 114]) rfl rfl (two_new _ _ _) (V_one _) HM2.out.1 HM2.out.2.1 (HM2.out.2.2 _) ?_; intro v2 w2 hown2 hgrow2 hnil2 hat2; have HO2 := hid hown2; have HG2 := hid hgrow2; have HT2 := hid hat2; clear hown2 hgrow2 hnil2 hat2)
        go_roundw
        case rel => exact ⟨k + 1, by omega, by go_num, hid (esc_step HS.out hlt HD.out (by simp [es]) HO2.out (by simp) HG2.out HT2.out)⟩
        case measure => simp [intOf]; omega
      by_cases h9 : xs[k] = 9
      · have HD : Hid _ := hid h9
        rw [h9] at hcell
        clear h9
        go_wp2_with (at_builtin; refine wpList_append_own_at _ rfl (.tmp 47) (.tmp 48) 31 rfl w.heap.size 5 i0 (.int .u8 0) 1 1 Trym.underlying31 hi hz0 hz1 hz2 rfl (by decide) _ _ _ rfl (hown.out.alloc _) ⟨wr.heap.size, 0, none⟩ 2 2 (V [92, 116]) rfl rfl (two_new _ _ _) (V_one _) HM2.out.1 HM2.out.2.1 (HM2.out.2.2 _) ?_; intro v2 w2 hown2 hgrow2 hnil2 hat2; have HO2 := hid hown2; have HG2 := hid hgrow2; have HT2 := hid hat2; clear hown2 hgrow2 hnil2 hat2)
        go_roundw
        case rel => exact ⟨k + 1, by omega, by go_num, hid (esc_step HS.out hlt HD.out (by simp [es]) HO2.out (by simp) HG2.out HT2.out)⟩
        case measure => simp [intOf]; omega
      by_cases h26 : xs[k] = 26
      · have HD : Hid _ := hid h26
        rw [h26] at hcell
        clear h26
        go_wp2_with (at_builtin; refine wpList_append_own_at _ rfl (.tmp 52) (.tmp 53) 31 rfl w.heap.size 5 i0 (.int .u8 0) 1 1 Trym.underlying31 hi hz0 hz1 hz2 rfl (by decide) _ _ _ rfl (hown.out.alloc _) ⟨wr.heap.size, 0, none⟩ 2 2 (V [92, 90]) rfl rfl (two_new _ _ _) (V_one _) HM2.out.1 HM2.out.2.1 (HM2.out.2.2 _) ?_; intro v2 w2 hown2 hgrow2 hnil2 hat2; have HO2 := hid hown2; have HG2 := hid hgrow2; have HT2 := hid hat2; clear hown2 hgrow2 hnil2 hat2)
        go_roundw
        case rel => exact ⟨k + 1, by omega, by go_num, hid (esc_step HS.out hlt HD.out (by simp [es]) HO2.out (by simp) HG2.out HT2.out)⟩
        case measure => simp [intOf]; omega
      by_cases h92 : xs[k] = 92
      · have HD : Hid _ := hid h92
        rw [h92] at hcell
        clear h92
        go_wp2_with (at_builtin; refine wpList_append_own_at _ rfl (.tmp 59) (.tmp 61) 31 rfl w.heap.size 5 i0 (.int .u8 0) 1 1 Trym.underlying31 hi hz0 hz1 hz2 rfl (by decide) _ _ _ rfl (hown.out.alloc _) ⟨wr.heap.size, 0, none⟩ 2 2 (V [92, 92]) rfl rfl (two_new _ _ _) (V_one _) HM2.out.1 HM2.out.2.1 (HM2.out.2.2 _) ?_; intro v2 w2 hown2 hgrow2 hnil2 hat2; have HO2 := hid hown2; have HG2 := hid hgrow2; have HT2 := hid hat2; clear hown2 hgrow2 hnil2 hat2)
        go_roundw
        case rel => exact ⟨k + 1, by omega, by go_num, hid (esc_step HS.out hlt HD.out (by simp [es]) HO2.out (by simp) HG2.out HT2.out)⟩
        case measure => simp [intOf]; omega
      by_cases h39 : xs[k] = 39
      · have HD : Hid _ := hid h39
        rw [h39] at hcell
        clear h39
        go_wp2_with (at_builtin; refine wpList_append_own_at _ rfl (.tmp 59) (.tmp 61) 31 rfl w.heap.size 5 i0 (.int .u8 0) 1 1 Trym.underlying31 hi hz0 hz1 hz2 rfl (by decide) _ _ _ rfl (hown.out.alloc _) ⟨wr.heap.size, 0, none⟩ 2 2 (V [92, 39]) rfl rfl (two_new _ _ _) (V_one _) HM2.out.1 HM2.out.2.1 (HM2.out.2.2 _) ?_; intro v2 w2 hown2 hgrow2 hnil2 hat2; have HO2 := hid hown2; have HG2 := hid hgrow2; have HT2 := hid hat2; clear hown2 hgrow2 hnil2 hat2)
        go_roundw
        case rel => exact ⟨k + 1, by omega, by go_num, hid (esc_step HS.out hlt HD.out (by simp [es]) HO2.out (by simp) HG2.out HT2.out)⟩
        case measure => simp [intOf]; omega
      by_cases h34 : xs[k] = 34
      · have HD : Hid _ := hid h34
        rw [h34] at hcell
        clear h34
        go_wp2_with (at_builtin; refine wpList_append_own_at _ rfl (.tmp 59) (.tmp 61) 31 rfl w.heap.size 5 i0 (.int .u8 0) 1 1 Trym.underlying31 hi hz0 hz1 hz2 rfl (by decide) _ _ _ rfl (hown.out.alloc _) ⟨wr.heap.size, 0, none⟩ 2 2 (V [92, 34]) rfl rfl (two_new _ _ _) (V_one _) HM2.out.1 HM2.out.2.1 (HM2.out.2.2 _) ?_; intro v2 w2 hown2 hgrow2 hnil2 hat2; have HO2 := hid hown2; have HG2 := hid hgrow2; have HT2 := hid hat2; clear hown2 hgrow2 hnil2 hat2)
        go_roundw
        case rel => exact ⟨k + 1, by omega, by go_num, hid (esc_step HS.out hlt HD.out (by simp [es]) HO2.out (by simp) HG2.out HT2.out)⟩
        case measure => simp [intOf]; omega
      have HW : Hid (es xs[k] = [xs[k]]) := hid (by simp [es, h0, h8, h10, h13, h9, h26, h92, h39, h34])
      obtain ⟨d, hd⟩ : ∃ d, xs[k] = d := ⟨_, rfl⟩
      rw [hd] at hcell HW h0 h8 h10 h13 h9 h26 h92 h39 h34
      have HD : Hid _ := hid hd
      clear hd
      go_wp2_with (at_builtin; refine wpList_append_own_at _ rfl (.tmp 21) (.tmp 23) 31 rfl w.heap.size 5 i0 (.int .u8 0) 1 1 Trym.underlying31 hi hz0 hz1 hz2 rfl (by decide) _ _ _ rfl (hown.out.alloc _) ⟨wr.heap.size, 0, none⟩ 1 1 (V [d]) rfl rfl (one_new _ _) (V_one _) HM1.out.1 HM1.out.2.1 (HM1.out.2.2 _) ?_; intro v2 w2 hown2 hgrow2 hnil2 hat2; have HO2 := hid hown2; have HG2 := hid hgrow2; have HT2 := hid hat2; clear hown2 hgrow2 hnil2 hat2)
      go_roundw
      case rel => exact ⟨k + 1, by omega, by go_num, hid (esc_step HS.out hlt HD.out HW.out HO2.out (by simp) HG2.out HT2.out)⟩
      case measure => simp [intOf]; omega
    · have HE : Hid (escape (xs.take k) = escape xs) := hid (by rw [List.take_of_length_le (by omega)])
      go_wp2
      go_ret
      exact ⟨_, rfl, by rw [← HE.out]; exact HS.out.own, HB2.out⟩

theorem esc25_nil (a : Option Addr) (c : Nat) (w : World) :
    Calls Trym.prog 25 #[.slice a 0 c] w fun e w' => ∃ v, e = .returned v ∧ Own w.heap.size w' v (escape []) ∧ Below w.heap.size w w' := by
  obtain ⟨i0, hi, hz0, hz1, hz2⟩ := info_parts info5
  go_enter Trym.func25, Trym.ntmps25
  go_wp2_with (at_make; refine wpList_make_own _ rfl _ _ 31 rfl w.heap.size 5 i0 (.int .u8 0) 1 Trym.underlying31 hi hz0 hz1 .i64 .i64 _ 0 rfl rfl (by omega) (by omega) (by simp [maxLen]) (Nat.le_refl _) ?_; intro w1 how hgr; have HS0 := hid (own_start how hgr); have HB1 := hid (below_none hgr); clear how hgr)
  go_loopw [3, 4] (fun s3 s4 wr => s3 = .slice (some ⟨w.heap.size, 0, none⟩) 0 0 ∧ s4 = .int .i64 0 ∧ w1 = wr) (fun _ _ _ => 0)
  case atStart => exact ⟨rfl, rfl, rfl⟩
  case round =>
    obtain ⟨rfl, rfl, rfl⟩ := hrel
    go_wp2
    go_ret
    exact ⟨_, rfl, HS0.out.own, HB1.out⟩

/-- zzEscape. -/
theorem esc25 (B : Nat) (v : Value) (xs : List Int) (w : World) (hl : xs.length ≤ 4194304) (hO : Own B w v xs) :
    Calls Trym.prog 25 #[v] w fun e w' => ∃ v, e = .returned v ∧ Own w.heap.size w' v (escape xs) ∧ Below w.heap.size w w' := by
  obtain ⟨a, c, rfl, _, _, hR, _⟩ := hO.form
  rcases Nat.eq_zero_or_pos xs.length with h0 | h0
  · obtain rfl : xs = [] := List.eq_nil_of_length_eq_zero h0
    exact esc25_nil a c w
  · obtain ⟨b, off, rfl, hc⟩ := hR h0
    exact esc25_pos b off c xs w hl (World.block_lt_of_cell? w _ (hc 0 h0)) hc
end Go.Proofs.Qxb6000712aMods.App
