/-
  THE WALK OF appendUnescaped (35) AND ZZappendUnescaped (24): onto a slice that the caller owns, from a text that lies elsewhere.
-/
import Derived.Test.Qxb6000712aModsAppBase
namespace Go.Proofs.Qxb6000712aMods.App
open Go.RowKit

/-- WHAT HOLDS AT THE LOOP's HEAD: the text's first k bytes are undone into 'out'. -/
structure Un (B : Nat) (w : World) (v : Value) (xs : List Int) (esc : Bool) (ys : List Int) (wr : World) (v' : Value) (k : Nat) (out : List Int) : Prop where
  st : St B w v wr v' (xs ++ out)
  law : unesc esc ys = out ++ unesc esc (ys.drop k)
  len : out.length ≤ k

theorem Un.one {B : Nat} {w wr w1 : World} {v v' v2 : Value} {xs ys out : List Int} {esc : Bool} {k n : Nat} {o : Obj} {x : Int} (h : Un B w v xs esc ys wr v' k out) (hk : k < ys.length) (hx : ys[k] = x) (hc : ys[k] ≠ 92 ∨ esc = false ∨ k + 1 = ys.length)
    (hown : w1.ownsRow B 5 1 v2 n (V (xs ++ out) ++ V [x])) (hn : n = xs.length + out.length + 1) (hgrow : (wr.alloc o).grownBy w1 v'.ownBlock) (hat : v2.ownBlock = v'.ownBlock ∨ v2.ownBlock = some (wr.alloc o).heap.size) :
    Un B w v xs esc ys w1 v2 (k + 1) (out ++ [x]) := by
  have L := at_one h.law hk hc
  rw [hx] at L
  refine ⟨?_, L, by have := h.len; simp; omega⟩
  rw [← List.append_assoc]
  exact h.st.append hown hgrow hat (by rw [hn]; simp) rfl
theorem Un.two {B : Nat} {w wr w1 : World} {v v' v2 : Value} {xs ys out news : List Int} {k n : Nat} {o : Obj} {d : Int} (h : Un B w v xs true ys wr v' k out) (hk : k + 1 < ys.length) (hx : ys[k] = 92) (hd : ys[k + 1] = d) (hum : um d = news)
    (hown : w1.ownsRow B 5 1 v2 n (V (xs ++ out) ++ V news)) (hn : n = xs.length + out.length + news.length) (hgrow : (wr.alloc o).grownBy w1 v'.ownBlock) (hat : v2.ownBlock = v'.ownBlock ∨ v2.ownBlock = some (wr.alloc o).heap.size) :
    Un B w v xs true ys w1 v2 (k + 2) (out ++ news) := by
  have L := at_pair h.law hk hx
  rw [hd, hum] at L
  refine ⟨?_, L, by have := h.len; have := (um_len d).2; rw [hum] at this; simp; omega⟩
  rw [← List.append_assoc]
  exact h.st.append hown hgrow hat (by rw [hn]; simp) rfl
/-- There is room in a Go slice for two bytes more; and the call's own blocks begin below the heap's end. -/
theorem Un.room {B : Nat} {w wr : World} {v v' : Value} {xs ys out : List Int} {esc : Bool} {k : Nat} (h : Un B w v xs esc ys wr v' k out) (hk : k < ys.length) (hl : xs.length + ys.length ≤ 16777216) (m : Nat) (hm : m ≤ 2) :
    Hid ((xs ++ out).length + m ≤ maxLen ∧ ((xs ++ out).length + m) * 1 ≤ 140737488355328 ∧ ∀ o, B ≤ (wr.alloc o).heap.size) := by
  have h1 := h.len
  have h2 := h.st.base
  have h3 := h.st.grown.size
  refine hid ⟨by simp [maxLen]; omega, by simp; omega, fun o => by simp; omega⟩

set_option maxHeartbeats 1600000 in
set_option maxRecDepth 100000 in
theorem un35_pos (B : Nat) (v : Value) (xs : List Int) (esc : Bool) (b off c : Nat) (ys : List Int) (w : World) (hl : xs.length + ys.length ≤ 16777216) (hO : Own B w v xs) (hB : B ≤ w.heap.size)
    (hne : some b ≠ v.ownBlock) (hR : ∀ i (h : i < ys.length), w.cell? ⟨b, off + i, none⟩ = some (.int .u8 ys[i])) :
    Calls Trym.prog 35 #[v, .slice (some ⟨b, off, none⟩) ys.length c, .bool esc] w fun e w' => ∃ v', e = .returned v' ∧ St B w v w' v' (xs ++ unesc esc ys) := by
  obtain ⟨i0, hi, hz0, hz1, hz2⟩ := info_parts info5
  have HR : Hid _ := hid hR
  have HO : Hid _ := hid hO
  have HN : Hid _ := hid hne
  clear hR hO hne
  go_enter Trym.func35, Trym.ntmps35
  go_wp2
  go_loopw [0, 7] (fun s0 s7 wr => ∃ (k : Nat) (out : List Int), k ≤ ys.length ∧ s7 = .int .i64 k ∧ Hid (Un B w v xs esc ys wr s0 k out)) (fun _ i _ => ys.length - (intOf i).toNat)
  case atStart => exact ⟨0, [], Nat.zero_le _, rfl, hid ⟨by rw [List.append_nil]; exact St.start HO.out hB, by simp, by simp⟩⟩
  case round =>
    obtain ⟨k, out, hk, rfl, HU⟩ := hrel
    by_cases hlt : k < ys.length
    · have hcell : wr.cell? ⟨b, off + k, none⟩ = some (.int .u8 ys[k]) := HU.out.st.grown.cell (HR.out k hlt) HN.out
      have hown : Hid _ := hid HU.out.st.own
      have HM1 := HU.out.room hlt hl 1 (by omega)
      have HM2 := HU.out.room hlt hl 2 (by omega)
      by_cases hA : ys[k] = 92
      · have HA : Hid _ := hid hA
        rw [hA] at hcell
        clear hA
        cases esc with
        | false =>
          go_wp2_with (at_builtin; refine wpList_append_own_at _ rfl (.tmp 32) (.tmp 34) 31 rfl B 5 i0 (.int .u8 0) 1 1 Trym.underlying31 hi hz0 hz1 hz2 rfl (by decide) _ _ _ rfl (hown.out.alloc _) ⟨wr.heap.size, 0, none⟩ 1 1 (V [92]) rfl rfl (one_new _ _) (V_one _) HM1.out.1 HM1.out.2.1 (HM1.out.2.2 _) ?_; intro v2 w1 hown2 hgrow2 hnil2 hat2; have HO2 := hid hown2; have HG2 := hid hgrow2; have HT2 := hid hat2; clear hown2 hgrow2 hnil2 hat2)
          go_roundw
          case rel => exact ⟨k + 1, _, by omega, by go_num, hid (Un.one HU.out hlt HA.out (.inr (.inl rfl)) HO2.out (by simp) HG2.out HT2.out)⟩
          case measure => simp [intOf]; omega
        | true =>
          by_cases hk1 : k + 1 < ys.length
          · have hcell1 : wr.cell? ⟨b, off + (k + 1), none⟩ = some (.int .u8 ys[k + 1]) := HU.out.st.grown.cell (HR.out (k + 1) hk1) HN.out
            by_cases h48 : ys[k + 1] = 48
            · have HD : Hid _ := hid h48
              rw [h48] at hcell1
              clear h48
              go_wp2_with (at_builtin; refine wpList_append_own_at _ rfl (.tmp 49) (.tmp 50) 31 rfl B 5 i0 (.int .u8 0) 1 1 Trym.underlying31 hi hz0 hz1 hz2 rfl (by decide) _ _ _ rfl (hown.out.alloc _) ⟨wr.heap.size, 0, none⟩ 1 1 (V [0]) rfl rfl (one_new _ _) (V_one _) HM1.out.1 HM1.out.2.1 (HM1.out.2.2 _) ?_; intro v2 w1 hown2 hgrow2 hnil2 hat2; have HO2 := hid hown2; have HG2 := hid hgrow2; have HT2 := hid hat2; clear hown2 hgrow2 hnil2 hat2)
              go_roundw
              case rel => exact ⟨k + 2, _, by omega, by go_num, hid (Un.two HU.out hk1 HA.out HD.out (by simp [um]) HO2.out (by simp) HG2.out HT2.out)⟩
              case measure => simp [intOf]; omega
            by_cases h98 : ys[k + 1] = 98
            · have HD : Hid _ := hid h98
              rw [h98] at hcell1
              clear h98
              go_wp2_with (at_builtin; refine wpList_append_own_at _ rfl (.tmp 54) (.tmp 55) 31 rfl B 5 i0 (.int .u8 0) 1 1 Trym.underlying31 hi hz0 hz1 hz2 rfl (by decide) _ _ _ rfl (hown.out.alloc _) ⟨wr.heap.size, 0, none⟩ 1 1 (V [8]) rfl rfl (one_new _ _) (V_one _) HM1.out.1 HM1.out.2.1 (HM1.out.2.2 _) ?_; intro v2 w1 hown2 hgrow2 hnil2 hat2; have HO2 := hid hown2; have HG2 := hid hgrow2; have HT2 := hid hat2; clear hown2 hgrow2 hnil2 hat2)
              go_roundw
              case rel => exact ⟨k + 2, _, by omega, by go_num, hid (Un.two HU.out hk1 HA.out HD.out (by simp [um]) HO2.out (by simp) HG2.out HT2.out)⟩
              case measure => simp [intOf]; omega
            by_cases h110 : ys[k + 1] = 110
            · have HD : Hid _ := hid h110
              rw [h110] at hcell1
              clear h110
              go_wp2_with (at_builtin; refine wpList_append_own_at _ rfl (.tmp 59) (.tmp 60) 31 rfl B 5 i0 (.int .u8 0) 1 1 Trym.underlying31 hi hz0 hz1 hz2 rfl (by decide) _ _ _ rfl (hown.out.alloc _) ⟨wr.heap.size, 0, none⟩ 1 1 (V [10]) rfl rfl (one_new _ _) (V_one _) HM1.out.1 HM1.out.2.1 (HM1.out.2.2 _) ?_; intro v2 w1 hown2 hgrow2 hnil2 hat2; have HO2 := hid hown2; have HG2 := hid hgrow2; have HT2 := hid hat2; clear hown2 hgrow2 hnil2 hat2)
              go_roundw
              case rel => exact ⟨k + 2, _, by omega, by go_num, hid (Un.two HU.out hk1 HA.out HD.out (by simp [um]) HO2.out (by simp) HG2.out HT2.out)⟩
              case measure => simp [intOf]; omega
            by_cases h114 : ys[k + 1] = 114
            · have HD : Hid _ := hid h114
              rw [h114] at hcell1
              clear h114
              go_wp2_with (at_builtin; refine wpList_append_own_at _ rfl (.tmp 64) (.tmp 65) 31 rfl B 5 i0 (.int .u8 0) 1 1 Trym.underlying31 hi hz0 hz1 hz2 rfl (by decide) _ _ _ rfl (hown.out.alloc _) ⟨wr.heap.size, 0, none⟩ 1 1 (V [13]) rfl rfl (one_new _ _) (V_one _) HM1.out.1 HM1.out.2.1 (HM1.out.2.2 _) ?_; intro v2 w1 hown2 hgrow2 hnil2 hat2; have HO2 := hid hown2; have HG2 := hid hgrow2; have HT2 := hid hat2; clear hown2 hgrow2 hnil2 hat2)
              go_roundw
              case rel => exact ⟨k + 2, _, by omega, by go_num, hid (Un.two HU.out hk1 HA.out HD.out (by simp [um]) HO2.out (by simp) HG2.out HT2.out)⟩
              case measure => simp [intOf]; omega
            by_cases h116 : ys[k + 1] = 116
            · have HD : Hid _ := hid h116
              rw [h116] at hcell1
              clear h116
              go_wp2_with (at_builtin; refine wpList_append_own_at _ rfl (.tmp 69) (.tmp 70) 31 rfl B 5 i0 (.int .u8 0) 1 1 Trym.underlying31 hi hz0 hz1 hz2 rfl (by decide) _ _ _ rfl (hown.out.alloc _) ⟨wr.heap.size, 0, none⟩ 1 1 (V [9]) rfl rfl (one_new _ _) (V_one _) HM1.out.1 HM1.out.2.1 (HM1.out.2.2 _) ?_; intro v2 w1 hown2 hgrow2 hnil2 hat2; have HO2 := hid hown2; have HG2 := hid hgrow2; have HT2 := hid hat2; clear hown2 hgrow2 hnil2 hat2)
              go_roundw
              case rel => exact ⟨k + 2, _, by omega, by go_num, hid (Un.two HU.out hk1 HA.out HD.out (by simp [um]) HO2.out (by simp) HG2.out HT2.out)⟩
              case measure => simp [intOf]; omega
            by_cases h90 : ys[k + 1] = 90
            · have HD : Hid _ := hid h90
              rw [h90] at hcell1
              clear h90
              go_wp2_with (at_builtin; refine wpList_append_own_at _ rfl (.tmp 74) (.tmp 75) 31 rfl B 5 i0 (.int .u8 0) 1 1 Trym.underlying31 hi hz0 hz1 hz2 rfl (by decide) _ _ _ rfl (hown.out.alloc _) ⟨wr.heap.size, 0, none⟩ 1 1 (V [26]) rfl rfl (one_new _ _) (V_one _) HM1.out.1 HM1.out.2.1 (HM1.out.2.2 _) ?_; intro v2 w1 hown2 hgrow2 hnil2 hat2; have HO2 := hid hown2; have HG2 := hid hgrow2; have HT2 := hid hat2; clear hown2 hgrow2 hnil2 hat2)
              go_roundw
              case rel => exact ⟨k + 2, _, by omega, by go_num, hid (Un.two HU.out hk1 HA.out HD.out (by simp [um]) HO2.out (by simp) HG2.out HT2.out)⟩
              case measure => simp [intOf]; omega
            by_cases h37 : ys[k + 1] = 37
            · have HD : Hid _ := hid h37
              rw [h37] at hcell1
              clear h37
              go_wp2_with (at_builtin; refine wpList_append_own_at _ rfl (.tmp 80) (.tmp 82) 31 rfl B 5 i0 (.int .u8 0) 1 1 Trym.underlying31 hi hz0 hz1 hz2 rfl (by decide) _ _ _ rfl (hown.out.alloc _) ⟨wr.heap.size, 0, none⟩ 2 2 (V [92, 37]) rfl rfl (two_new _ _ _) (V_one _) HM2.out.1 HM2.out.2.1 (HM2.out.2.2 _) ?_; intro v2 w1 hown2 hgrow2 hnil2 hat2; have HO2 := hid hown2; have HG2 := hid hgrow2; have HT2 := hid hat2; clear hown2 hgrow2 hnil2 hat2)
              go_roundw
              case rel => exact ⟨k + 2, _, by omega, by go_num, hid (Un.two HU.out hk1 HA.out HD.out (by simp [um]) HO2.out (by simp) HG2.out HT2.out)⟩
              case measure => simp [intOf]; omega
            by_cases h95 : ys[k + 1] = 95
            · have HD : Hid _ := hid h95
              rw [h95] at hcell1
              clear h95
              go_wp2_with (at_builtin; refine wpList_append_own_at _ rfl (.tmp 80) (.tmp 82) 31 rfl B 5 i0 (.int .u8 0) 1 1 Trym.underlying31 hi hz0 hz1 hz2 rfl (by decide) _ _ _ rfl (hown.out.alloc _) ⟨wr.heap.size, 0, none⟩ 2 2 (V [92, 95]) rfl rfl (two_new _ _ _) (V_one _) HM2.out.1 HM2.out.2.1 (HM2.out.2.2 _) ?_; intro v2 w1 hown2 hgrow2 hnil2 hat2; have HO2 := hid hown2; have HG2 := hid hgrow2; have HT2 := hid hat2; clear hown2 hgrow2 hnil2 hat2)
              go_roundw
              case rel => exact ⟨k + 2, _, by omega, by go_num, hid (Un.two HU.out hk1 HA.out HD.out (by simp [um]) HO2.out (by simp) HG2.out HT2.out)⟩
              case measure => simp [intOf]; omega
            have HW : Hid (um ys[k + 1] = [ys[k + 1]]) := hid (by simp [um, h48, h98, h110, h114, h116, h90, h37, h95])
            obtain ⟨d, hd⟩ : ∃ d, ys[k + 1] = d := ⟨_, rfl⟩
            rw [hd] at hcell1 HW h48 h98 h110 h114 h116 h90 h37 h95
            have HD : Hid _ := hid hd
            clear hd
            go_wp2_with (at_builtin; refine wpList_append_own_at _ rfl (.tmp 43) (.tmp 45) 31 rfl B 5 i0 (.int .u8 0) 1 1 Trym.underlying31 hi hz0 hz1 hz2 rfl (by decide) _ _ _ rfl (hown.out.alloc _) ⟨wr.heap.size, 0, none⟩ 1 1 (V [d]) rfl rfl (one_new _ _) (V_one _) HM1.out.1 HM1.out.2.1 (HM1.out.2.2 _) ?_; intro v2 w1 hown2 hgrow2 hnil2 hat2; have HO2 := hid hown2; have HG2 := hid hgrow2; have HT2 := hid hat2; clear hown2 hgrow2 hnil2 hat2)
            go_roundw
            case rel => exact ⟨k + 2, _, by omega, by go_num, hid (Un.two HU.out hk1 HA.out HD.out HW.out HO2.out (by simp) HG2.out HT2.out)⟩
            case measure => simp [intOf]; omega
          · have HL : Hid (k + 1 = ys.length) := hid (by omega)
            go_wp2_with (at_builtin; refine wpList_append_own_at _ rfl (.tmp 32) (.tmp 34) 31 rfl B 5 i0 (.int .u8 0) 1 1 Trym.underlying31 hi hz0 hz1 hz2 rfl (by decide) _ _ _ rfl (hown.out.alloc _) ⟨wr.heap.size, 0, none⟩ 1 1 (V [92]) rfl rfl (one_new _ _) (V_one _) HM1.out.1 HM1.out.2.1 (HM1.out.2.2 _) ?_; intro v2 w1 hown2 hgrow2 hnil2 hat2; have HO2 := hid hown2; have HG2 := hid hgrow2; have HT2 := hid hat2; clear hown2 hgrow2 hnil2 hat2)
            go_roundw
            case rel => exact ⟨k + 1, _, by omega, by go_num, hid (Un.one HU.out hlt HA.out (.inr (.inr HL.out)) HO2.out (by simp) HG2.out HT2.out)⟩
            case measure => simp [intOf]; omega
      · obtain ⟨x, hx⟩ : ∃ x, ys[k] = x := ⟨_, rfl⟩
        have HX : Hid _ := hid hx
        have HA : Hid _ := hid hA
        rw [hx] at hcell hA
        clear hx
        go_wp2_with (at_builtin; refine wpList_append_own_at _ rfl (.tmp 32) (.tmp 34) 31 rfl B 5 i0 (.int .u8 0) 1 1 Trym.underlying31 hi hz0 hz1 hz2 rfl (by decide) _ _ _ rfl (hown.out.alloc _) ⟨wr.heap.size, 0, none⟩ 1 1 (V [x]) rfl rfl (one_new _ _) (V_one _) HM1.out.1 HM1.out.2.1 (HM1.out.2.2 _) ?_; intro v2 w1 hown2 hgrow2 hnil2 hat2; have HO2 := hid hown2; have HG2 := hid hgrow2; have HT2 := hid hat2; clear hown2 hgrow2 hnil2 hat2)
        go_roundw
        case rel => exact ⟨k + 1, _, by omega, by go_num, hid (Un.one HU.out hlt HX.out (.inl HA.out) HO2.out (by simp) HG2.out HT2.out)⟩
        case measure => simp [intOf]; omega
    · go_wp2
      go_ret
      exact ⟨_, rfl, by rw [at_end HU.out.law hlt]; exact HU.out.st⟩

theorem un35_nil (B : Nat) (v : Value) (xs : List Int) (esc : Bool) (a : Option Addr) (c : Nat) (w : World) (hO : Own B w v xs) (hB : B ≤ w.heap.size) :
    Calls Trym.prog 35 #[v, .slice a 0 c, .bool esc] w fun e w' => ∃ v', e = .returned v' ∧ St B w v w' v' (xs ++ unesc esc []) := by
  have HO : Hid _ := hid hO
  clear hO
  go_enter Trym.func35, Trym.ntmps35
  go_wp2
  go_loopw [0, 7] (fun s0 s7 wr => s0 = v ∧ s7 = .int .i64 0 ∧ wr = w) (fun _ _ _ => 0)
  case atStart => exact ⟨rfl, rfl, rfl⟩
  case round =>
    obtain ⟨rfl, rfl, rfl⟩ := hrel
    go_wp2
    go_ret
    exact ⟨_, rfl, by simp only [unesc, List.append_nil]; exact St.start HO.out hB⟩

/-- appendUnescaped. -/
theorem un35 (B : Nat) (v : Value) (xs : List Int) (esc : Bool) (a : Option Addr) (c : Nat) (ys : List Int) (w : World) (hl : xs.length + ys.length ≤ 16777216) (hO : Own B w v xs) (hB : B ≤ w.heap.size)
    (hne : ∀ x, a = some x → some x.block ≠ v.ownBlock) (hR : Rd w a ys) :
    Calls Trym.prog 35 #[v, .slice a ys.length c, .bool esc] w fun e w' => ∃ v', e = .returned v' ∧ St B w v w' v' (xs ++ unesc esc ys) := by
  rcases Nat.eq_zero_or_pos ys.length with h0 | h0
  · obtain rfl : ys = [] := List.eq_nil_of_length_eq_zero h0
    exact un35_nil B v xs esc a c w hO hB
  · obtain ⟨b, off, rfl, hc⟩ := hR h0
    exact un35_pos B v xs esc b off c ys w hl hO hB (hne _ rfl) hc

/-- ZZappendUnescaped. -/
theorem un24 (B : Nat) (v : Value) (xs : List Int) (esc : Bool) (a : Option Addr) (c : Nat) (ys : List Int) (w : World) (hl : xs.length + ys.length ≤ 16777216) (hO : Own B w v xs) (hB : B ≤ w.heap.size)
    (hne : ∀ x, a = some x → some x.block ≠ v.ownBlock) (hR : Rd w a ys) :
    Calls Trym.prog 24 #[v, .slice a ys.length c, .bool esc] w fun e w' => ∃ v', e = .returned v' ∧ St B w v w' v' (xs ++ unesc esc ys) := by
  have H := hid (un35 B v xs esc a c ys w hl hO hB hne hR)
  clear hO hne hR
  go_enter Trym.func24, Trym.ntmps24
  go_wp2_with (go_at_call 35; refine H.out.mono ?_; rintro e w' ⟨v', rfl, hS⟩)
  go_ret
  exact ⟨_, rfl, hS⟩
end Go.Proofs.Qxb6000712aMods.App
