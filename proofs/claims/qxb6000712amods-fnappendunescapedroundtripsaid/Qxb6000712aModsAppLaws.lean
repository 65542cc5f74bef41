/-
  THE WALKS OF THE TWO LAWS: FnAppendUnescapedBounds (11), FnAppendUnescapedRoundTrip (9), out of the contracts.
-/
import Derived.Test.Qxb6000712aModsAppRead
import Derived.Test.Qxb6000712aModsAppClone
import Derived.Test.Qxb6000712aModsAppUn
import Derived.Test.Qxb6000712aModsAppEsc
namespace Go.Proofs.Qxb6000712aMods.App
open Go.RowKit

/-- A SLICE THAT CAME IN: nil, or the bytes xs can be read at it. -/
def In (w : World) (a : Option Addr) (c : Nat) (xs : List Int) : Prop := (a = none ∧ c = 0 ∧ xs = []) ∨ ∃ x, a = some x ∧ Rd w a xs
theorem In.rd {w : World} {a : Option Addr} {c : Nat} {xs : List Int} (h : In w a c xs) : Rd w a xs := by
  rcases h with ⟨_, _, rfl⟩ | ⟨x, _, h⟩
  · intro h0; simp at h0
  · exact h
/-- Still there behind a call that writes nothing that was there. -/
theorem Rd.keeps {w w' : World} {a : Option Addr} {xs : List Int} (h : Rd w a xs) (hb : Below w.heap.size w w') : Rd w' a xs := by
  intro h0
  obtain ⟨b, off, ha, hc⟩ := h h0
  refine ⟨b, off, ha, fun i hi => ?_⟩
  rw [hb.cell (p := ⟨b, off + i, none⟩) (World.block_lt_of_cell? w _ (hc i hi))]
  exact hc i hi
theorem In.keeps {w w' : World} {a : Option Addr} {c : Nat} {xs : List Int} (h : In w a c xs) (hb : Below w.heap.size w w') : In w' a c xs := by
  rcases h with h | ⟨x, hx, h⟩
  · exact .inl h
  · exact .inr ⟨x, hx, h.keeps hb⟩

/-- zzClone of a slice that came in. -/
theorem cloneIn (a : Option Addr) (c : Nat) (xs : List Int) (w : World) (hl : xs.length ≤ 4194304) (h : In w a c xs) :
    Calls Trym.prog 22 #[.slice a xs.length c] w fun e w' => ∃ a' c', e = .returned (.slice a' xs.length c') ∧ Hid (Own w.heap.size w' (.slice a' xs.length c') xs ∧ Below w.heap.size w w') := by
  rcases h with ⟨rfl, rfl, rfl⟩ | ⟨x, rfl, h⟩
  · refine (clone22_nil w).mono ?_
    rintro e w' ⟨v, rfl, hO, hB⟩
    obtain ⟨a', c', rfl, _⟩ := hO.form
    exact ⟨a', c', rfl, hid ⟨hO, hB⟩⟩
  · refine (clone22 x c xs w hl h).mono ?_
    rintro e w' ⟨v, rfl, hO, hB⟩
    obtain ⟨a', c', rfl, _⟩ := hO.form
    exact ⟨a', c', rfl, hid ⟨hO, hB⟩⟩
/-- .. of one of the call's own. -/
theorem cloneOwn (B : Nat) (a : Option Addr) (c : Nat) (xs : List Int) (w : World) (hl : xs.length ≤ 4194304) (h : Own B w (.slice a xs.length c) xs) :
    Calls Trym.prog 22 #[.slice a xs.length c] w fun e w' => ∃ a' c', e = .returned (.slice a' xs.length c') ∧ Hid (Own w.heap.size w' (.slice a' xs.length c') xs ∧ Below w.heap.size w w') := by
  refine (clone22_own B _ xs w hl h).mono ?_
  rintro e w' ⟨v, rfl, hO, hB⟩
  obtain ⟨a', c', rfl, _⟩ := hO.form
  exact ⟨a', c', rfl, hid ⟨hO, hB⟩⟩
/-- zzConcat. -/
theorem concatOwn (B B' : Nat) (a b : Option Addr) (c d : Nat) (xs ys : List Int) (w : World) (hx : xs.length ≤ 4194304) (hy : ys.length ≤ 4194304) (hA : Own B w (.slice a xs.length c) xs) (hB : Own B' w (.slice b ys.length d) ys) :
    Calls Trym.prog 23 #[.slice a xs.length c, .slice b ys.length d] w fun e w' => ∃ a' c', e = .returned (.slice a' (xs.length + ys.length) c') ∧ Hid (Own w.heap.size w' (.slice a' (xs.length + ys.length) c') (xs ++ ys) ∧ Below w.heap.size w w') := by
  refine (concat23 B B' _ _ xs ys w hx hy hA hB).mono ?_
  rintro e w' ⟨v, rfl, hO, hBe⟩
  obtain ⟨a', c', rfl, _⟩ := hO.form
  rw [List.length_append] at hO ⊢
  exact ⟨a', c', rfl, hid ⟨hO, hBe⟩⟩
/-- zzEscape. -/
theorem escOwn (B : Nat) (a : Option Addr) (c : Nat) (xs : List Int) (w : World) (hl : xs.length ≤ 4194304) (hO : Own B w (.slice a xs.length c) xs) :
    Calls Trym.prog 25 #[.slice a xs.length c] w fun e w' => ∃ a' c', e = .returned (.slice a' (escape xs).length c') ∧ Hid (Own w.heap.size w' (.slice a' (escape xs).length c') (escape xs) ∧ Below w.heap.size w w') := by
  refine (esc25 B _ xs w hl hO).mono ?_
  rintro e w' ⟨v, rfl, hO, hBe⟩
  obtain ⟨a', c', rfl, _⟩ := hO.form
  exact ⟨a', c', rfl, hid ⟨hO, hBe⟩⟩
/-- ZZappendUnescaped, what is undone under a name. -/
theorem unOwn (B B' : Nat) (a b : Option Addr) (c d : Nat) (xs ys U : List Int) (esc : Bool) (w : World) (hl : xs.length + ys.length ≤ 16777216) (hU : Hid (unesc esc ys = U)) (hO : Own B w (.slice a xs.length c) xs) (hB : B ≤ w.heap.size)
    (hT : Own B' w (.slice b ys.length d) ys) (hne : ∀ x y, a = some x → b = some y → y.block ≠ x.block) :
    Calls Trym.prog 24 #[.slice a xs.length c, .slice b ys.length d, .bool esc] w fun e w' => ∃ a' c', e = .returned (.slice a' (xs.length + U.length) c') ∧ Hid (St B w (.slice a xs.length c) w' (.slice a' (xs.length + U.length) c') (xs ++ U)) := by
  obtain ⟨b', d', e', _, _, hR, _⟩ := hT.form
  simp only [Value.slice.injEq] at e'
  obtain ⟨rfl, _, rfl⟩ := e'
  refine (un24 B _ xs esc b d ys w hl hO hB (fun y hy => ?_) hR).mono ?_
  · cases a with
    | none => simp [Value.ownBlock]
    | some x => simp only [Value.ownBlock]; intro e; exact hne x y rfl hy (Option.some.inj e)
  · rintro e w' ⟨v', rfl, hS⟩
    rw [hU.out] at hS
    obtain ⟨a', c', rfl, _⟩ := hS.own.form
    rw [List.length_append] at hS ⊢
    exact ⟨a', c', rfl, hid hS⟩

theorem Own.keeps {B : Nat} {w w' : World} {v : Value} {xs : List Int} (h : Own B w v xs) (hb : Below w.heap.size w w') : Own B w' v xs := h.below hb (fun k hk => (h.block k hk).2)
/-- Two slices of the call's own, one made behind the other, lie apart. -/
theorem apart {B : Nat} {w w' : World} {a b : Option Addr} {n m c d : Nat} {xs ys : List Int} (hA : Own w.heap.size w' (.slice a n c) xs) (hB : Own B w (.slice b m d) ys) : ∀ x y, a = some x → b = some y → y.block ≠ x.block := by
  rintro x y rfl rfl e
  have h1 := (hA.block x.block rfl).1
  have h2 := (hB.block y.block rfl).2
  omega
theorem apart' {B : Nat} {w w' : World} {a b : Option Addr} {n m c d : Nat} {xs ys : List Int} (hA : Own w.heap.size w' (.slice a n c) xs) (hB : Own B w (.slice b m d) ys) : ∀ x y, b = some x → a = some y → y.block ≠ x.block :=
  fun x y hx hy e => apart hA hB y x hy hx e.symm
theorem Own.rd {B : Nat} {w : World} {a : Option Addr} {n c : Nat} {xs : List Int} (h : Own B w (.slice a n c) xs) : Rd w a xs := by
  obtain ⟨a', c', e', _, _, hR, _⟩ := h.form
  simp only [Value.slice.injEq] at e'
  obtain ⟨rfl, _, rfl⟩ := e'
  exact hR
theorem Own.shape {B : Nat} {w : World} {a : Option Addr} {n c : Nat} {xs : List Int} (h : Own B w (.slice a n c) xs) : n ≤ c ∧ c ≤ maxLen ∧ ((a = none ∧ c = 0) ∨ ∃ g, a = some ⟨g, 0, none⟩) := by
  obtain ⟨a', c', e', h1, h2, _, h3⟩ := h.form
  simp only [Value.slice.injEq] at e'
  obtain ⟨rfl, rfl, rfl⟩ := e'
  refine ⟨h1, h2, ?_⟩
  rcases h3 with h3 | ⟨g, h3, _⟩
  · exact .inl h3
  · exact .inr ⟨g, h3⟩
/-- The front of what is read .. -/
theorem Rd.front {w : World} {a : Option Addr} {xs ys : List Int} (h : Rd w a (xs ++ ys)) : Rd w a xs := by
  intro h0
  obtain ⟨b, off, ha, hc⟩ := h (by simp; omega)
  refine ⟨b, off, ha, fun i hi => ?_⟩
  have := hc i (by simp; omega)
  rw [List.getElem_append_left hi] at this
  exact this
/-- .. and the rest. -/
theorem Rd.back {w : World} {g : Nat} {xs ys : List Int} (h : Rd w (some ⟨g, 0, none⟩) (xs ++ ys)) : Rd w (some ⟨g, xs.length, none⟩) ys := by
  intro h0
  obtain ⟨b, off, ha, hc⟩ := h (by simp; omega)
  simp only [Option.some.injEq, Addr.mk.injEq, and_true] at ha
  obtain ⟨rfl, rfl⟩ := ha
  refine ⟨g, xs.length, rfl, fun i hi => ?_⟩
  have := hc (xs.length + i) (by simp; omega)
  rw [List.getElem_append_right (by omega)] at this
  simpa using this

/-- WHAT IS KNOWN BEHIND ZZappendUnescaped in the law on bounds. -/
theorem after11 {w w1 w2 w3 w4 : World} {a2 a3 a4 a5 : Option Addr} {n m c2 c3 c4 c5 : Nat} {xs ys U : List Int} (HA : Own w.heap.size w1 (.slice a2 xs.length c2) xs ∧ Below w.heap.size w w1) (HC : Own w1.heap.size w2 (.slice a3 ys.length c3) ys ∧ Below w1.heap.size w1 w2)
    (HD : Own w2.heap.size w3 (.slice a4 n c4) xs ∧ Below w2.heap.size w2 w3) (HE : St w2.heap.size w3 (.slice a4 n c4) w4 (.slice a5 m c5) (xs ++ U)) :
    Rd w4 a2 xs ∧ Rd w4 a3 ys ∧ Rd w4 a5 (xs ++ U) ∧ Below w.heap.size w w4 := by
  have hA2 := HA.1.keeps HC.2
  have hA3 := hA2.keeps HD.2
  have hC3 := HC.1.keeps HD.2
  have hb : Below w2.heap.size w3 w4 := HE.below (fun k hk => (HD.1.block k hk).1)
  refine ⟨(hA3.below hb (fun k hk => (hA2.block k hk).2)).rd, (hC3.below hb (fun k hk => (HC.1.block k hk).2)).rd, HE.own.rd, ?_⟩
  have s1 := HA.2.size
  have s2 := HC.2.size
  exact ((HA.2.trans (HC.2.mono s1)).trans (HD.2.mono (Nat.le_trans s1 s2))).trans (hb.mono (Nat.le_trans s1 s2))
theorem below_draws {B : Nat} {w w' : World} (h : Below B w w') (n : Nat) : Below B w (w'.drewN n) := below_drewN h n

set_option maxHeartbeats 1600000 in
set_option maxRecDepth 100000 in
/-- FnAppendUnescapedBounds, escapes on and a backslash in the text: no more is asked than the bounds and the front. -/
theorem law11_bs (a0 a1 : Option Addr) (c0 c1 : Nat) (xs ys : List Int) (w : World) (h0 : In w a0 c0 xs) (h1 : In w a1 c1 ys) (h : xs.length + ys.length ≤ 1048576) (hbs : hasB ys = true) :
    Calls Trym.prog 11 #[.slice a0 xs.length c0, .slice a1 ys.length c1, .bool true] w fun e w' => e = .returned (.bool true) ∧ Below w.heap.size w w' := by
  obtain ⟨U, hU⟩ : ∃ U, unesc true ys = U := ⟨_, rfl⟩
  have HU : Hid _ := hid hU
  have hlen := unesc_len true ys
  rw [hU] at hlen
  obtain ⟨l1, l2⟩ := hlen
  have hy0 : 0 < ys.length := by
    rcases Nat.eq_zero_or_pos ys.length with g | g
    · obtain rfl : ys = [] := List.eq_nil_of_length_eq_zero g
      simp [hasB] at hbs
    · exact g
  have H0 : Hid _ := hid h0
  have H1 : Hid _ := hid h1
  clear h0 h1 hU
  go_enter Trym.func11, Trym.ntmps11
  go_wp2_with (go_at_call 29; refine (bytes29_yes _ _ _ _ _ _ _ h _).mono ?_; rintro e w' ⟨rfl, rfl⟩)
  refine (cloneIn a0 c0 xs _ (by omega) H0.out).mono ?_
  rintro e w1 ⟨a2, c2, rfl, HA⟩
  go_wp2_with fail
  refine (cloneIn a1 c1 ys w1 (by omega) (H1.out.keeps HA.out.2)).mono ?_
  rintro e w2 ⟨a3, c3, rfl, HC⟩
  go_wp2_with fail
  refine (cloneOwn _ a2 c2 xs w2 (by omega) (HA.out.1.keeps HC.out.2)).mono ?_
  rintro e w3 ⟨a4, c4, rfl, HD⟩
  go_wp2_with fail
  refine (unOwn w2.heap.size _ a4 a3 c4 c3 xs ys U true w3 (by omega) HU HD.out.1 HD.out.2.size (HC.out.1.keeps HD.out.2) (apart HD.out.1 HC.out.1)).mono ?_
  rintro e w4 ⟨a5, c5, rfl, HE⟩
  obtain ⟨s1, s2, hs⟩ := HE.out.own.shape
  unfold maxLen at s2
  have HF := hid (after11 HA.out HC.out HD.out HE.out)
  rcases hs with ⟨rfl, rfl⟩ | ⟨g, rfl⟩
  · exfalso; omega
  · go_wp2_with fail
    refine (eq26 _ _ _ _ xs _ (by omega) HF.out.2.2.1.front HF.out.1).mono ?_
    rintro e w5 ⟨rfl, n5, rfl⟩
    go_wp2_with (go_at_call 30; refine (bs30 a3 c3 ys _ (by omega) (HF.out.2.1.drewN _)).mono ?_; rintro e w6 ⟨rfl, rfl⟩)
    go_ret
    exact ⟨rfl, below_draws HF.out.2.2.2 _⟩

set_option maxHeartbeats 1600000 in
set_option maxRecDepth 100000 in
/-- .. escapes off: the text itself is appended. -/
theorem law11_off (a0 a1 : Option Addr) (c0 c1 : Nat) (xs ys : List Int) (w : World) (h0 : In w a0 c0 xs) (h1 : In w a1 c1 ys) (h : xs.length + ys.length ≤ 1048576) :
    Calls Trym.prog 11 #[.slice a0 xs.length c0, .slice a1 ys.length c1, .bool false] w fun e w' => e = .returned (.bool true) ∧ Below w.heap.size w w' := by
  have HU : Hid (unesc false ys = ys) := hid (unesc_off ys)
  have H0 : Hid _ := hid h0
  have H1 : Hid _ := hid h1
  clear h0 h1
  go_enter Trym.func11, Trym.ntmps11
  go_wp2_with (go_at_call 29; refine (bytes29_yes _ _ _ _ _ _ _ h _).mono ?_; rintro e w' ⟨rfl, rfl⟩)
  refine (cloneIn a0 c0 xs _ (by omega) H0.out).mono ?_
  rintro e w1 ⟨a2, c2, rfl, HA⟩
  go_wp2_with fail
  refine (cloneIn a1 c1 ys w1 (by omega) (H1.out.keeps HA.out.2)).mono ?_
  rintro e w2 ⟨a3, c3, rfl, HC⟩
  go_wp2_with fail
  refine (cloneOwn _ a2 c2 xs w2 (by omega) (HA.out.1.keeps HC.out.2)).mono ?_
  rintro e w3 ⟨a4, c4, rfl, HD⟩
  go_wp2_with fail
  refine (unOwn w2.heap.size _ a4 a3 c4 c3 xs ys ys false w3 (by omega) HU HD.out.1 HD.out.2.size (HC.out.1.keeps HD.out.2) (apart HD.out.1 HC.out.1)).mono ?_
  rintro e w4 ⟨a5, c5, rfl, HE⟩
  obtain ⟨s1, s2, hs⟩ := HE.out.own.shape
  unfold maxLen at s2
  have HF := hid (after11 HA.out HC.out HD.out HE.out)
  rcases hs with ⟨rfl, rfl⟩ | ⟨g, rfl⟩
  · go_wp2_with fail
    refine (eq26 _ _ _ _ xs _ (by omega) HF.out.2.2.1.front HF.out.1).mono ?_
    rintro e w5 ⟨rfl, n5, rfl⟩
    go_wp2_with fail
    refine (eq26 _ _ _ _ ys _ (by omega) (fun h0 => by exfalso; omega) (HF.out.2.1.drewN _)).mono ?_
    rintro e w6 ⟨rfl, n6, rfl⟩
    go_wp2
    go_ret
    exact ⟨rfl, below_draws HF.out.2.2.2 _⟩
  · go_wp2_with fail
    refine (eq26 _ _ _ _ xs _ (by omega) HF.out.2.2.1.front HF.out.1).mono ?_
    rintro e w5 ⟨rfl, n5, rfl⟩
    go_wp2_with fail
    · refine (eq26 _ _ _ _ ys _ (by omega) (fun h0 => by exfalso; omega) (HF.out.2.1.drewN _)).mono ?_
      rintro e w6 ⟨rfl, n6, rfl⟩
      go_wp2
      go_ret
      exact ⟨rfl, below_draws HF.out.2.2.2 _⟩
    · refine (eq26 _ _ _ _ ys _ (by omega) (HF.out.2.2.1.back.drewN _) (HF.out.2.1.drewN _)).mono ?_
      rintro e w6 ⟨rfl, n6, rfl⟩
      go_wp2
      go_ret
      exact ⟨rfl, below_draws HF.out.2.2.2 _⟩

set_option maxHeartbeats 1600000 in
set_option maxRecDepth 100000 in
/-- .. escapes on, no backslash: likewise. -/
theorem law11_none (a0 a1 : Option Addr) (c0 c1 : Nat) (xs ys : List Int) (w : World) (h0 : In w a0 c0 xs) (h1 : In w a1 c1 ys) (h : xs.length + ys.length ≤ 1048576) (hbs : hasB ys = false) :
    Calls Trym.prog 11 #[.slice a0 xs.length c0, .slice a1 ys.length c1, .bool true] w fun e w' => e = .returned (.bool true) ∧ Below w.heap.size w w' := by
  have HU : Hid (unesc true ys = ys) := hid (unesc_none true ys (hasB_no hbs))
  have H0 : Hid _ := hid h0
  have H1 : Hid _ := hid h1
  clear h0 h1
  go_enter Trym.func11, Trym.ntmps11
  go_wp2_with (go_at_call 29; refine (bytes29_yes _ _ _ _ _ _ _ h _).mono ?_; rintro e w' ⟨rfl, rfl⟩)
  refine (cloneIn a0 c0 xs _ (by omega) H0.out).mono ?_
  rintro e w1 ⟨a2, c2, rfl, HA⟩
  go_wp2_with fail
  refine (cloneIn a1 c1 ys w1 (by omega) (H1.out.keeps HA.out.2)).mono ?_
  rintro e w2 ⟨a3, c3, rfl, HC⟩
  go_wp2_with fail
  refine (cloneOwn _ a2 c2 xs w2 (by omega) (HA.out.1.keeps HC.out.2)).mono ?_
  rintro e w3 ⟨a4, c4, rfl, HD⟩
  go_wp2_with fail
  refine (unOwn w2.heap.size _ a4 a3 c4 c3 xs ys ys true w3 (by omega) HU HD.out.1 HD.out.2.size (HC.out.1.keeps HD.out.2) (apart HD.out.1 HC.out.1)).mono ?_
  rintro e w4 ⟨a5, c5, rfl, HE⟩
  obtain ⟨s1, s2, hs⟩ := HE.out.own.shape
  unfold maxLen at s2
  have HF := hid (after11 HA.out HC.out HD.out HE.out)
  rcases hs with ⟨rfl, rfl⟩ | ⟨g, rfl⟩
  · go_wp2_with fail
    refine (eq26 _ _ _ _ xs _ (by omega) HF.out.2.2.1.front HF.out.1).mono ?_
    rintro e w5 ⟨rfl, n5, rfl⟩
    go_wp2_with (go_at_call 30; refine (bs30 a3 c3 ys _ (by omega) (HF.out.2.1.drewN _)).mono ?_; rintro e w9 ⟨rfl, rfl⟩)
    refine (eq26 _ _ _ _ ys _ (by omega) (fun h0 => by exfalso; omega) (HF.out.2.1.drewN _)).mono ?_
    rintro e w6 ⟨rfl, n6, rfl⟩
    go_wp2
    go_ret
    exact ⟨rfl, below_draws HF.out.2.2.2 _⟩
  · go_wp2_with fail
    refine (eq26 _ _ _ _ xs _ (by omega) HF.out.2.2.1.front HF.out.1).mono ?_
    rintro e w5 ⟨rfl, n5, rfl⟩
    go_wp2_with (go_at_call 30; refine (bs30 a3 c3 ys _ (by omega) (HF.out.2.1.drewN _)).mono ?_; rintro e w9 ⟨rfl, rfl⟩)
    · refine (eq26 _ _ _ _ ys _ (by omega) (fun h0 => by exfalso; omega) (HF.out.2.1.drewN _)).mono ?_
      rintro e w6 ⟨rfl, n6, rfl⟩
      go_wp2
      go_ret
      exact ⟨rfl, below_draws HF.out.2.2.2 _⟩
    · refine (eq26 _ _ _ _ ys _ (by omega) (HF.out.2.2.1.back.drewN _) (HF.out.2.1.drewN _)).mono ?_
      rintro e w6 ⟨rfl, n6, rfl⟩
      go_wp2
      go_ret
      exact ⟨rfl, below_draws HF.out.2.2.2 _⟩

/-- FnAppendUnescapedBounds. -/
theorem law11 (a0 a1 : Option Addr) (c0 c1 : Nat) (xs ys : List Int) (esc : Bool) (w : World) (h0 : In w a0 c0 xs) (h1 : In w a1 c1 ys) (hx : xs.length ≤ 9223372036854775807) (hy : ys.length ≤ 9223372036854775807) :
    Calls Trym.prog 11 #[.slice a0 xs.length c0, .slice a1 ys.length c1, .bool esc] w fun e w' => e = .returned (.bool true) ∧ Below w.heap.size w w' := by
  by_cases h : xs.length + ys.length ≤ 1048576
  · cases esc with
    | false => exact law11_off a0 a1 c0 c1 xs ys w h0 h1 h
    | true =>
      cases hb : hasB ys with
      | true => exact law11_bs a0 a1 c0 c1 xs ys w h0 h1 h hb
      | false => exact law11_none a0 a1 c0 c1 xs ys w h0 h1 h hb
  · clear h0 h1
    go_enter Trym.func11, Trym.ntmps11
    go_wp2_with (go_at_call 29; refine (bytes29_no _ _ _ _ _ _ _ h hx hy _).mono ?_; rintro e w' ⟨rfl, rfl⟩)
    go_ret
    exact ⟨rfl, Below.refl _ _⟩

/-- zzEqual, the length under a name. -/
theorem eq26' (a b : Option Addr) (n c d : Nat) (xs : List Int) (w : World) (hn : n = xs.length) (hl : n ≤ 4194304) (hA : Rd w a xs) (hB : Rd w b xs) :
    Calls Trym.prog 26 #[.slice a n c, .slice b n d] w fun e w' => e = .returned (.bool true) ∧ ∃ n, w' = w.drewN n := by
  subst hn
  exact eq26 a b c d xs w hl hA hB

/-- WHAT IS KNOWN BEHIND ZZappendUnescaped in the law on the round trip. -/
theorem after9 {w w1 w2 w3 w4 w5 : World} {a2 a3 a4 a5 a6 : Option Addr} {n2 n3 n4 n5 n6 c2 c3 c4 c5 c6 : Nat} {xs ys zs es : List Int} (HA : Own w.heap.size w1 (.slice a2 n2 c2) xs ∧ Below w.heap.size w w1) (HC : Own w1.heap.size w2 (.slice a3 n3 c3) ys ∧ Below w1.heap.size w1 w2)
    (HD : Own w2.heap.size w3 (.slice a4 n4 c4) zs ∧ Below w2.heap.size w2 w3) (HE : Own w3.heap.size w4 (.slice a5 n5 c5) es ∧ Below w3.heap.size w3 w4) (HS : St w.heap.size w4 (.slice a2 n2 c2) w5 (.slice a6 n6 c6) (xs ++ ys)) :
    Rd w5 a6 (xs ++ ys) ∧ Rd w5 a4 zs ∧ Below w.heap.size w w5 := by
  have hA2 := HA.1.keeps HC.2
  have hb : Below w.heap.size w4 w5 := HS.below (fun k hk => (HA.1.block k hk).1)
  have s1 := HA.2.size
  have s2 := HC.2.size
  have s3 := HD.2.size
  have hZ := HD.1.keeps HE.2
  refine ⟨HS.own.rd, (hZ.grown HS.grown ?_).rd, ?_⟩
  · cases a4 with
    | none => exact .inl rfl
    | some x =>
      right
      intro e
      have h1 := (HD.1.block x.block rfl).1
      have h2 := (hA2.block x.block e.symm).2
      omega
  · exact (((HA.2.trans (HC.2.mono s1)).trans (HD.2.mono (by omega))).trans (HE.2.mono (by omega))).trans hb

set_option maxHeartbeats 1600000 in
set_option maxRecDepth 100000 in
/-- FnAppendUnescapedRoundTrip, within the bound. -/
theorem law9_in (a0 a1 : Option Addr) (c0 c1 : Nat) (xs ys : List Int) (w : World) (h0 : In w a0 c0 xs) (h1 : In w a1 c1 ys) (h : xs.length + ys.length ≤ 1048576) :
    Calls Trym.prog 9 #[.slice a0 xs.length c0, .slice a1 ys.length c1] w fun e w' => e = .returned (.bool true) ∧ Below w.heap.size w w' := by
  have HU : Hid (unesc true (escape ys) = ys) := hid (round_trip ys)
  have hle := escape_len ys
  have H0 : Hid _ := hid h0
  have H1 : Hid _ := hid h1
  clear h0 h1
  go_enter Trym.func9, Trym.ntmps9
  go_wp2_with (go_at_call 21; refine (bytes21_yes _ _ _ _ _ _ h _).mono ?_; rintro e w' ⟨rfl, rfl⟩)
  refine (cloneIn a0 c0 xs _ (by omega) H0.out).mono ?_
  rintro e w1 ⟨a2, c2, rfl, HA⟩
  go_wp2_with fail
  refine (cloneIn a1 c1 ys w1 (by omega) (H1.out.keeps HA.out.2)).mono ?_
  rintro e w2 ⟨a3, c3, rfl, HC⟩
  go_wp2_with fail
  refine (concatOwn _ _ a2 a3 c2 c3 xs ys w2 (by omega) (by omega) (HA.out.1.keeps HC.out.2) HC.out.1).mono ?_
  rintro e w3 ⟨a4, c4, rfl, HD⟩
  go_wp2_with fail
  refine (escOwn _ a3 c3 ys w3 (by omega) (HC.out.1.keeps HD.out.2)).mono ?_
  rintro e w4 ⟨a5, c5, rfl, HE⟩
  go_wp2_with fail
  have HA3 := hid ((HA.out.1.keeps HC.out.2).keeps HD.out.2)
  have HZ : Hid (_ ≤ w4.heap.size) := hid (Nat.le_trans (Nat.le_trans (Nat.le_trans HA.out.2.size HC.out.2.size) HD.out.2.size) HE.out.2.size)
  refine (unOwn _ _ a2 a5 c2 c5 xs (escape ys) ys true w4 (by omega) HU (HA3.out.keeps HE.out.2) HZ.out HE.out.1 (apart' HE.out.1 HA3.out)).mono ?_
  rintro e w5 ⟨a6, c6, rfl, HS⟩
  have HF := hid (after9 HA.out HC.out HD.out HE.out HS.out)
  go_wp2_with fail
  refine (eq26' _ _ _ _ _ (xs ++ ys) _ (by simp) (by omega) HF.out.1 HF.out.2.1).mono ?_
  rintro e w6 ⟨rfl, n6, rfl⟩
  go_wp2
  go_ret
  exact ⟨rfl, below_draws HF.out.2.2 _⟩

/-- FnAppendUnescapedRoundTrip. -/
theorem law9 (a0 a1 : Option Addr) (c0 c1 : Nat) (xs ys : List Int) (w : World) (h0 : In w a0 c0 xs) (h1 : In w a1 c1 ys) (hx : xs.length ≤ 9223372036854775807) (hy : ys.length ≤ 9223372036854775807) :
    Calls Trym.prog 9 #[.slice a0 xs.length c0, .slice a1 ys.length c1] w fun e w' => e = .returned (.bool true) ∧ Below w.heap.size w w' := by
  by_cases h : xs.length + ys.length ≤ 1048576
  · exact law9_in a0 a1 c0 c1 xs ys w h0 h1 h
  · clear h0 h1
    go_enter Trym.func9, Trym.ntmps9
    go_wp2_with (go_at_call 21; refine (bytes21_no _ _ _ _ _ _ h hx hy _).mono ?_; rintro e w' ⟨rfl, rfl⟩)
    go_ret
    exact ⟨rfl, Below.refl _ _⟩
end Go.Proofs.Qxb6000712aMods.App
