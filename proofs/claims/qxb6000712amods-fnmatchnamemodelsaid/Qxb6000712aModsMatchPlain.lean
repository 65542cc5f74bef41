/-
  THE PLAIN LAW OF matchName: lists of bytes alone, no Go in sight.
-/
import Derived.RowKit
namespace Go.Proofs.Qxb6000712aMods.Mat

/-- The name s matches the pattern: each 42 stands for any run of bytes, every other byte for itself. -/
def G : List UInt8 → List UInt8 → Prop
  | [], s => s = []
  | p :: ps, s => (p = 42 ∧ ∃ k, k ≤ s.length ∧ G ps (s.drop k)) ∨ (p ≠ 42 ∧ ∃ t, s = p :: t ∧ G ps t)

theorem G_star (ps s : List UInt8) : G (42 :: ps) s ↔ ∃ k, k ≤ s.length ∧ G ps (s.drop k) := by
  simp [G]
theorem G_lit (c : UInt8) (ps s : List UInt8) (h : c ≠ 42) : G (c :: ps) s ↔ ∃ t, s = c :: t ∧ G ps t := by
  simp [G, h]
theorem G_nil (s : List UInt8) : G [] s ↔ s = [] := Iff.rfl

/-- A run of bytes without a star stands for itself. -/
theorem G_lits (L ps s : List UInt8) (h : ∀ c ∈ L, c ≠ 42) : G (L ++ ps) s ↔ ∃ t, s = L ++ t ∧ G ps t := by
  induction L generalizing s with
  | nil => simp
  | cons c L ih =>
    have hc : c ≠ 42 := h c (by simp)
    have hL : ∀ d ∈ L, d ≠ 42 := fun d hd => h d (by simp [hd])
    simp only [List.cons_append]
    rw [G_lit c _ _ hc]
    constructor
    · rintro ⟨t, rfl, ht⟩
      obtain ⟨u, rfl, hu⟩ := (ih t hL).1 ht
      exact ⟨u, rfl, hu⟩
    · rintro ⟨u, rfl, hu⟩
      exact ⟨L ++ u, rfl, (ih _ hL).2 ⟨u, rfl, hu⟩⟩

/-- A star takes what stands ahead of a shorter rest. -/
theorem G_star_more (ps s : List UInt8) (k : Nat) (h : G (42 :: ps) (s.drop k)) : G (42 :: ps) s := by
  rw [G_star] at h ⊢
  obtain ⟨j, hj, hg⟩ := h
  rw [List.drop_drop] at hg
  by_cases hk : k + j ≤ s.length
  · exact ⟨k + j, hk, hg⟩
  · refine ⟨s.length, Nat.le_refl _, ?_⟩
    rw [List.drop_eq_nil_of_le (by omega)] at hg
    simpa using hg

/-- All of ps are stars. -/
theorem G_empty (ps : List UInt8) : G ps [] ↔ ∀ c ∈ ps, c = 42 := by
  induction ps with
  | nil => simp [G]
  | cons c ps ih => simp [G, ih]

/-- A pattern without a star matches itself alone. -/
theorem G_literal (ps s : List UInt8) (h : ∀ c ∈ ps, c ≠ 42) : G ps s ↔ ps = s := by
  have := G_lits ps [] s h
  simp only [List.append_nil] at this
  rw [this]
  constructor
  · rintro ⟨t, rfl, ht⟩
    have e : t = [] := ht
    simp [e]
  · rintro rfl
    exact ⟨[], by simp, rfl⟩

/-! ### THE GREEDY WALK. 'Inv pat name st tk p i': where the walk stands; 'st': the last star's place plus 1, 0 for none. -/
/-- The part of l from a on, b long. -/
def seg (l : List UInt8) (a b : Nat) : List UInt8 := (l.drop a).take b

structure Inv (pat name : List UInt8) (st tk p i : Nat) : Prop where
  stp : st ≤ p
  pl : p ≤ pat.length
  tki : tk ≤ i
  il : i ≤ name.length
  same : p - st = i - tk
  eqs : seg pat st (p - st) = seg name tk (i - tk)
  lits : ∀ c ∈ seg pat st (p - st), c ≠ 42
  none : st = 0 → tk = 0 ∧ (G pat name ↔ G (pat.drop p) (name.drop i))
  some : st ≠ 0 → (G pat name ↔ G (42 :: pat.drop st) (name.drop tk))

theorem seg_zero (l : List UInt8) (a : Nat) : seg l a 0 = [] := by simp [seg]
theorem seg_succ (l : List UInt8) (a b : Nat) (h : a + b < l.length) : seg l a (b + 1) = seg l a b ++ [l[a + b]] := by
  unfold seg
  rw [List.take_succ_eq_append_getElem (by simp; omega)]
  simp
theorem seg_split (l : List UInt8) (a b : Nat) : l.drop a = seg l a b ++ l.drop (a + b) := by
  unfold seg
  rw [← List.drop_drop, List.take_append_drop]

theorem inv_start (pat name : List UInt8) : Inv pat name 0 0 0 0 :=
  ⟨by omega, by omega, by omega, by omega, by omega, by simp [seg], by simp [seg], fun _ => ⟨rfl, by simp⟩, fun h => absurd rfl h⟩

/-- What the star that was come to last leaves to be matched. -/
theorem inv_rest {pat name : List UInt8} {st tk p i : Nat} (h : Inv pat name st tk p i) (k : Nat) :
    G (pat.drop st) (name.drop k) ↔ ∃ t, name.drop k = seg pat st (p - st) ++ t ∧ G (pat.drop p) t := by
  have e := seg_split pat st (p - st)
  rw [show st + (p - st) = p from by have := h.stp; omega] at e
  rw [e, G_lits _ _ _ h.lits]

theorem seg_len {pat name : List UInt8} {st tk p i : Nat} (h : Inv pat name st tk p i) : (seg pat st (p - st)).length = p - st := by
  have := h.pl; have := h.stp
  simp [seg]; omega

/-- At a star. -/
theorem inv_star {pat name : List UInt8} {st tk p i : Nat} (h : Inv pat name st tk p i) (hp : p < pat.length) (hc : pat[p] = 42) : Inv pat name (p + 1) i (p + 1) i := by
  have ed : pat.drop p = 42 :: pat.drop (p + 1) := by rw [List.drop_eq_getElem_cons hp, hc]
  refine ⟨by omega, by omega, by omega, h.il, by omega, by simp [seg], by simp [seg], fun e => by omega, fun _ => ?_⟩
  by_cases hs : st = 0
  · rw [(h.none hs).2, ed]
  · rw [h.some hs, G_star]
    have hl := seg_len h
    constructor
    · rintro ⟨k, _, hg⟩
      rw [List.drop_drop] at hg
      obtain ⟨t, ht, hgt⟩ := (inv_rest h (tk + k)).1 hg
      rw [ed] at hgt
      have et : t = name.drop (tk + k + (p - st)) := by
        rw [← List.drop_drop, ht, List.drop_append_of_le_length (by omega)]
        rw [List.drop_eq_nil_of_le (by omega)]
        simp
      rw [et] at hgt
      have e2 : name.drop (tk + k + (p - st)) = (name.drop i).drop k := by
        rw [List.drop_drop]
        congr 1
        have := h.same; have := h.tki; omega
      rw [e2] at hgt
      exact G_star_more _ _ _ hgt
    · intro hg
      refine ⟨0, Nat.zero_le _, ?_⟩
      rw [List.drop_zero]
      refine (inv_rest h tk).2 ⟨name.drop i, ?_, by rw [ed]; exact hg⟩
      rw [h.eqs]
      have e := seg_split name tk (i - tk)
      rw [show tk + (i - tk) = i from by have := h.tki; omega] at e
      exact e

/-- At a byte that fits. -/
theorem inv_fit {pat name : List UInt8} {st tk p i : Nat} (h : Inv pat name st tk p i) (hp : p < pat.length) (hi : i < name.length) (hn : pat[p] ≠ 42) (hc : pat[p] = name[i]) :
    Inv pat name st tk (p + 1) (i + 1) := by
  have h1 := h.stp; have h2 := h.tki; have h3 := h.same
  have e1 : seg pat st (p + 1 - st) = seg pat st (p - st) ++ [pat[p]] := by
    rw [show p + 1 - st = (p - st) + 1 from by omega, seg_succ _ _ _ (by omega)]
    simp only [show st + (p - st) = p from by omega]
  have e2 : seg name tk (i + 1 - tk) = seg name tk (i - tk) ++ [name[i]] := by
    rw [show i + 1 - tk = (i - tk) + 1 from by omega, seg_succ _ _ _ (by omega)]
    simp only [show tk + (i - tk) = i from by omega]
  refine ⟨by omega, by omega, by omega, by omega, by omega, by rw [e1, e2, h.eqs, hc], ?_, fun hs => ⟨(h.none hs).1, ?_⟩, h.some⟩
  · rw [e1]
    intro c hcm
    rcases List.mem_append.1 hcm with g | g
    · exact h.lits c g
    · simp at g; rw [g]; exact hn
  · rw [(h.none hs).2, List.drop_eq_getElem_cons hp, G_lit _ _ _ hn, List.drop_eq_getElem_cons hi, hc]
    constructor
    · rintro ⟨t, e, g⟩
      rw [(List.cons.inj e).2]
      exact g
    · intro g
      exact ⟨_, rfl, g⟩

/-- What stands there does not fit: no match with what the last star has taken. -/
theorem inv_not {pat name : List UInt8} {p i : Nat} (hi : i < name.length) (hn : ∀ hp : p < pat.length, pat[p] ≠ 42 ∧ pat[p] ≠ name[i]) :
    ¬ G (pat.drop p) (name.drop i) := by
  by_cases hp : p < pat.length
  · rw [List.drop_eq_getElem_cons hp, G_lit _ _ _ (hn hp).1, List.drop_eq_getElem_cons hi]
    rintro ⟨t, e, _⟩
    exact (hn hp).2 (by simpa using (List.cons.inj e).1.symm)
  · rw [List.drop_eq_nil_of_le (by omega), G_nil, List.drop_eq_getElem_cons hi]
    exact fun e => by cases e

theorem inv_fail {pat name : List UInt8} {tk p i : Nat} (h : Inv pat name 0 tk p i) (hi : i < name.length) (hn : ∀ hp : p < pat.length, pat[p] ≠ 42 ∧ pat[p] ≠ name[i]) : ¬ G pat name := by
  rw [(h.none rfl).2]
  exact inv_not hi hn

theorem inv_back {pat name : List UInt8} {st tk p i : Nat} (h : Inv pat name st tk p i) (hs : st ≠ 0) (hi : i < name.length) (hn : ∀ hp : p < pat.length, pat[p] ≠ 42 ∧ pat[p] ≠ name[i]) :
    Inv pat name st (tk + 1) st (tk + 1) := by
  have h1 := h.stp; have h2 := h.tki; have h3 := h.same; have h4 := h.pl; have h5 := h.il
  refine ⟨by omega, by omega, by omega, by omega, by omega, by simp [seg], by simp [seg], fun e => absurd e hs, fun _ => ?_⟩
  rw [h.some hs, G_star, G_star]
  constructor
  · rintro ⟨k, hk, hg⟩
    rw [List.drop_drop] at hg
    by_cases k0 : k = 0
    · subst k0
      exfalso
      obtain ⟨t, ht, hgt⟩ := (inv_rest h tk).1 (by simpa using hg)
      rw [h.eqs] at ht
      have e := seg_split name tk (i - tk)
      rw [show tk + (i - tk) = i from by omega] at e
      rw [e] at ht
      have et : name.drop i = t := List.append_cancel_left ht
      rw [← et] at hgt
      exact inv_not hi hn hgt
    · refine ⟨k - 1, by simp at hk ⊢; omega, ?_⟩
      rw [List.drop_drop]
      rw [show tk + 1 + (k - 1) = tk + k from by omega]
      exact hg
  · rintro ⟨k, hk, hg⟩
    refine ⟨k + 1, by simp at hk ⊢; omega, ?_⟩
    rw [List.drop_drop] at hg ⊢
    rw [show tk + (k + 1) = tk + 1 + k from by omega]
    exact hg

/-- The name is through: what is left of the pattern must be stars. -/
theorem inv_end {pat name : List UInt8} {st tk p i : Nat} (h : Inv pat name st tk p i) (hi : ¬ i < name.length) : G pat name ↔ G (pat.drop p) [] := by
  have h1 := h.stp; have h2 := h.tki; have h3 := h.same; have h4 := h.pl; have h5 := h.il
  have en : name.drop i = [] := List.drop_eq_nil_of_le (by omega)
  by_cases hs : st = 0
  · rw [(h.none hs).2, en]
  · rw [h.some hs, G_star]
    have hl := seg_len h
    constructor
    · rintro ⟨k, hk, hg⟩
      rw [List.drop_drop] at hg
      obtain ⟨t, ht, hgt⟩ := (inv_rest h (tk + k)).1 hg
      have := congrArg List.length ht
      simp [hl] at this
      have et : t = [] := List.eq_nil_of_length_eq_zero (by omega)
      rw [et] at hgt
      exact hgt
    · intro hg
      refine ⟨0, Nat.zero_le _, ?_⟩
      rw [List.drop_zero]
      refine (inv_rest h tk).2 ⟨[], ?_, hg⟩
      rw [h.eqs]
      have e := seg_split name tk (i - tk)
      rw [show tk + (i - tk) = i from by omega, en] at e
      exact e

/-- THE MEASURE of the walk goes down. -/
def mu (P N tk p : Nat) : Nat := (N - tk) * (P + 1) + (P - p)
theorem mu_on {P N tk p tk' p' : Nat} (h : tk ≤ tk') (h2 : p < p') (h3 : p' ≤ P) : mu P N tk' p' < mu P N tk p := by
  unfold mu
  have := Nat.mul_le_mul_right (P + 1) (show N - tk' ≤ N - tk by omega)
  omega
theorem mu_back {P N tk p p' : Nat} (h : tk < N) (h2 : p ≤ P) : mu P N (tk + 1) p' < mu P N tk p := by
  unfold mu
  have e : N - tk = (N - (tk + 1)) + 1 := by omega
  rw [e, Nat.succ_mul]
  omega

/-! ### OVER BYTE ARRAYS, in the walk's spelling -/
abbrev L (a : ByteArray) : List UInt8 := a.data.toList
theorem L_get (a : ByteArray) (k : Nat) (h : k < a.size) : (L a)[k]'(by simpa using h) = a[k] := rfl
theorem u8_eq (x y : UInt8) : (((x.toNat : Int) == (y.toNat : Int)) = true) ↔ x = y := by
  rw [beq_iff_eq]
  constructor
  · intro h
    exact UInt8.toNat_inj.1 (by omega)
  · rintro rfl
    rfl
theorem u8_star (x : UInt8) : (((x.toNat : Int) == 42) = true) ↔ x = 42 := u8_eq x 42
theorem u8_neq (x y : UInt8) (h : ((x.toNat : Int) == (y.toNat : Int)) = false) : x ≠ y := fun e => by rw [(u8_eq x y).2 e] at h; cases h
theorem u8_nostar (x : UInt8) (h : ((x.toNat : Int) == 42) = false) : x ≠ 42 := u8_neq x 42 h

theorem at_star {a b : ByteArray} {st tk p i : Nat} (h : Inv (L a) (L b) st tk p i) (hp : p < a.size) (hc : ((a[p].toNat : Int) == 42) = true) : Inv (L a) (L b) (p + 1) i (p + 1) i :=
  inv_star h (by simpa using hp) ((u8_star _).1 hc)
theorem at_fit {a b : ByteArray} {st tk p i : Nat} (h : Inv (L a) (L b) st tk p i) (hp : p < a.size) (hi : i < b.size) (hn : ((a[p].toNat : Int) == 42) = false) (hc : ((a[p].toNat : Int) == (b[i].toNat : Int)) = true) : Inv (L a) (L b) st tk (p + 1) (i + 1) :=
  inv_fit h (by simpa using hp) (by simpa using hi) (u8_nostar _ hn) ((u8_eq _ _).1 hc)
theorem at_back {a b : ByteArray} {st tk p i : Nat} (h : Inv (L a) (L b) st tk p i) (hs : st ≠ 0) (hp : p < a.size) (hi : i < b.size) (hn : ((a[p].toNat : Int) == 42) = false) (hc : ((a[p].toNat : Int) == (b[i].toNat : Int)) = false) : Inv (L a) (L b) st (tk + 1) st (tk + 1) :=
  inv_back h hs (by simpa using hi) fun _ => ⟨u8_nostar _ hn, u8_neq _ _ hc⟩
theorem at_back' {a b : ByteArray} {st tk p i : Nat} (h : Inv (L a) (L b) st tk p i) (hs : st ≠ 0) (hp : ¬ p < a.size) (hi : i < b.size) : Inv (L a) (L b) st (tk + 1) st (tk + 1) :=
  inv_back h hs (by simpa using hi) fun hp' => absurd (by simpa using hp') hp
theorem at_fail {a b : ByteArray} {tk p i : Nat} (h : Inv (L a) (L b) 0 tk p i) (hp : p < a.size) (hi : i < b.size) (hn : ((a[p].toNat : Int) == 42) = false) (hc : ((a[p].toNat : Int) == (b[i].toNat : Int)) = false) : false = true ↔ G (L a) (L b) :=
  ⟨fun e => (by cases e), fun g => absurd g (inv_fail h (by simpa using hi) fun _ => ⟨u8_nostar _ hn, u8_neq _ _ hc⟩)⟩
theorem at_fail' {a b : ByteArray} {tk p i : Nat} (h : Inv (L a) (L b) 0 tk p i) (hp : ¬ p < a.size) (hi : i < b.size) : false = true ↔ G (L a) (L b) :=
  ⟨fun e => (by cases e), fun g => absurd g (inv_fail h (by simpa using hi) fun hp' => absurd (by simpa using hp') hp)⟩
theorem at_out {a b : ByteArray} {st tk p i : Nat} (h : Inv (L a) (L b) st tk p i) (hi : ¬ i < b.size) : G (L a) (L b) ↔ G ((L a).drop p) [] :=
  inv_end h (by simpa using hi)
theorem at_skip {a b : ByteArray} {p : Nat} (h : G (L a) (L b) ↔ G ((L a).drop p) []) (hp : p < a.size) (hc : ((a[p].toNat : Int) == 42) = true) : G (L a) (L b) ↔ G ((L a).drop (p + 1)) [] := by
  have e : (L a)[p]'(by simpa using hp) = 42 := (u8_star _).1 hc
  rw [h, List.drop_eq_getElem_cons (by simpa using hp), e, G_star]
  simp
theorem at_yes {a b : ByteArray} {p : Nat} (h : G (L a) (L b) ↔ G ((L a).drop p) []) (hp : ¬ p < a.size) : true = true ↔ G (L a) (L b) := by
  rw [h, List.drop_eq_nil_of_le (by simp; omega)]
  simp [G]
theorem at_no {a b : ByteArray} {p : Nat} (h : G (L a) (L b) ↔ G ((L a).drop p) []) (hp : p < a.size) (hc : ((a[p].toNat : Int) == 42) = false) : false = true ↔ G (L a) (L b) := by
  rw [h, List.drop_eq_getElem_cons (by simpa using hp), G_lit ((L a)[p]'(by simpa using hp)) _ _ (u8_nostar _ hc)]
  simp
/-- A pattern without a star. -/
theorem at_literal (a b : ByteArray) (h : ∀ c ∈ L a, c ≠ 42) : G (L a) (L b) ↔ a = b := by
  rw [G_literal _ _ h]
  constructor
  · intro e
    exact ByteArray.ext (Array.toList_inj.1 e)
  · rintro rfl
    rfl

end Go.Proofs.Qxb6000712aMods.Mat
