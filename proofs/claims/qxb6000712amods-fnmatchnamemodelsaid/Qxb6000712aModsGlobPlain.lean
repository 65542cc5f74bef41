/-
  THE PLAIN LAW OF zzGlob: the rows that it fills, against 'G' (MatchPlain). No Go in sight.
-/
import Derived.Test.Qxb6000712aModsMatchPlain
namespace Go.Proofs.Qxb6000712aMods.Mat

/-- The new row at a star: is one of the cells up to j set? -/
def stars (f : Nat → Bool) : Nat → Bool
  | 0 => f 0
  | j + 1 => f (j + 1) || stars f j
/-- The new row at another byte. -/
def lits (s : List UInt8) (c : UInt8) (f : Nat → Bool) : Nat → Bool
  | 0 => false
  | j + 1 => f j && decide (s[j]? = some c)
def nextRow (s : List UInt8) (f : Nat → Bool) (c : UInt8) : Nat → Bool := if c = 42 then stars f else lits s c f
def row0 : Nat → Bool := fun j => decide (j = 0)
/-- The row behind the pattern p. -/
def rowOf (s p : List UInt8) : Nat → Bool := p.foldl (nextRow s) row0

theorem rowOf_snoc (s p : List UInt8) (c : UInt8) : rowOf s (p ++ [c]) = nextRow s (rowOf s p) c := by simp [rowOf]

theorem stars_iff (f : Nat → Bool) (j : Nat) : stars f j = true ↔ ∃ k, k ≤ j ∧ f k = true := by
  induction j with
  | zero =>
    constructor
    · intro h; exact ⟨0, Nat.le_refl _, h⟩
    · rintro ⟨k, hk, h⟩
      obtain rfl : k = 0 := by omega
      exact h
  | succ j ih =>
    simp only [stars, Bool.or_eq_true, ih]
    constructor
    · rintro (h | ⟨k, hk, h⟩)
      · exact ⟨j + 1, Nat.le_refl _, h⟩
      · exact ⟨k, by omega, h⟩
    · rintro ⟨k, hk, h⟩
      by_cases e : k = j + 1
      · subst e; exact .inl h
      · exact .inr ⟨k, by omega, h⟩

theorem lits_iff (s : List UInt8) (c : UInt8) (f : Nat → Bool) (j : Nat) : lits s c f j = true ↔ ∃ k, j = k + 1 ∧ f k = true ∧ s[k]? = some c := by
  cases j with
  | zero => simp [lits]
  | succ j =>
    simp only [lits, Bool.and_eq_true, decide_eq_true_eq]
    constructor
    · rintro ⟨h1, h2⟩; exact ⟨j, rfl, h1, h2⟩
    · rintro ⟨k, e, h1, h2⟩
      obtain rfl : j = k := by omega
      exact ⟨h1, h2⟩

/-- From k up to j. -/
def mid (s : List UInt8) (k j : Nat) : List UInt8 := (s.take j).drop k

theorem mid_len (s : List UInt8) (k j : Nat) (h : j ≤ s.length) : (mid s k j).length = j - k := by simp [mid]; omega
theorem mid_drop (s : List UInt8) (k j d : Nat) : (mid s k j).drop d = mid s (k + d) j := by simp [mid, List.drop_drop]
theorem mid_cons (s : List UInt8) (k j : Nat) (hk : k < j) (hj : j ≤ s.length) : mid s k j = s[k] :: mid s (k + 1) j := by
  unfold mid
  rw [List.drop_eq_getElem_cons (by simp; omega)]
  simp

theorem fold_iff (s p : List UInt8) (f : Nat → Bool) (j : Nat) (hj : j ≤ s.length) : p.foldl (nextRow s) f j = true ↔ ∃ k, k ≤ j ∧ f k = true ∧ G p (mid s k j) := by
  induction p generalizing f with
  | nil =>
    simp only [List.foldl_nil, G]
    constructor
    · intro h
      exact ⟨j, Nat.le_refl _, h, List.eq_nil_of_length_eq_zero (by rw [mid_len _ _ _ hj]; omega)⟩
    · rintro ⟨k, hk, h, e⟩
      have := congrArg List.length e
      rw [mid_len _ _ _ hj] at this
      simp at this
      obtain rfl : k = j := by omega
      exact h
  | cons c ps ih =>
    rw [List.foldl_cons, ih]
    by_cases hc : c = 42
    · subst hc
      simp only [nextRow, if_true, G_star]
      constructor
      · rintro ⟨k, hk, hs, hg⟩
        obtain ⟨q, hq, hf⟩ := (stars_iff f k).1 hs
        refine ⟨q, by omega, hf, k - q, by rw [mid_len _ _ _ hj]; omega, ?_⟩
        rw [mid_drop, show q + (k - q) = k from by omega]
        exact hg
      · rintro ⟨q, hq, hf, d, hd, hg⟩
        rw [mid_len _ _ _ hj] at hd
        rw [mid_drop] at hg
        exact ⟨q + d, by omega, (stars_iff f _).2 ⟨q, by omega, hf⟩, hg⟩
    · simp only [nextRow, if_neg hc, G_lit _ _ _ hc]
      constructor
      · rintro ⟨k, hk, hs, hg⟩
        obtain ⟨q, rfl, hf, he⟩ := (lits_iff s c f k).1 hs
        refine ⟨q, by omega, hf, mid s (q + 1) j, ?_, hg⟩
        rw [mid_cons s q j (by omega) hj]
        rw [List.getElem?_eq_getElem (by omega)] at he
        rw [Option.some.inj he]
      · rintro ⟨q, hq, hf, t, ht, hg⟩
        have hql : q < j := by
          have := congrArg List.length ht
          rw [mid_len _ _ _ hj] at this
          simp at this
          omega
        rw [mid_cons s q j hql hj] at ht
        obtain ⟨e1, e2⟩ := List.cons.inj ht
        refine ⟨q + 1, by omega, (lits_iff s c f _).2 ⟨q, rfl, hf, ?_⟩, by rw [e2]; exact hg⟩
        rw [List.getElem?_eq_getElem (by omega), e1]

theorem rowOf_iff (s p : List UInt8) : rowOf s p s.length = true ↔ G p s := by
  unfold rowOf
  rw [fold_iff s p row0 _ (Nat.le_refl _)]
  constructor
  · rintro ⟨k, _, hf, hg⟩
    have : k = 0 := by simpa [row0] using hf
    subst this
    simpa [mid] using hg
  · intro hg
    exact ⟨0, Nat.zero_le _, by simp [row0], by simpa [mid] using hg⟩

/-- One round more. -/
theorem rowOf_next (s p : List UInt8) (k : Nat) (h : k < p.length) : rowOf s (p.take (k + 1)) = nextRow s (rowOf s (p.take k)) p[k] := by
  rw [List.take_succ_eq_append_getElem h, rowOf_snoc]

end Go.Proofs.Qxb6000712aMods.Mat
