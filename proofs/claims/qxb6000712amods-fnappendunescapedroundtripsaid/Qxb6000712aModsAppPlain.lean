/-
  THE PLAIN LAW OF appendUnescaped AND zzEscape: lists of numbers alone, no Go in sight.
-/
import Derived.RowKit
namespace Go.Proofs.Qxb6000712aMods.App

/-- What a backslash and the byte d stand for. -/
def um (d : Int) : List Int :=
  if d = 48 then [0] else if d = 98 then [8] else if d = 110 then [10] else if d = 114 then [13] else if d = 116 then [9] else if d = 90 then [26]
  else if d = 37 ∨ d = 95 then [92, d] else [d]

/-- The escapes undone. -/
def unesc (esc : Bool) : List Int → List Int
  | [] => []
  | [c] => [c]
  | c :: d :: t => if c = 92 ∧ esc = true then um d ++ unesc esc t else c :: unesc esc (d :: t)

theorem um_len (d : Int) : 1 ≤ (um d).length ∧ (um d).length ≤ 2 := by
  unfold um
  repeat (split; · simp)
  simp

theorem unesc_plain (esc : Bool) (c : Int) (t : List Int) (h : c ≠ 92 ∨ esc = false ∨ t = []) : unesc esc (c :: t) = c :: unesc esc t := by
  cases t with
  | nil => simp [unesc]
  | cons d t =>
    rw [unesc, if_neg]
    rintro ⟨h1, h2⟩
    rcases h with h | h | h
    · exact h h1
    · rw [h] at h2; cases h2
    · cases h

theorem unesc_pair (d : Int) (t : List Int) : unesc true (92 :: d :: t) = um d ++ unesc true t := by
  rw [unesc, if_pos ⟨rfl, rfl⟩]

/-- Two steps at a time. -/
theorem two_steps {P : List Int → Prop} (h0 : P []) (h1 : ∀ c, P [c]) (h2 : ∀ c d t, P t → P (d :: t) → P (c :: d :: t)) : ∀ l, P l
  | [] => h0
  | [c] => h1 c
  | c :: d :: t => h2 c d t (two_steps h0 h1 h2 t) (two_steps h0 h1 h2 (d :: t))

theorem unesc_len (esc : Bool) (l : List Int) : (l.length + 1) / 2 ≤ (unesc esc l).length ∧ (unesc esc l).length ≤ l.length := by
  refine two_steps (P := fun l => (l.length + 1) / 2 ≤ (unesc esc l).length ∧ (unesc esc l).length ≤ l.length) ?_ ?_ ?_ l
  · simp [unesc]
  · intro c; simp [unesc]
  · intro c d t ha hb
    have hu := um_len d
    rw [unesc]
    split
    · simp only [List.length_append, List.length_cons]
      omega
    · simp only [List.length_cons] at hb ⊢
      omega

theorem unesc_off (l : List Int) : unesc false l = l := by
  induction l with
  | nil => rfl
  | cons c t ih => rw [unesc_plain false c t (.inr (.inl rfl)), ih]

theorem unesc_none (esc : Bool) (l : List Int) (h : ∀ c ∈ l, c ≠ 92) : unesc esc l = l := by
  induction l with
  | nil => rfl
  | cons c t ih => rw [unesc_plain esc c t (.inl (h c (by simp))), ih (fun d hd => h d (by simp [hd]))]

/-- How a byte is escaped. -/
def es (c : Int) : List Int :=
  if c = 0 then [92, 48] else if c = 8 then [92, 98] else if c = 10 then [92, 110] else if c = 13 then [92, 114] else if c = 9 then [92, 116] else if c = 26 then [92, 90]
  else if c = 92 ∨ c = 39 ∨ c = 34 then [92, c] else [c]
def escape (l : List Int) : List Int := l.flatMap es

theorem es_len (c : Int) : (es c).length ≤ 2 := by
  unfold es
  repeat (split; · simp)
  simp

theorem unesc_es (c : Int) (t : List Int) : unesc true (es c ++ t) = c :: unesc true t := by
  unfold es
  by_cases h0 : c = 0
  · subst h0; simp [unesc_pair, um]
  by_cases h1 : c = 8
  · subst h1; simp [unesc_pair, um]
  by_cases h2 : c = 10
  · subst h2; simp [unesc_pair, um]
  by_cases h3 : c = 13
  · subst h3; simp [unesc_pair, um]
  by_cases h4 : c = 9
  · subst h4; simp [unesc_pair, um]
  by_cases h5 : c = 26
  · subst h5; simp [unesc_pair, um]
  by_cases h6 : c = 92 ∨ c = 39 ∨ c = 34
  · rw [if_neg h0, if_neg h1, if_neg h2, if_neg h3, if_neg h4, if_neg h5, if_pos h6]
    rcases h6 with rfl | rfl | rfl <;> simp [unesc_pair, um]
  · rw [if_neg h0, if_neg h1, if_neg h2, if_neg h3, if_neg h4, if_neg h5, if_neg h6]
    simp only [List.cons_append, List.nil_append]
    exact unesc_plain true c t (.inl fun e => h6 (.inl e))

/-- WHAT WAS ESCAPED COMES BACK. -/
theorem round_trip (l : List Int) : unesc true (escape l) = l := by
  unfold escape
  induction l with
  | nil => rfl
  | cons c t ih => rw [List.flatMap_cons, unesc_es, ih]

theorem escape_len (l : List Int) : (escape l).length ≤ 2 * l.length := by
  unfold escape
  induction l with
  | nil => simp
  | cons c t ih =>
    have := es_len c
    rw [List.flatMap_cons, List.length_append, List.length_cons]
    omega

/-! ### As a loop goes: what is written so far, and what is left -/
theorem drop_cons (l : List Int) (k : Nat) (h : k < l.length) : l.drop k = l[k] :: l.drop (k + 1) := List.drop_eq_getElem_cons h

theorem at_one {esc : Bool} {l out : List Int} {k : Nat} (h : unesc esc l = out ++ unesc esc (l.drop k)) (hk : k < l.length) (hc : l[k] ≠ 92 ∨ esc = false ∨ k + 1 = l.length) :
    unesc esc l = (out ++ [l[k]]) ++ unesc esc (l.drop (k + 1)) := by
  rw [h, drop_cons l k hk, unesc_plain esc _ _ (by
    rcases hc with hc | hc | hc
    · exact .inl hc
    · exact .inr (.inl hc)
    · exact .inr (.inr (List.drop_eq_nil_of_le (by omega))))]
  simp
theorem at_pair {l out : List Int} {k : Nat} (h : unesc true l = out ++ unesc true (l.drop k)) (hk : k + 1 < l.length) (hc : l[k] = 92) :
    unesc true l = (out ++ um l[k + 1]) ++ unesc true (l.drop (k + 2)) := by
  rw [h, drop_cons l k (by omega), drop_cons l (k + 1) hk, hc, unesc_pair]
  simp
theorem at_end {esc : Bool} {l out : List Int} {k : Nat} (h : unesc esc l = out ++ unesc esc (l.drop k)) (hk : ¬ k < l.length) : unesc esc l = out := by
  rw [h, List.drop_eq_nil_of_le (by omega)]
  simp [unesc]
theorem esc_next (l : List Int) (k : Nat) (h : k < l.length) : escape (l.take (k + 1)) = escape (l.take k) ++ es l[k] := by
  rw [List.take_succ_eq_append_getElem h, escape, List.flatMap_append]
  simp [escape]

end Go.Proofs.Qxb6000712aMods.App
