/-
  THE WALKS OF zzClone (22) AND zzConcat (23): they make memory of their own and copy into it.
-/
import Derived.Test.Qxb6000712aModsAppBase
import Derived.Laws.CopyOwn
import Derived.Lib.SliceRun
import Derived.Deep.OwnRows
namespace Go.Proofs.Qxb6000712aMods.App
open Go.RowKit

/-- What make lays: n zeroes. -/
def Z (n : Nat) : List Value := (madeCells #[.int .u8 0] n).toList
theorem Z_len (n : Nat) : (Z n).length = n := by simp [Z, size_madeCells]
theorem Z_block (w : World) (n : Nat) : (w.alloc (.cells (madeCells #[.int .u8 0] n) 5)).heap[w.heap.size]? = some (.cells (Z n).toArray 5 (0, 0)) := by
  rw [heap_alloc_new]; simp [Z]
theorem splice_all (xs : List Int) : splice (Z xs.length) 0 (V xs) = V xs := by
  simp [splice, V_len, Z_len]

/-- The cells of a slice that is read, as the law on copy asks for them. -/
theorem src_of {w w' : World} {a : Option Addr} {xs : List Int} (h : Rd w a xs) (hb : Below w.heap.size w w') (h0 : 0 < (V xs).length) :
    ∃ ad, a = some ad ∧ ∀ j v, (V xs)[j]? = some v → w'.cell? (ad.add j) = some v := by
  rw [V_len] at h0
  obtain ⟨b, off, rfl, hc⟩ := h h0
  refine ⟨_, rfl, fun j v hj => ?_⟩
  have hlt : j < xs.length := by
    rcases Nat.lt_or_ge j xs.length with g | g
    · exact g
    · rw [List.getElem?_eq_none (by rw [V_len]; exact g)] at hj; cases hj
  rw [V_get xs j hlt] at hj
  have hcj := hc j hlt
  have hbl : b < w.heap.size := World.block_lt_of_cell? w _ hcj
  rw [← hj, ← hcj, WideShapes.add_plain]
  exact hb.cell (p := ⟨b, off + j, none⟩) hbl

theorem own_row {B g : Nat} {w : World} {xs : List Int} (h : w.heap[g]? = some (.cells (V xs).toArray 5 (0, 0))) (hB : B ≤ g) (hm : xs.length ≤ maxLen) : Own B w (.slice (some ⟨g, 0, none⟩) xs.length xs.length) xs :=
  ⟨by rw [V_len]; omega, .inr ⟨g, xs.length, _, rfl, hB, h, Nat.le_refl _, hm, by simp [V_len], by simp [V_len, List.take_of_length_le]⟩⟩

set_option maxHeartbeats 400000 in
/-- zzClone of a slice that is not nil. -/
theorem clone22 (ad : Addr) (c : Nat) (xs : List Int) (w : World) (hl : xs.length ≤ 4194304) (hR : Rd w (some ad) xs) :
    Calls Trym.prog 22 #[.slice (some ad) xs.length c] w fun e w' => ∃ v, e = .returned v ∧ Own w.heap.size w' v xs ∧ Below w.heap.size w w' := by
  have hmk := run_make_row' (P := Trym.prog) 31 5 (.int .u8 0) 1 Trym.underlying31 info5 rfl .i64 .i64 xs.length (by omega) (by omega)
  have q31 : ∀ (w : World) (a : Option Addr) (n c n' c' : Nat), (binOp .eql 31 (.slice a n c) (.slice none n' c')).run Trym.prog w = .ok (.bool a.isNone) w := fun w a n c n' c' => Lib.run_eql_slice_nil w _ _ a n c n' c' Trym.underlying31
  have hB : Below w.heap.size w (w.alloc (.cells (madeCells #[.int .u8 0] xs.length) 5)) := (Below.refl _ _).alloc (Nat.le_refl _) _
  have HS : Hid _ := hid (src_of hR hB)
  have HB : Hid _ := hid hB
  clear hR hB
  go_enter Trym.func22, Trym.ntmps22
  go_wp2_with (refine wpList_copy_splice rfl (.tmp 9) (.tmp 10) 31 31 rfl 5 Trym.underlying31 size5 _ _ _ _ _ _ rfl rfl w.heap.size 0 (Z xs.length) 5 (Z_block w _) (V xs) (by simp [V_len]) (fun h0 => ⟨rfl, HS.out h0⟩) (by simp [V_len, Z_len]) (V_one xs) w.heap.size w HB.out (Nat.le_refl _) ?_; intro w2 HG HB2)
  go_ret
  exact ⟨_, rfl, own_row (by rw [← splice_all xs]; exact HG.out) (Nat.le_refl _) (by simp [maxLen]; omega), HB2⟩

/-- .. of nil. -/
theorem clone22_nil (w : World) : Calls Trym.prog 22 #[.slice none 0 0] w fun e w' => ∃ v, e = .returned v ∧ Own w.heap.size w' v [] ∧ Below w.heap.size w w' := by
  have q31 : ∀ (w : World) (a : Option Addr) (n c n' c' : Nat), (binOp .eql 31 (.slice a n c) (.slice none n' c')).run Trym.prog w = .ok (.bool a.isNone) w := fun w a n c n' c' => Lib.run_eql_slice_nil w _ _ a n c n' c' Trym.underlying31
  go_enter Trym.func22, Trym.ntmps22
  go_wp2
  go_ret
  exact ⟨_, rfl, World.ownsRow_nil _ _ _ _, Below.refl _ _⟩

/-- .. of a slice that the call owns. -/
theorem clone22_own (B : Nat) (v : Value) (xs : List Int) (w : World) (hl : xs.length ≤ 4194304) (hO : Own B w v xs) :
    Calls Trym.prog 22 #[v] w fun e w' => ∃ v, e = .returned v ∧ Own w.heap.size w' v xs ∧ Below w.heap.size w w' := by
  obtain ⟨a, c, rfl, hc, _, hR, h⟩ := hO.form
  rcases h with ⟨rfl, rfl⟩ | ⟨g, rfl, _, _⟩
  · obtain rfl : xs = [] := List.eq_nil_of_length_eq_zero (by omega)
    exact clone22_nil w
  · exact clone22 _ c xs w hl hR

/-- What the two copies lay. -/
theorem splice_two (xs ys : List Int) : splice (splice (Z (xs.length + ys.length)) 0 (V xs)) xs.length (V ys) = V (xs ++ ys) := by
  have h1 : splice (Z (xs.length + ys.length)) 0 (V xs) = V xs ++ (Z (xs.length + ys.length)).drop xs.length := by simp [splice, V_len]
  rw [h1]
  unfold splice
  rw [List.take_left' (V_len xs), V_append, List.drop_of_length_le (by simp [V_len, Z_len]), List.append_nil]
theorem splice_one_len (xs ys : List Int) : (splice (Z (xs.length + ys.length)) 0 (V xs)).length = xs.length + ys.length := by
  rw [length_splice _ _ _ (by simp [V_len, Z_len])]
  exact Z_len _

theorem len_min (xs : List Int) (m : Nat) (h : xs.length ≤ m) : (V xs).length = Nat.min xs.length m := by rw [V_len]; exact (Nat.min_eq_left h).symm

set_option maxHeartbeats 400000 in
/-- zzConcat, the second slice not empty. -/
theorem concat23_pos (a b : Option Addr) (c d : Nat) (xs ys : List Int) (w : World) (hx : xs.length ≤ 4194304) (hy : ys.length ≤ 4194304) (hy0 : 0 < ys.length) (hA : Rd w a xs) (hB : Rd w b ys) :
    Calls Trym.prog 23 #[.slice a xs.length c, .slice b ys.length d] w fun e w' => ∃ v, e = .returned v ∧ Own w.heap.size w' v (xs ++ ys) ∧ Below w.heap.size w w' := by
  have hmk := run_make_row' (P := Trym.prog) 31 5 (.int .u8 0) 1 Trym.underlying31 info5 rfl .i64 .i64 (xs.length + ys.length) (by omega) (by omega)
  have ec : ((xs.length + ys.length : Nat) : Int) = (xs.length : Int) + (ys.length : Int) := by omega
  rw [ec] at hmk
  clear ec
  have hB0 : Below w.heap.size w (w.alloc (.cells (madeCells #[.int .u8 0] (xs.length + ys.length)) 5)) := (Below.refl _ _).alloc (Nat.le_refl _) _
  have HS1 : Hid _ := hid (src_of hA hB0)
  have HS2 : Hid (∀ w2, Below w.heap.size w w2 → 0 < (V ys).length → ∃ ad, b = some ad ∧ ∀ j v, (V ys)[j]? = some v → w2.cell? (ad.add j) = some v) := hid (fun w2 h2 => src_of hB h2)
  have HB : Hid _ := hid hB0
  have hy1 : ys ≠ [] := fun e => by rw [e] at hy0; simp at hy0
  clear hA hB hB0
  go_enter Trym.func23, Trym.ntmps23
  go_wp2_with (first
    | (refine wpList_copy_splice rfl (.tmp 12) (.tmp 13) 31 31 rfl 5 Trym.underlying31 size5 _ _ _ _ _ _ rfl rfl w.heap.size 0 (Z (xs.length + ys.length)) 5 (Z_block w _) (V xs) (len_min xs _ (by omega)) (fun h0 => ⟨rfl, HS1.out h0⟩) (by simp [V_len, Z_len]) (V_one xs) w.heap.size w HB.out (Nat.le_refl _) ?_; intro w2 HG HB2)
    | (refine wpList_copy_splice rfl (.tmp 18) (.tmp 19) 31 31 rfl 5 Trym.underlying31 size5 _ _ _ _ _ _ rfl rfl w.heap.size xs.length (splice (Z (xs.length + ys.length)) 0 (V xs)) 5 HG.out (V ys) (len_min ys _ (by omega)) (fun h0 => ⟨rfl, HS2.out _ HB2 h0⟩) (by rw [V_len, splice_one_len]; omega) (V_one ys) w.heap.size w HB2 (Nat.le_refl _) ?_; intro w3 HG3 HB3))
  go_ret
  have e3 := HG3.out
  rw [splice_two] at e3
  have R := own_row e3 (Nat.le_refl w.heap.size) (by simp [maxLen]; omega)
  rw [List.length_append] at R
  exact ⟨_, rfl, R, HB3⟩

set_option maxHeartbeats 400000 in
/-- .. and empty. -/
theorem concat23_nil (a b : Option Addr) (c d : Nat) (xs : List Int) (w : World) (hx : xs.length ≤ 4194304) (hA : Rd w a xs) :
    Calls Trym.prog 23 #[.slice a xs.length c, .slice b 0 d] w fun e w' => ∃ v, e = .returned v ∧ Own w.heap.size w' v xs ∧ Below w.heap.size w w' := by
  have hmk := run_make_row' (P := Trym.prog) 31 5 (.int .u8 0) 1 Trym.underlying31 info5 rfl .i64 .i64 xs.length (by omega) (by omega)
  have hB0 : Below w.heap.size w (w.alloc (.cells (madeCells #[.int .u8 0] xs.length) 5)) := (Below.refl _ _).alloc (Nat.le_refl _) _
  have HS1 : Hid _ := hid (src_of hA hB0)
  have HB : Hid _ := hid hB0
  clear hA hB0
  go_enter Trym.func23, Trym.ntmps23
  go_wp2_with (first
    | (refine wpList_copy_splice rfl (.tmp 12) (.tmp 13) 31 31 rfl 5 Trym.underlying31 size5 _ _ _ _ _ _ rfl rfl w.heap.size 0 (Z xs.length) 5 (Z_block w _) (V xs) (len_min xs _ (by omega)) (fun h0 => ⟨rfl, HS1.out h0⟩) (by simp [V_len, Z_len]) (V_one xs) w.heap.size w HB.out (Nat.le_refl _) ?_; intro w2 HG HB2)
    | (refine wpList_copy_nothing rfl (.tmp 18) (.tmp 19) 31 31 rfl 5 Trym.underlying31 size5 _ _ _ _ _ _ rfl rfl rfl ?_))
  go_ret
  exact ⟨_, rfl, own_row (by rw [← splice_all xs]; exact HG.out) (Nat.le_refl _) (by simp [maxLen]; omega), HB2⟩

/-- zzConcat. -/
theorem concat23 (B B' : Nat) (v v' : Value) (xs ys : List Int) (w : World) (hx : xs.length ≤ 4194304) (hy : ys.length ≤ 4194304) (hA : Own B w v xs) (hB : Own B' w v' ys) :
    Calls Trym.prog 23 #[v, v'] w fun e w' => ∃ v, e = .returned v ∧ Own w.heap.size w' v (xs ++ ys) ∧ Below w.heap.size w w' := by
  obtain ⟨a, c, rfl, _, _, hRa, _⟩ := hA.form
  obtain ⟨b, d, rfl, _, _, hRb, _⟩ := hB.form
  by_cases h0 : ys = []
  · subst h0
    rw [List.append_nil]
    exact concat23_nil a b c d xs w hx hRa
  · exact concat23_pos a b c d xs ys w hx hy (by rcases Nat.eq_zero_or_pos ys.length with h | h; exact absurd (List.eq_nil_of_length_eq_zero h) h0; exact h) hRa hRb
end Go.Proofs.Qxb6000712aMods.App
