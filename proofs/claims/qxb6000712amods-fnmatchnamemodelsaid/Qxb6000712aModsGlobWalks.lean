/-
  THE WALK OF zzGlob (17).
-/
import Derived.Test.Qxb6000712aModsProg
import Derived.Test.Qxb6000712aModsGlobPlain
import Derived.Test.Qxb6000712aModsMatchWalks
import Derived.WalkKit
import Derived.ProofKit
import Derived.WalkSpells
import Derived.Deep.OwnRows
namespace Go.Proofs.Qxb6000712aMods.Mat
open Go.RowKit

theorem info4 : (Trym.prog.info? 4).map (fun i => (i.zero, i.size, i.bytes)) = some (some (.bool false), 1, 1) := by kernel_rfl

/-- WHAT HOLDS OF THE TWO ROWS: block X holds the row f; block Y holds some bools; nothing that was there has turned. -/
structure Two (w wr : World) (X Y n : Nat) (f : Nat → Bool) (g : Nat → Bool) : Prop where
  since : w.Since w.heap.size wr
  ne : X ≠ Y
  x0 : w.heap.size ≤ X
  y0 : w.heap.size ≤ Y
  prev : wr.rowIs X 4 n (fun j => .bool (f j))
  cur : wr.rowIs Y 4 n (fun j => .bool (g j))

/-- A store into the second row. -/
theorem Two.set {w wr : World} {X Y n : Nat} {f g : Nat → Bool} (h : Two w wr X Y n f g) (k : Nat) (v : Bool) {g' : Nat → Bool} (e : ∀ j, g' j = if j = k then v else g j) : Two w (wr.setCell ⟨Y, k, none⟩ (.bool v)) X Y n f g' :=
  ⟨h.since.setCell h.y0 _, h.ne, h.x0, h.y0, h.prev.setOther h.ne _, (h.cur.set k _).congr (fun j _ => by rw [e j]; split <;> rfl)⟩
/-- The rows change places. -/
theorem Two.swap {w wr : World} {X Y n : Nat} {f g : Nat → Bool} (h : Two w wr X Y n f g) : Two w wr Y X n g f :=
  ⟨h.since, fun e => h.ne e.symm, h.y0, h.x0, h.cur, h.prev⟩
theorem Two.congr {w wr : World} {X Y n : Nat} {f g f' g' : Nat → Bool} (h : Two w wr X Y n f g) (e : ∀ j, j < n → f j = f' j) (e' : ∀ j, j < n → g j = g' j) : Two w wr X Y n f' g' :=
  ⟨h.since, h.ne, h.x0, h.y0, h.prev.congr (fun j hj => by rw [e j hj]), h.cur.congr (fun j hj => by rw [e' j hj])⟩

/-- What the two makes and the first store lay. -/
theorem two_start (w : World) (n : Nat) : Two w ((w.alloc (.cells ((madeCells #[.bool false] (n + 1)).setIfInBounds 0 (.bool true)) 4)).alloc (.cells (madeCells #[.bool false] (n + 1)) 4)) w.heap.size (w.heap.size + 1) (n + 1) row0 (fun _ => false) := by
  refine ⟨((World.Since.refl _ _).alloc (Nat.le_refl _) _).alloc (by simp) _, by omega, Nat.le_refl _, by omega, ?_, ?_⟩
  · have h := World.rowIs_alloc w ((madeCells #[.bool false] (n + 1)).setIfInBounds 0 (.bool true)) 4 (fun j => .bool (row0 j)) (fun i hi => by
      simp [size_madeCells] at hi
      rw [Array.getElem?_setIfInBounds]
      by_cases e : i = 0
      · subst e
        simp [size_madeCells, row0]
      · rw [if_neg (fun h => e h.symm)]
        simp [madeCells, hi, Nat.mod_one, row0, e])
    simp only [Array.size_setIfInBounds, size_madeCells] at h
    exact h.alloc _
  · have h := World.rowIs_made (w.alloc (.cells ((madeCells #[.bool false] (n + 1)).setIfInBounds 0 (.bool true)) 4)) (.bool false) (n + 1) 4
    simpa using h

theorem two_below {w wr : World} {X Y n : Nat} {f g : Nat → Bool} (h : Two w wr X Y n f g) : Below w.heap.size w wr := ⟨h.since.os, h.since.tape, h.since.output, h.since.size, h.since.block⟩

/-- A byte of the name, as the walk asks of it. -/
theorem lits_yes (b : ByteArray) (c : UInt8) (f : Nat → Bool) (m : Nat) (hm : m < b.size) (hf : f m = true) : ((b[m].toNat : Int) == (c.toNat : Int)) = lits (L b) c f (m + 1) := by
  have e : (L b)[m]? = some b[m] := by rw [List.getElem?_eq_getElem (by simpa using hm)]; rfl
  simp only [lits, hf, e, Bool.true_and, Option.some.injEq]
  rw [Bool.eq_iff_iff, u8_eq, decide_eq_true_eq]
theorem lits_no (b : ByteArray) (c : UInt8) (f : Nat → Bool) (m : Nat) (hf : f m = false) : false = lits (L b) c f (m + 1) := by
  simp [lits, hf]

/-- One cell more is filled. -/
theorem fill_step {w wr : World} {X Y n : Nat} {f g H : Nat → Bool} {m : Nat} (h : Two w wr X Y n f g) (hg : Hid (∀ j, j ≤ m → g j = H j)) {v : Bool} (hv : v = H (m + 1)) :
    Two w (wr.setCell ⟨Y, m + 1, none⟩ (.bool v)) X Y n f (fun j => if j = m + 1 then v else g j) ∧ Hid (∀ j, j ≤ m + 1 → (fun j => if j = m + 1 then v else g j) j = H j) := by
  refine ⟨h.set (m + 1) v (fun j => rfl), hid (fun j hj => ?_)⟩
  by_cases e : j = m + 1
  · subst e; simp [hv]
  · simp only [if_neg e]
    exact hg.out j (by omega)
/-- The row is full. -/
theorem fill_done {w wr : World} {X Y n : Nat} {f g H R : Nat → Bool} {m : Nat} (h : Two w wr X Y (n + 1) f g) (hg : Hid (∀ j, j ≤ m → g j = H j)) (hm : ¬ m < n) (hR : R = H) : Two w wr Y X (n + 1) R f := by
  subst hR
  exact h.swap.congr (fun j hj => hg.out j (by omega)) (fun j _ => rfl)
theorem next_star (b : ByteArray) (f R : Nat → Bool) (c : UInt8) (h : R = nextRow (L b) f c) (hc : ((c.toNat : Int) == 42) = true) : R = stars f := by
  rw [h, nextRow, if_pos ((u8_star c).1 hc)]
theorem next_lit (b : ByteArray) (f R : Nat → Bool) (c : UInt8) (h : R = nextRow (L b) f c) (hc : ((c.toNat : Int) == 42) = false) : R = lits (L b) c f := by
  rw [h, nextRow, if_neg (u8_nostar c hc)]

set_option maxHeartbeats 800000 in
theorem glob17 (a b : ByteArray) (h : a.size + b.size ≤ 1048576) (w : World) :
    Calls Trym.prog 17 #[.string a, .string b] w fun e w' => Ans a b e ∧ Below w.heap.size w w' := by
  have hmk := run_make_row' (P := Trym.prog) 41 4 (.bool false) 1 Trym.underlying41 info4 rfl .i64 .i64 (b.size + 1) (by omega) (by omega)
  have ec : ((b.size + 1 : Nat) : Int) = (b.size : Int) + 1 := by omega
  rw [ec] at hmk
  clear ec
  have hst1 : ∀ o, ((w.alloc (.cells (madeCells #[.bool false] (b.size + 1)) 4)).alloc o).cell? ⟨w.heap.size, 0, none⟩ = some (.bool false) := fun o => ((World.rowIs_made w (.bool false) (b.size + 1) 4).alloc o).cell (by omega)
  have hst2 : ∀ o, ((w.alloc (.cells (madeCells #[.bool false] (b.size + 1)) 4)).alloc o).frozen? ⟨w.heap.size, 0, none⟩ = false := fun o => ((World.rowIs_made w (.bool false) (b.size + 1) 4).alloc o).frozen 0
  go_enter Trym.func17, Trym.ntmps17
  go_wp2
  clear hmk hst1 hst2
  go_loopw [6, 7, 8] (fun s6 s7 s8 wr => ∃ (k X Y : Nat) (g : Nat → Bool), k ≤ a.size ∧ s6 = .slice (some ⟨X, 0, none⟩) (b.size + 1) (b.size + 1) ∧ s7 = .slice (some ⟨Y, 0, none⟩) (b.size + 1) (b.size + 1) ∧ s8 = .int .i64 k ∧
      Two w wr X Y (b.size + 1) (rowOf (L b) ((L a).take k)) g) (fun _ _ i _ => a.size - (intOf i).toNat)
  case atStart => exact ⟨0, w.heap.size, w.heap.size + 1, _, Nat.zero_le _, rfl, rfl, rfl, two_start w b.size⟩
  case round =>
    obtain ⟨k, X, Y, g, hk, rfl, rfl, rfl, hT⟩ := hrel
    by_cases hlt : k < a.size
    · have HN : Hid (rowOf (L b) ((L a).take (k + 1)) = nextRow (L b) (rowOf (L b) ((L a).take k)) a[k]) := hid (rowOf_next (L b) (L a) k (by simpa using hlt))
      generalize rowOf (L b) ((L a).take k) = f at *
      have p0 : wr.cell? ⟨X, 0, none⟩ = some (.bool (f 0)) := hT.prev.cell (by omega)
      have c0 : wr.cell? ⟨Y, 0, none⟩ = some (.bool (g 0)) := hT.cur.cell (by omega)
      have z0 : wr.frozen? ⟨Y, 0, none⟩ = false := hT.cur.frozen 0
      by_cases hs : ((a[k].toNat : Int) == 42) = true
      · have T1 : Two w (wr.setCell ⟨Y, 0, none⟩ (.bool (f 0))) X Y (b.size + 1) f (fun j => if j = 0 then f 0 else g j) := hT.set 0 (f 0) (fun j => rfl)
        go_wp2
        clear p0 c0 z0
        go_loopw [10] (fun s10 wi => ∃ (m : Nat) (g : Nat → Bool), m ≤ b.size ∧ s10 = .int .i64 ((m : Int) + 1) ∧ Two w wi X Y (b.size + 1) f g ∧ Hid (∀ j, j ≤ m → g j = stars f j)) (fun s _ => b.size + 1 - (intOf s).toNat)
        case atStart => exact ⟨0, _, Nat.zero_le _, rfl, T1, hid (fun j hj => (by have e : j = 0 := (by omega); simp [e, stars]))⟩
        case round =>
          clear T1 hT
          obtain ⟨m, g, hm, rfl, hT, HG⟩ := hrel
          by_cases hmn : m < b.size
          · have q1 : wr.cell? ⟨X, m + 1, none⟩ = some (.bool (f (m + 1))) := hT.prev.cell (by omega)
            have q2 : wr.cell? ⟨Y, m, none⟩ = some (.bool (g m)) := hT.cur.cell (by omega)
            have q3 : wr.cell? ⟨Y, m + 1, none⟩ = some (.bool (g (m + 1))) := hT.cur.cell (by omega)
            have q4 : wr.frozen? ⟨Y, m + 1, none⟩ = false := hT.cur.frozen _
            by_cases hf : f (m + 1) = true
            · have S := fill_step hT HG (v := true) (by simp [stars, hf])
              go_wp2
              go_roundw
              case rel => exact ⟨m + 1, _, by omega, by go_num, S.1, S.2⟩
              case measure => simp [intOf]; omega
            · have hf' : f (m + 1) = false := by simpa using hf
              have S := fill_step hT HG (v := g m) (by rw [HG.out m (Nat.le_refl _)]; simp [stars, hf'])
              clear hf
              go_wp2
              go_roundw
              case rel => exact ⟨m + 1, _, by omega, by go_num, S.1, S.2⟩
              case measure => simp [intOf]; omega
          · have S := fill_done hT HG hmn (next_star b f _ a[k] HN.out hs)
            go_wp2
            go_roundw
            case rel => exact ⟨k + 1, Y, X, _, by omega, rfl, rfl, by go_num, S⟩
            case measure => simp [intOf]; omega
      · have hs' : ((a[k].toNat : Int) == 42) = false := by simpa using hs
        have T1 : Two w (wr.setCell ⟨Y, 0, none⟩ (.bool false)) X Y (b.size + 1) f (fun j => if j = 0 then false else g j) := hT.set 0 false (fun j => rfl)
        clear hs p0
        go_wp2
        clear c0 z0
        go_loopw [11] (fun s11 wi => ∃ (m : Nat) (g : Nat → Bool), m ≤ b.size ∧ s11 = .int .i64 ((m : Int) + 1) ∧ Two w wi X Y (b.size + 1) f g ∧ Hid (∀ j, j ≤ m → g j = lits (L b) a[k] f j)) (fun s _ => b.size + 1 - (intOf s).toNat)
        case atStart => exact ⟨0, _, Nat.zero_le _, rfl, T1, hid (fun j hj => (by have e : j = 0 := (by omega); simp [e, lits]))⟩
        case round =>
          clear T1 hT
          obtain ⟨m, g, hm, rfl, hT, HG⟩ := hrel
          by_cases hmn : m < b.size
          · have q1 : wr.cell? ⟨X, m, none⟩ = some (.bool (f m)) := hT.prev.cell (by omega)
            have q3 : wr.cell? ⟨Y, m + 1, none⟩ = some (.bool (g (m + 1))) := hT.cur.cell (by omega)
            have q4 : wr.frozen? ⟨Y, m + 1, none⟩ = false := hT.cur.frozen _
            by_cases hf : f m = true
            · have S := fill_step hT HG (lits_yes b a[k] f m hmn hf)
              go_wp2
              go_roundw
              case rel => exact ⟨m + 1, _, by omega, by go_num, S.1, S.2⟩
              case measure => simp [intOf]; omega
            · have hf' : f m = false := by simpa using hf
              have S := fill_step hT HG (lits_no b a[k] f m hf')
              clear hf
              go_wp2
              go_roundw
              case rel => exact ⟨m + 1, _, by omega, by go_num, S.1, S.2⟩
              case measure => simp [intOf]; omega
          · have S := fill_done hT HG hmn (next_lit b f _ a[k] HN.out hs')
            go_wp2
            go_roundw
            case rel => exact ⟨k + 1, Y, X, _, by omega, rfl, rfl, by go_num, S⟩
            case measure => simp [intOf]; omega
    · have q : wr.cell? ⟨X, b.size, none⟩ = some (.bool (rowOf (L b) ((L a).take k) b.size)) := hT.prev.cell (by omega)
      have HB := two_below hT
      have HA : Hid (rowOf (L b) ((L a).take k) b.size = true ↔ G (L a) (L b)) := hid (by
        rw [List.take_of_length_le (by simp; omega)]
        have := rowOf_iff (L b) (L a)
        simpa using this)
      generalize rowOf (L b) ((L a).take k) b.size = r at *
      go_wp2
      go_ret
      exact ⟨Ans.of r rfl HA.out, HB⟩

theorem same_ans {a b : ByteArray} {r r' : Bool} (h : r = true ↔ G (L a) (L b)) (h' : r' = true ↔ G (L a) (L b)) : (r == r') = true := by
  rw [beq_iff_eq, Bool.eq_iff_iff, h, h']
theorem below_draws {w w' : World} {n : Nat} (h : Below (w.drewN n).heap.size (w.drewN n) w') : Below w.heap.size w w' := ⟨h.os, h.tape, h.output, h.size, h.block⟩

set_option maxHeartbeats 400000 in
/-- FnMatchNameModel. -/
theorem law6 (a b : ByteArray) (ha : a.size ≤ maxLen) (hb : b.size ≤ maxLen) (w : World) :
    Calls Trym.prog 6 #[.string a, .string b] w fun e w' => e = .returned (.bool true) ∧ Below w.heap.size w w' := by
  by_cases h : a.size + b.size ≤ 1048576
  · by_cases h1 : a.size ≤ 4096
    · by_cases h2 : b.size ≤ 4096
      · go_enter Trym.func6, Trym.ntmps6
        go_wp2_with (first | (go_at_call 15; refine (bytes15_yes a b h _).mono ?_; rintro e w' ⟨rfl, rfl⟩) | (go_at_call 16; refine (match16 a b h _).mono ?_; rintro e w' ⟨⟨r, rfl, hr⟩, n, rfl⟩) | (go_at_call 17; refine (glob17 a b h _).mono ?_; rintro e w' ⟨⟨r', rfl, hr'⟩, hbel⟩))
        go_ret
        exact ⟨ret_bool (same_ans hr hr'), below_draws hbel⟩
      · go_enter Trym.func6, Trym.ntmps6
        go_wp2_with (go_at_call 15; refine (bytes15_yes a b h _).mono ?_; rintro e w' ⟨rfl, rfl⟩)
        go_ret
        exact ⟨rfl, Below.refl _ _⟩
    · go_enter Trym.func6, Trym.ntmps6
      go_wp2_with (go_at_call 15; refine (bytes15_yes a b h _).mono ?_; rintro e w' ⟨rfl, rfl⟩)
      go_ret
      exact ⟨rfl, Below.refl _ _⟩
  · go_enter Trym.func6, Trym.ntmps6
    go_wp2_with (go_at_call 15; refine (bytes15_no a b h _ ha hb).mono ?_; rintro e w' ⟨rfl, rfl⟩)
    go_ret
    exact ⟨rfl, Below.refl _ _⟩
end Go.Proofs.Qxb6000712aMods.Mat
