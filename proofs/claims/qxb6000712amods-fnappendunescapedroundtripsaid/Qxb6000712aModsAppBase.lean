/-
  WORDS FOR THE WALKS OF appendUnescaped AND ITS LAWS: a slice of bytes that is read; one that the call owns; what a run of appends leaves.
-/
import Derived.Test.Qxb6000712aModsProg
import Derived.Test.Qxb6000712aModsAppPlain
import Derived.WalkKit
import Derived.ProofKit
import Derived.WalkSpells
import Derived.WalkSmall
import Derived.Maps.AppendAt
namespace Go.Proofs.Qxb6000712aMods.App
open Go.RowKit

theorem hid {p : Prop} (h : p) : Hid p := h
theorem ret_bool {a b : Bool} (h : a = b) : Ending.returned (.bool a) = .returned (.bool b) := by rw [h]
theorem info5 : (Trym.prog.info? 5).map (fun i => (i.zero, i.size, i.bytes)) = some (some (.int .u8 0), 1, 1) := by kernel_rfl
theorem size5 : (Trym.prog.info? 5).map (·.size) = some 1 := by kernel_rfl

/-- The cells of bytes. -/
def V (xs : List Int) : List Value := xs.map (Value.int .u8)
theorem V_len (xs : List Int) : (V xs).length = xs.length := by simp [V]
theorem V_append (xs ys : List Int) : V (xs ++ ys) = V xs ++ V ys := by simp [V]
theorem V_get (xs : List Int) (i : Nat) (h : i < xs.length) : (V xs)[i]? = some (.int .u8 xs[i]) := by simp [V, h]
theorem V_one (xs : List Int) : ∀ u ∈ V xs, u.oneCell' = true := by
  intro u hu
  simp only [V, List.mem_map] at hu
  obtain ⟨x, _, rfl⟩ := hu
  rfl

/-- A SLICE OF BYTES THAT CAN BE READ: at address a lie the bytes xs. -/
def Rd (w : World) (a : Option Addr) (xs : List Int) : Prop :=
  0 < xs.length → ∃ b off, a = some ⟨b, off, none⟩ ∧ ∀ i (h : i < xs.length), w.cell? ⟨b, off + i, none⟩ = some (.int .u8 xs[i])

/-- A SLICE OF BYTES THAT THE CALL OWNS, in a block from B on. -/
def Own (B : Nat) (w : World) (v : Value) (xs : List Int) : Prop := w.ownsRow B 5 1 v xs.length (V xs)

theorem Own.form {B : Nat} {w : World} {v : Value} {xs : List Int} (h : Own B w v xs) :
    ∃ a c, v = .slice a xs.length c ∧ xs.length ≤ c ∧ c ≤ maxLen ∧ Rd w a xs ∧ ((a = none ∧ c = 0) ∨ ∃ g, a = some ⟨g, 0, none⟩ ∧ B ≤ g ∧ g < w.heap.size) := by
  have h' := h
  unfold Own at h'
  rcases h'.2 with ⟨hv, hn⟩ | ⟨g, cap, cur, hv, hB, hg, hnc, hcm, hcs, htake⟩
  · exact ⟨none, 0, by rw [hv, hn], by omega, by simp [maxLen], fun h0 => by omega, .inl ⟨rfl, rfl⟩⟩
  · refine ⟨some ⟨g, 0, none⟩, cap, hv, hnc, hcm, fun _ => ⟨g, 0, rfl, fun i hi => ?_⟩, .inr ⟨g, rfl, hB, (Array.getElem?_eq_some_iff.1 hg).1⟩⟩
    subst hv
    rw [Nat.zero_add, World.ownsRow.cellAt h' i (by omega), V_get xs i hi]

theorem Own.mono {B B' : Nat} {w : World} {v : Value} {xs : List Int} (h : Own B w v xs) (hB : B' ≤ B) : Own B' w v xs := by
  unfold Own at h ⊢
  refine ⟨h.1, ?_⟩
  rcases h.2 with h2 | ⟨g, cap, cur, h1, h2, h3⟩
  · exact .inl h2
  · exact .inr ⟨g, cap, cur, h1, Nat.le_trans hB h2, h3⟩

/-- Where the new value lies: where the old one lay, or in a block that was not there. -/
def Lies (w : World) (v v' : Value) : Prop := v'.ownBlock = v.ownBlock ∨ ∃ k, v'.ownBlock = some k ∧ w.heap.size ≤ k

/-- WHAT A RUN OF APPENDS onto v0 (in the world w0) HAS LEFT: the value v owns xs; but for v0's own row nothing that was there has turned. -/
structure St (B : Nat) (w0 : World) (v0 : Value) (wr : World) (v : Value) (xs : List Int) : Prop where
  own : Own B wr v xs
  grown : w0.grownBy wr v0.ownBlock
  lies : Lies w0 v0 v
  base : B ≤ w0.heap.size

theorem St.start {B : Nat} {w : World} {v : Value} {xs : List Int} (h : Own B w v xs) (hb : B ≤ w.heap.size) : St B w v w v xs :=
  ⟨h, ⟨rfl, rfl, rfl, Nat.le_refl _, fun _ _ _ => rfl⟩, .inl rfl, hb⟩

/-- One append more. -/
theorem St.append {B : Nat} {w0 wr w1 : World} {v0 v v' : Value} {xs ys : List Int} {o : Obj} {n : Nat} {news : List Value} (h : St B w0 v0 wr v xs)
    (hown : w1.ownsRow B 5 1 v' n (V xs ++ news)) (hgrow : (wr.alloc o).grownBy w1 v.ownBlock) (hat : v'.ownBlock = v.ownBlock ∨ v'.ownBlock = some (wr.alloc o).heap.size) (hn : n = xs.length + ys.length) (hnews : news = V ys) :
    St B w0 v0 w1 v' (xs ++ ys) := by
  have hs : w0.heap.size ≤ wr.heap.size := h.grown.size
  have hs1 : (wr.alloc o).heap.size = wr.heap.size + 1 := by simp
  refine ⟨?_, ⟨hgrow.os.trans h.grown.os, hgrow.tape.trans h.grown.tape, hgrow.output.trans h.grown.output, by have := hgrow.size; omega, fun k hk hne => ?_⟩, ?_, h.base⟩
  · unfold Own
    rw [V_append, List.length_append, ← hn, ← hnews]
    exact hown
  · have e1 : some k ≠ v.ownBlock := by
      rcases h.lies with e | ⟨q, e, hq⟩
      · rw [e]; exact hne
      · rw [e]; intro e2; have := Option.some.inj e2; omega
    rw [hgrow.block k (by omega) e1, Below.heap_alloc wr o k (by omega)]
    exact h.grown.block k hk hne
  · rcases hat with e | e
    · rcases h.lies with e2 | ⟨q, e2, hq⟩
      · exact .inl (e.trans e2)
      · exact .inr ⟨q, e.trans e2, hq⟩
    · exact .inr ⟨_, e, by omega⟩

/-- Nothing below B has turned. -/
theorem St.below {B : Nat} {w0 wr : World} {v0 v : Value} {xs : List Int} (h : St B w0 v0 wr v xs) (hv : ∀ k, v0.ownBlock = some k → B ≤ k) : Below B w0 wr :=
  ⟨h.grown.os, h.grown.tape, h.grown.output, h.grown.size, fun k hk => h.grown.block k (by have := h.base; omega) (fun e => by have := hv k e.symm; omega)⟩

theorem Own.block {B : Nat} {w : World} {v : Value} {xs : List Int} (h : Own B w v xs) : ∀ k, v.ownBlock = some k → B ≤ k ∧ k < w.heap.size := World.ownsRow.lt h

/-- What is read in another block is still there. -/
theorem Rd.grown {w w' : World} {row : Option Nat} {a : Option Addr} {xs : List Int} (h : Rd w a xs) (hg : w.grownBy w' row) (hne : ∀ x, a = some x → some x.block ≠ row) : Rd w' a xs := by
  intro h0
  obtain ⟨b, off, ha, hc⟩ := h h0
  exact ⟨b, off, ha, fun i hi => hg.cell (hc i hi) (hne ⟨b, off, none⟩ ha)⟩
theorem Rd.below {B : Nat} {w w' : World} {a : Option Addr} {xs : List Int} (h : Rd w a xs) (hb : Below B w w') (hlt : ∀ x, a = some x → x.block < B) : Rd w' a xs := by
  intro h0
  obtain ⟨b, off, ha, hc⟩ := h h0
  exact ⟨b, off, ha, fun i hi => by rw [hb.cell (p := ⟨b, off + i, none⟩) (hlt ⟨b, off, none⟩ ha)]; exact hc i hi⟩
theorem Own.below {B C : Nat} {w w' : World} {v : Value} {xs : List Int} (h : Own B w v xs) (hb : Below C w w') (hlt : ∀ k, v.ownBlock = some k → k < C) : Own B w' v xs := by
  unfold Own at h ⊢
  refine ⟨h.1, ?_⟩
  rcases h.2 with h2 | ⟨g, cap, cur, h1, h2, h3, h4⟩
  · exact .inl h2
  · exact .inr ⟨g, cap, cur, h1, h2, by rw [hb.block g (hlt g (by rw [h1]; rfl))]; exact h3, h4⟩
theorem Own.grown {B : Nat} {w w' : World} {row : Option Nat} {v : Value} {xs : List Int} (h : Own B w v xs) (hg : w.grownBy w' row) (hne : v.ownBlock = none ∨ v.ownBlock ≠ row) : Own B w' v xs := World.ownsRow.kept h hg hne
theorem Rd.drewN {w : World} {a : Option Addr} {xs : List Int} (h : Rd w a xs) (n : Nat) : Rd (w.drewN n) a xs := h
theorem Own.drewN {B : Nat} {w : World} {v : Value} {xs : List Int} (h : Own B w v xs) (n : Nat) : Own B (w.drewN n) v xs := h

/-- The one or two cells that an append lays first. -/
theorem one_new (w : World) (c : Int) : ∀ j u, (V [c])[j]? = some u → (w.alloc (.cells #[.int .u8 c] 5)).cell? ((⟨w.heap.size, 0, none⟩ : Addr).add j) = some u := cell_one_new w (.int .u8 c) 5
theorem two_new (w : World) (c d : Int) : ∀ j u, (V [c, d])[j]? = some u → (w.alloc (.cells #[.int .u8 c, .int .u8 d] 5)).cell? ((⟨w.heap.size, 0, none⟩ : Addr).add j) = some u := cell_two_new w (.int .u8 c) (.int .u8 d) 5

end Go.Proofs.Qxb6000712aMods.App
