/- What Element.Mul leaves in memory: the receiver's cells, and nothing else. Conditions: those of its contract. -/
import Derived.Test.YteohenebjcbliaaLess
import Derived.Below
set_option linter.unusedVariables false
set_option linter.unusedSimpArgs false
namespace Go.Proofs.Yteohenebjcbliaa
open Go.RowKit Slx

/-- The cells of one element are written, the number Z; all else is as it was. -/
structure Wrote (w w' : World) (b o Z : Nat) : Prop where
  os : w'.os = w.os
  tape : w'.tape = w.tape
  output : w'.output = w.output
  size : w'.heap.size = w.heap.size
  block : ∀ k, k ≠ b → w'.heap[k]? = w.heap[k]?
  cells : ∀ i, i < 4 → w'.cell? ⟨b, o + i, none⟩ = some (wd (wordAt Z i))
  rest : ∀ j, j < o ∨ o + 4 ≤ j → w'.cell? ⟨b, j, none⟩ = w.cell? ⟨b, j, none⟩
  frozen : ∀ a, w'.frozen? a = w.frozen? a
  shape : ∀ k, w'.shape? k = w.shape? k

theorem Wrote.below {w w' : World} {b o Z B : Nat} (h : Wrote w w' b o Z) (hB : B ≤ b) : Below B w w' :=
  ⟨h.os, h.tape, h.output, Nat.le_of_eq h.size.symm, fun k hk => h.block k (by omega)⟩
theorem Wrote.cell {w w' : World} {b o Z : Nat} (h : Wrote w w' b o Z) {a : Addr} (ha : a.block ≠ b) : w'.cell? a = w.cell? a :=
  World.cell?_of_block (w := w) (h.block a.block ha)

theorem shape?_setCell (w : World) (a : Addr) (v : Value) (k : Nat) : (w.setCell a v).shape? k = w.shape? k := by
  simp only [World.shape?, World.setCell, Array.getElem?_modify]
  by_cases h : a.block = k
  · subst h
    rw [if_pos rfl]
    cases hk : w.heap[a.block]? with
    | none => rfl
    | some o => cases o <;> simp <;> split <;> simp
  · rw [if_neg h]

theorem putw_at0 (w : World) (b o : Nat) (z0 z1 z2 z3 : Nat) {v : Value} (hv : w.cell? ⟨b, o + 0, none⟩ = some v) : (putw w b o z0 z1 z2 z3).cell? ⟨b, o + 0, none⟩ = some (wd z0) := by
  unfold putw
  rw [World.cell?_setCell_other _ _ _ _ (show (⟨b, o + 3, none⟩ : Addr) ≠ ⟨b, o + 0, none⟩ by simp)]
  rw [World.cell?_setCell_other _ _ _ _ (show (⟨b, o + 2, none⟩ : Addr) ≠ ⟨b, o + 0, none⟩ by simp)]
  rw [World.cell?_setCell_other _ _ _ _ (show (⟨b, o + 1, none⟩ : Addr) ≠ ⟨b, o + 0, none⟩ by simp)]
  exact World.cell?_setCell_same _ _ _ hv

theorem putw_at1 (w : World) (b o : Nat) (z0 z1 z2 z3 : Nat) {v : Value} (hv : w.cell? ⟨b, o + 1, none⟩ = some v) : (putw w b o z0 z1 z2 z3).cell? ⟨b, o + 1, none⟩ = some (wd z1) := by
  unfold putw
  rw [World.cell?_setCell_other _ _ _ _ (show (⟨b, o + 3, none⟩ : Addr) ≠ ⟨b, o + 1, none⟩ by simp)]
  rw [World.cell?_setCell_other _ _ _ _ (show (⟨b, o + 2, none⟩ : Addr) ≠ ⟨b, o + 1, none⟩ by simp)]
  refine World.cell?_setCell_same _ _ _ (u := v) ?_
  rw [World.cell?_setCell_other _ _ _ _ (show (⟨b, o + 0, none⟩ : Addr) ≠ ⟨b, o + 1, none⟩ by simp)]
  exact hv

theorem putw_at2 (w : World) (b o : Nat) (z0 z1 z2 z3 : Nat) {v : Value} (hv : w.cell? ⟨b, o + 2, none⟩ = some v) : (putw w b o z0 z1 z2 z3).cell? ⟨b, o + 2, none⟩ = some (wd z2) := by
  unfold putw
  rw [World.cell?_setCell_other _ _ _ _ (show (⟨b, o + 3, none⟩ : Addr) ≠ ⟨b, o + 2, none⟩ by simp)]
  refine World.cell?_setCell_same _ _ _ (u := v) ?_
  rw [World.cell?_setCell_other _ _ _ _ (show (⟨b, o + 1, none⟩ : Addr) ≠ ⟨b, o + 2, none⟩ by simp)]
  rw [World.cell?_setCell_other _ _ _ _ (show (⟨b, o + 0, none⟩ : Addr) ≠ ⟨b, o + 2, none⟩ by simp)]
  exact hv

theorem putw_at3 (w : World) (b o : Nat) (z0 z1 z2 z3 : Nat) {v : Value} (hv : w.cell? ⟨b, o + 3, none⟩ = some v) : (putw w b o z0 z1 z2 z3).cell? ⟨b, o + 3, none⟩ = some (wd z3) := by
  unfold putw
  refine World.cell?_setCell_same _ _ _ (u := v) ?_
  rw [World.cell?_setCell_other _ _ _ _ (show (⟨b, o + 2, none⟩ : Addr) ≠ ⟨b, o + 3, none⟩ by simp)]
  rw [World.cell?_setCell_other _ _ _ _ (show (⟨b, o + 1, none⟩ : Addr) ≠ ⟨b, o + 3, none⟩ by simp)]
  rw [World.cell?_setCell_other _ _ _ _ (show (⟨b, o + 0, none⟩ : Addr) ≠ ⟨b, o + 3, none⟩ by simp)]
  exact hv

theorem putw_rest (w : World) (b o : Nat) (z0 z1 z2 z3 : Nat) {j : Nat} (hj : j < o ∨ o + 4 ≤ j) : (putw w b o z0 z1 z2 z3).cell? ⟨b, j, none⟩ = w.cell? ⟨b, j, none⟩ := by
  have hne : ∀ k, k < 4 → (⟨b, o + k, none⟩ : Addr) ≠ ⟨b, j, none⟩ := fun k hk h => by
    have : o + k = j := congrArg Addr.off h
    omega
  unfold putw
  rw [World.cell?_setCell_other _ _ _ _ (hne 3 (by decide)), World.cell?_setCell_other _ _ _ _ (hne 2 (by decide)), World.cell?_setCell_other _ _ _ _ (hne 1 (by decide)), World.cell?_setCell_other _ _ _ _ (hne 0 (by decide))]

theorem putw_block (w : World) (b o : Nat) (z0 z1 z2 z3 : Nat) {k : Nat} (hk : k ≠ b) : (putw w b o z0 z1 z2 z3).heap[k]? = w.heap[k]? := by
  unfold putw
  rw [Below.heap_setCell _ _ _ _ hk, Below.heap_setCell _ _ _ _ hk, Below.heap_setCell _ _ _ _ hk, Below.heap_setCell _ _ _ _ hk]

theorem putw_frozen (w : World) (b o : Nat) (z0 z1 z2 z3 : Nat) (a : Addr) : (putw w b o z0 z1 z2 z3).frozen? a = w.frozen? a := by
  unfold putw
  simp only [World.frozen?_setCell]

theorem putw_shape (w : World) (b o : Nat) (z0 z1 z2 z3 : Nat) (k : Nat) : (putw w b o z0 z1 z2 z3).shape? k = w.shape? k := by
  unfold putw
  simp only [shape?_setCell]

theorem putw_size (w : World) (b o : Nat) (z0 z1 z2 z3 : Nat) : (putw w b o z0 z1 z2 z3).heap.size = w.heap.size := by
  simp [putw, World.setCell]

theorem Wrote.draw {w w' : World} {b o Z : Nat} (h : Wrote w w' b o Z) (d : Nat) : Wrote w { w' with drawn := d } b o Z :=
  ⟨h.os, h.tape, h.output, h.size, h.block, h.cells, h.rest, h.frozen, h.shape⟩
theorem putw_streams (w : World) (b o : Nat) (z0 z1 z2 z3 : Nat) : (putw w b o z0 z1 z2 z3).os = w.os ∧ (putw w b o z0 z1 z2 z3).tape = w.tape ∧ (putw w b o z0 z1 z2 z3).output = w.output := ⟨rfl, rfl, rfl⟩
theorem wrote_putn (w : World) (b o Z : Nat) (hz : ∀ i, i < 4 → ∃ v, w.cell? ⟨b, o + i, none⟩ = some v) : Wrote w (putn w b o Z) b o Z := by
  unfold putn
  obtain ⟨e1, e2, e3⟩ := putw_streams w b o (wordAt Z 0) (wordAt Z 1) (wordAt Z 2) (wordAt Z 3)
  have c0 : (putw w b o (wordAt Z 0) (wordAt Z 1) (wordAt Z 2) (wordAt Z 3)).cell? ⟨b, o + 0, none⟩ = some (wd (wordAt Z 0)) := by
    obtain ⟨v, hv⟩ := hz 0 (by decide)
    exact putw_at0 w b o (wordAt Z 0) (wordAt Z 1) (wordAt Z 2) (wordAt Z 3) hv
  have c1 : (putw w b o (wordAt Z 0) (wordAt Z 1) (wordAt Z 2) (wordAt Z 3)).cell? ⟨b, o + 1, none⟩ = some (wd (wordAt Z 1)) := by
    obtain ⟨v, hv⟩ := hz 1 (by decide)
    exact putw_at1 w b o (wordAt Z 0) (wordAt Z 1) (wordAt Z 2) (wordAt Z 3) hv
  have c2 : (putw w b o (wordAt Z 0) (wordAt Z 1) (wordAt Z 2) (wordAt Z 3)).cell? ⟨b, o + 2, none⟩ = some (wd (wordAt Z 2)) := by
    obtain ⟨v, hv⟩ := hz 2 (by decide)
    exact putw_at2 w b o (wordAt Z 0) (wordAt Z 1) (wordAt Z 2) (wordAt Z 3) hv
  have c3 : (putw w b o (wordAt Z 0) (wordAt Z 1) (wordAt Z 2) (wordAt Z 3)).cell? ⟨b, o + 3, none⟩ = some (wd (wordAt Z 3)) := by
    obtain ⟨v, hv⟩ := hz 3 (by decide)
    exact putw_at3 w b o (wordAt Z 0) (wordAt Z 1) (wordAt Z 2) (wordAt Z 3) hv
  have r1 := fun k hk => putw_block w b o (wordAt Z 0) (wordAt Z 1) (wordAt Z 2) (wordAt Z 3) (k := k) hk
  have r2 := fun j hj => putw_rest w b o (wordAt Z 0) (wordAt Z 1) (wordAt Z 2) (wordAt Z 3) (j := j) hj
  have r3 := putw_frozen w b o (wordAt Z 0) (wordAt Z 1) (wordAt Z 2) (wordAt Z 3)
  have r4 := putw_shape w b o (wordAt Z 0) (wordAt Z 1) (wordAt Z 2) (wordAt Z 3)
  have r5 := putw_size w b o (wordAt Z 0) (wordAt Z 1) (wordAt Z 2) (wordAt Z 3)
  generalize putw w b o (wordAt Z 0) (wordAt Z 1) (wordAt Z 2) (wordAt Z 3) = w1 at *
  refine ⟨e1, e2, e3, r5, r1, fun i hi => ?_, r2, r3, r4⟩
  have hcase : i = 0 ∨ i = 1 ∨ i = 2 ∨ i = 3 := by omega
  rcases hcase with rfl | rfl | rfl | rfl
  · exact c0
  · exact c1
  · exact c2
  · exact c3

theorem mul_wrote (w : World) (bz oz bx ox by_ oy : Nat) (zc : Nat → Nat) (X Y : Nat) (hX : X < R) (hY : Y < Q)
    (hz : ∀ i, i < 4 → w.cell? ⟨bz, oz + i, none⟩ = some (wd (zc i)) ∧ zc i < W) (hf : ∀ i, i < 4 → w.frozen? ⟨bz, oz + i, none⟩ = false)
    (hx : ∀ i, i < 4 → w.cell? ⟨bx, ox + i, none⟩ = some (wd (wordAt X i))) (hy : ∀ i, i < 4 → w.cell? ⟨by_, oy + i, none⟩ = some (wd (wordAt Y i))) :
    Calls Try.prog 19 #[.pointer (some ⟨bz, oz, none⟩), .pointer (some ⟨bx, ox, none⟩), .pointer (some ⟨by_, oy, none⟩)] w fun e w' =>
      e = .returned (.pointer (some ⟨bz, oz, none⟩)) ∧ Wrote w w' bz oz (mm X Y) :=
  (mul_any w bz oz bx ox by_ oy zc X Y hX hY hz hf hx hy).mono fun _ _ ⟨he, d, hw⟩ => ⟨he, by rw [hw]; exact (wrote_putn w bz oz _ fun i hi => ⟨_, (hz i hi).1⟩).draw d⟩

end Go.Proofs.Yteohenebjcbliaa

