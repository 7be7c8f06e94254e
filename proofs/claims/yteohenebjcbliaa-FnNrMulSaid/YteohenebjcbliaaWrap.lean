/- The contracts of impl's product of two elements and of its one. Conditions: words that make numbers, the second factor below the modulus. -/
import Derived.Test.YteohenebjcbliaaWrote
import Derived.RegionTactic
import Derived.ChangeAlike
import Derived.Below
import Derived.Laws.NewBlocks
set_option linter.unusedVariables false
set_option linter.unusedSimpArgs false
namespace Go.Proofs.Yteohenebjcbliaa
open Go.RowKit Slx

/-- An element as a value. -/
def elv (X : Nat) : Value := .agg #[.int .u64 (wordAt X 0 : Nat), .int .u64 (wordAt X 1 : Nat), .int .u64 (wordAt X 2 : Nat), .int .u64 (wordAt X 3 : Nat)]

theorem four {p : Nat → Prop} (h0 : p 0) (h1 : p 1) (h2 : p 2) (h3 : p 3) : ∀ i, i < 4 → p i := by
  intro i hi
  have hcase : i = 0 ∨ i = 1 ∨ i = 2 ∨ i = 3 := by omega
  rcases hcase with rfl | rfl | rfl | rfl <;> assumption

set_option maxHeartbeats 1000000 in
theorem bmul_any (w : World) (X Y : Nat) (hX : X < R) (hY : Y < Q) :
    Calls Try.prog 9 #[elv X, elv Y] w fun e w' => e = .returned (elv (mm X Y)) ∧ Below w.heap.size w w' := by
  unfold elv
  have HX := Lib.hid hX
  have HY := Lib.hid hY
  clear hX hY
  generalize hx0 : wordAt X 0 = x0
  generalize hy0 : wordAt Y 0 = y0
  generalize hx1 : wordAt X 1 = x1
  generalize hy1 : wordAt Y 1 = y1
  generalize hx2 : wordAt X 2 = x2
  generalize hy2 : wordAt Y 2 = y2
  generalize hx3 : wordAt X 3 = x3
  generalize hy3 : wordAt Y 3 = y3
  have X0 := Lib.hid hx0
  have Y0 := Lib.hid hy0
  clear hx0 hy0
  have X1 := Lib.hid hx1
  have Y1 := Lib.hid hy1
  clear hx1 hy1
  have X2 := Lib.hid hx2
  have Y2 := Lib.hid hy2
  clear hx2 hy2
  have X3 := Lib.hid hx3
  have Y3 := Lib.hid hy3
  clear hx3 hy3
  go_enter Try.func9, Try.ntmps9
  go_wp2_with (fail)
  go_region
  all_goals
    go_wp2_with (go_at_call 19; fail)
    refine (mul_wrote _ _ 0 _ 0 _ 0 (fun _ => 0) X Y HX.out HY.out ?_ ?_ ?_ ?_).mono ?_
    · apply four <;> simp only [wd] <;> exact ⟨by go_simp, W_pos⟩
    · apply four <;> go_simp
    · apply four <;> simp only [wd, X0.out, X1.out, X2.out, X3.out] <;> go_simp
    · apply four <;> simp only [wd, Y0.out, Y1.out, Y2.out, Y3.out] <;> go_simp
    rintro e w1 ⟨rfl, hw1⟩
    have hsz := hw1.size
    have m0 : w1.cell? ⟨w.heap.size + 1 + 1 + 1, 0, none⟩ = some (.int .u64 (wordAt (mm X Y) 0 : Nat)) := by have := hw1.cells 0 (by decide); simpa only [Nat.zero_add, wd] using this
    have m1 : w1.cell? ⟨w.heap.size + 1 + 1 + 1, 1, none⟩ = some (.int .u64 (wordAt (mm X Y) 1 : Nat)) := by have := hw1.cells 1 (by decide); simpa only [Nat.zero_add, wd] using this
    have m2 : w1.cell? ⟨w.heap.size + 1 + 1 + 1, 2, none⟩ = some (.int .u64 (wordAt (mm X Y) 2 : Nat)) := by have := hw1.cells 2 (by decide); simpa only [Nat.zero_add, wd] using this
    have m3 : w1.cell? ⟨w.heap.size + 1 + 1 + 1, 3, none⟩ = some (.int .u64 (wordAt (mm X Y) 3 : Nat)) := by have := hw1.cells 3 (by decide); simpa only [Nat.zero_add, wd] using this
    have d0 : w1.cell? ⟨w.heap.size + 1 + 1, 0, none⟩ = some (.int .u64 0) := (hw1.cell (a := ⟨w.heap.size + 1 + 1, 0, none⟩) (by simp)).trans (by go_simp)
    have d1 : w1.cell? ⟨w.heap.size + 1 + 1, 1, none⟩ = some (.int .u64 0) := (hw1.cell (a := ⟨w.heap.size + 1 + 1, 1, none⟩) (by simp)).trans (by go_simp)
    have d2 : w1.cell? ⟨w.heap.size + 1 + 1, 2, none⟩ = some (.int .u64 0) := (hw1.cell (a := ⟨w.heap.size + 1 + 1, 2, none⟩) (by simp)).trans (by go_simp)
    have d3 : w1.cell? ⟨w.heap.size + 1 + 1, 3, none⟩ = some (.int .u64 0) := (hw1.cell (a := ⟨w.heap.size + 1 + 1, 3, none⟩) (by simp)).trans (by go_simp)
    have f0 : w1.frozen? ⟨w.heap.size + 1 + 1, 0, none⟩ = false := (hw1.frozen _).trans (by go_simp)
    have f1 : w1.frozen? ⟨w.heap.size + 1 + 1, 1, none⟩ = false := (hw1.frozen _).trans (by go_simp)
    have f2 : w1.frozen? ⟨w.heap.size + 1 + 1, 2, none⟩ = false := (hw1.frozen _).trans (by go_simp)
    have f3 : w1.frozen? ⟨w.heap.size + 1 + 1, 3, none⟩ = false := (hw1.frozen _).trans (by go_simp)
    have hbel : Below w.heap.size w w1 := by
      refine Below.trans ?_ (hw1.below (by omega))
      repeat (first | exact Below.refl _ _ | apply Below.drew | refine Below.alloc ?_ (by simp; try omega) _)
    clear hw1 hsz
    go_wp2
    refine bodyPost_ret (v := .agg #[.int .u64 (wordAt (mm X Y) 0 : Nat), .int .u64 (wordAt (mm X Y) 1 : Nat), .int .u64 (wordAt (mm X Y) 2 : Nat), .int .u64 (wordAt (mm X Y) 3 : Nat)]) (by simp [results, Try.results9, go_sem, d0, d1, d2, d3]) rfl ⟨rfl, ?_⟩
    repeat (first | exact hbel | refine Below.setCell ?_ (by simp; try omega) _)

/-- One. -/
def oneN : Nat := R % Q
theorem elv_one : elv oneN = .agg #[.int .u64 12436184717236109307, .int .u64 3962172157175319849, .int .u64 7381016538464732718, .int .u64 1011752739694698287] := by
  unfold elv
  have h : ∀ j, j < 4 → wordAt oneN j = [12436184717236109307, 3962172157175319849, 7381016538464732718, 1011752739694698287].getD j 0 := by decide
  simp only [h 0 (by decide), h 1 (by decide), h 2 (by decide), h 3 (by decide)]
  rfl

set_option maxHeartbeats 1000000 in
theorem bone_any (w : World) : Calls Try.prog 13 #[] w fun e w' => e = .returned (elv oneN) ∧ Below w.heap.size w w' := by
  rw [elv_one]
  go_enter Try.func13, Try.ntmps13
  go_wp2
  refine bodyPost_ret (v := .agg #[.int .u64 12436184717236109307, .int .u64 3962172157175319849, .int .u64 7381016538464732718, .int .u64 1011752739694698287]) (by simp [results, Try.results21, go_sem]) rfl ?_
  go_wp2
  refine bodyPost_ret (v := .agg #[.int .u64 12436184717236109307, .int .u64 3962172157175319849, .int .u64 7381016538464732718, .int .u64 1011752739694698287]) (by simp [results, Try.results13, go_sem]) rfl ⟨rfl, ?_⟩
  repeat (first | exact Below.refl _ _ | refine Below.setCell ?_ (by simp; try omega) _ | refine Below.alloc ?_ (by simp; try omega) _)

end Go.Proofs.Yteohenebjcbliaa
