/- Small laws of memory: a cell written twice; two cells written in either order. No conditions. -/
import Derived.WalkKit
namespace Go.Proofs.Yteohenebjcbliaa

theorem modify_twice {α : Type} (xs : Array α) (i : Nat) (f g : α → α) : (xs.modify i f).modify i g = xs.modify i (fun x => g (f x)) := by
  apply Array.ext
  · simp
  · intro j h1 h2
    simp only [Array.getElem_modify]
    split <;> simp_all

theorem modify_comm {α : Type} (xs : Array α) {i j : Nat} (h : i ≠ j) (f g : α → α) : (xs.modify i f).modify j g = (xs.modify j g).modify i f := by
  apply Array.ext
  · simp
  · intro k h1 h2
    simp only [Array.getElem_modify]
    by_cases h3 : i = k <;> by_cases h4 : j = k <;> simp_all

theorem setCell_twice (w : World) (a : Addr) (v u : Value) : (w.setCell a v).setCell a u = w.setCell a u := by
  simp only [World.setCell, modify_twice]
  congr 2
  funext o
  cases o <;> simp only []
  split <;> simp

theorem setCell_comm (w : World) {a b : Addr} (h : a ≠ b) (ha : a.spot = none) (hb : b.spot = none) (v u : Value) : (w.setCell a v).setCell b u = (w.setCell b u).setCell a v := by
  simp only [World.setCell]
  by_cases hab : a.block = b.block
  · rw [hab, modify_twice, modify_twice]
    congr 2
    funext o
    cases o <;> simp only [ha, hb, Option.isSome_none, Bool.false_eq_true, if_false]
    have : a.off ≠ b.off := fun h' => h (by cases a; cases b; simp_all)
    rw [Array.setIfInBounds_comm _ _ this]
  · rw [modify_comm _ hab]

end Go.Proofs.Yteohenebjcbliaa
