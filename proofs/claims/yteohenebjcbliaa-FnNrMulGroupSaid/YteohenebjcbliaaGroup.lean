/- The law of the grouped product: the walk. No conditions: for every three arguments. -/
import Derived.Test.YteohenebjcbliaaLawKit
set_option linter.unusedVariables false
set_option linter.unusedSimpArgs false
namespace Go.Proofs.Yteohenebjcbliaa
open Go.RowKit Fx
open Slx (wd W)

def dtGroup : Fx.Dt := { N := 41, arrs := arrs, tab := [(8, .sl0 .q), (7, .lts), (9, .el2 0), (13, .el0 1)] }
def gA : BE := .eq (.fn 0 (.fn 0 (.v 0) (.v 1)) (.v 2)) (.fn 0 (.v 0) (.fn 0 (.v 1) (.v 2)))
def groupSums : List Fx.Sum := [
  ⟨.ret, [(gA, true), (.lt (.v 2) .q, true), (.lt (.v 1) .q, true), (.lt (.v 0) .q, true)], some (.bo (.eq (.fn 0 (.fn 1 (.k 0) (.k 0)) (.v 2)) (.v 2)) true)⟩,
  ⟨.ret, [(gA, false), (.lt (.v 2) .q, true), (.lt (.v 1) .q, true), (.lt (.v 0) .q, true)], some (.lv (.bool false))⟩,
  ⟨.ret, [(.lt (.v 2) .q, false), (.lt (.v 1) .q, true), (.lt (.v 0) .q, true)], some (.lv (.bool true))⟩,
  ⟨.ret, [(.lt (.v 1) .q, false), (.lt (.v 0) .q, true)], some (.lv (.bool true))⟩,
  ⟨.ret, [(.lt (.v 0) .q, false)], some (.lv (.bool true))⟩]
theorem group_runs : (Fx.runC dtGroup 4000 [bodyOf Try.f4] (lawSt 3)).map (List.map (Fx.sum 6)) = some groupSums := by kernel_rfl

theorem group_fit (l : List Nat) (h : ∀ x ∈ l, x < R) (w : World) : Fit Try.prog (lawEnv dtGroup (valOf l) w) :=
  law_fit _ rfl l h w ⟨ok_prime _, ok_less _, ok_mul _ rfl, ok_one _ rfl, trivial⟩ ⟨enters_prime, enters_less, enters_mul, enters_one, trivial⟩

theorem group_walk (w : World) (X Y Z : Nat) (hX : X < R) (hY : Y < R) (hZ : Z < R) :
    Calls Try.prog 4 #[elv X, elv Y, elv Z] w fun e w' => e = .returned (.bool true) ∧ Below w.heap.size w w' := by
  have hl : ∀ x ∈ [X, Y, Z], x < R := by simp [hX, hY, hZ]
  obtain ⟨L, hL, hs⟩ := Fx.sum_some group_runs
  have F := group_fit [X, Y, Z] hl w
  refine calls_fx F Try.func4 rfl (law_start dtGroup [X, Y, Z] w _ rfl (show 3 ≤ Try.f4.ntmps from of_decide_eq_true (by kernel_rfl)) hl) hL fun x hxL ob a' w' I => ?_
  have hmem := hs x hxL
  clear hs hL hxL F
  have fin : ∀ (a' : Act) (w' : World), a'.tmps.getD 6 undef = .bool true → a'.defers = [] → Below w.heap.size w w' →
      bodyPost Try.prog Try.f4 (fun e w' => e = .returned (.bool true) ∧ Below w.heap.size w w') .ret a' w' := fun a' w' h1 h2 h3 =>
    bodyPost_ret (v := .bool true) (by rw [results_tmp rfl, h1]) h2 ⟨rfl, h3⟩
  simp only [groupSums, List.mem_cons, List.not_mem_nil, or_false] at hmem
  rcases hmem with h | h | h | h | h
  · obtain ⟨k1, k2, k3, k4, k5⟩ := Fx.out_of I h rfl
    rw [k1]
    refine fin a' w' ?_ k4 k5
    rw [k3]
    have hz : Z < Q := of_decide_eq_true (k2 (.lt (.v 2) .q, true) (by simp))
    simp only [BE.val, NE.val, lawEnv, fnE_0, fnE_1]
    rw [one_mm (show valOf [X, Y, Z] 2 < Q from hz)]
    simp
  · obtain ⟨k1, k2, k3, k4, k5⟩ := Fx.out_of I h rfl
    exfalso
    have := k2 (gA, false) (by simp)
    simp only [gA, BE.val, NE.val, lawEnv, fnE_0] at this
    rw [mm_assoc] at this
    simp at this
  all_goals
    obtain ⟨k1, k2, k3, k4, k5⟩ := Fx.out_of I h rfl
    rw [k1]
    exact fin a' w' k3 k4 k5

end Go.Proofs.Yteohenebjcbliaa
