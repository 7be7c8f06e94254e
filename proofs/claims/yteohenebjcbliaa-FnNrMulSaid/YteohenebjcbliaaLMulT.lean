/- The law of the product: the walk. No conditions: for every two arguments. -/
import Derived.Test.YteohenebjcbliaaLaws1
set_option linter.unusedVariables false
set_option linter.unusedSimpArgs false
namespace Go.Proofs.Yteohenebjcbliaa
open Go.RowKit Fx
open Slx (wd W)

def dtLMul : Fx.Dt := { N := 32, arrs := arrs, tab := [(8, .sl0 .q), (7, .lts), (9, .el2 0), (10, .eqs), (11, .slq1 2), (12, .slq2 3)] }
def lmulSums : List Fx.Sum := [
  ⟨.ret, [(.lt (.fn 0 (.v 0) (.v 1)) .q, true), (.lt (.v 1) .q, true), (.lt (.v 0) .q, true)], some (.bo (.eq (.fn 2 (.fn 0 (.v 0) (.v 1)) (.k 0)) (.fn 3 (.v 0) (.v 1))) true)⟩,
  ⟨.ret, [(.lt (.fn 0 (.v 0) (.v 1)) .q, false), (.lt (.v 1) .q, true), (.lt (.v 0) .q, true)], some (.lv (.bool false))⟩,
  ⟨.ret, [(.lt (.v 1) .q, false), (.lt (.v 0) .q, true)], some (.lv (.bool true))⟩,
  ⟨.ret, [(.lt (.v 0) .q, false)], some (.lv (.bool true))⟩]
theorem lmul_runs : (Fx.runC dtLMul 4000 [bodyOf Try.f3] (lawSt 2)).map (List.map (Fx.sum 4)) = some lmulSums := by kernel_rfl

theorem lmul_fit (l : List Nat) (h : ∀ x ∈ l, x < R) (w : World) : Fit Try.prog (lawEnv dtLMul (valOf l) w) :=
  law_fit _ rfl l h w ⟨ok_prime _, ok_less _, ok_mul _ rfl, ok_same _, ok_shift _ rfl, ok_mulx _ rfl, trivial⟩ ⟨enters_prime, enters_less, enters_mul, enters_same, enters_shift, enters_mulx, trivial⟩

theorem lmul_walk (w : World) (X Y : Nat) (hX : X < R) (hY : Y < R) :
    Calls Try.prog 3 #[elv X, elv Y] w fun e w' => e = .returned (.bool true) ∧ Below w.heap.size w w' := by
  have hl : ∀ x ∈ [X, Y], x < R := by simp [hX, hY]
  obtain ⟨L, hL, hs⟩ := Fx.sum_some lmul_runs
  have F := lmul_fit [X, Y] hl w
  refine calls_fx F Try.func3 rfl (law_start dtLMul [X, Y] w _ rfl (show 2 ≤ Try.f3.ntmps from of_decide_eq_true (by kernel_rfl)) hl) hL fun x hxL ob a' w' I => ?_
  have hmem := hs x hxL
  clear hs hL hxL F
  have fin : ∀ (a' : Act) (w' : World), a'.tmps.getD 4 undef = .bool true → a'.defers = [] → Below w.heap.size w w' →
      bodyPost Try.prog Try.f3 (fun e w' => e = .returned (.bool true) ∧ Below w.heap.size w w') .ret a' w' := fun a' w' h1 h2 h3 =>
    bodyPost_ret (v := .bool true) (by rw [results_tmp rfl, h1]) h2 ⟨rfl, h3⟩
  simp only [lmulSums, List.mem_cons, List.not_mem_nil, or_false] at hmem
  rcases hmem with h | h | h | h
  · obtain ⟨k1, k2, k3, k4, k5⟩ := Fx.out_of I h rfl
    rw [k1]
    refine fin a' w' ?_ k4 k5
    rw [k3]
    simp only [BE.val, NE.val, lawEnv, fnE_0, fnE_2, fnE_3]
    rw [shf_mm]
    simp
  · obtain ⟨k1, k2, k3, k4, k5⟩ := Fx.out_of I h rfl
    exfalso
    have := k2 (.lt (.fn 0 (.v 0) (.v 1)) .q, false) (by simp)
    simp only [BE.val, NE.val, lawEnv, fnE_0] at this
    exact absurd (mm_lt _ _) (of_decide_eq_false this)
  all_goals
    obtain ⟨k1, k2, k3, k4, k5⟩ := Fx.out_of I h rfl
    rw [k1]
    exact fin a' w' k3 k4 k5

end Go.Proofs.Yteohenebjcbliaa
