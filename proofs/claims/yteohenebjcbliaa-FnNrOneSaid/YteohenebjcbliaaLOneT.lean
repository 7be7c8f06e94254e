/- The law of one: the walk. No conditions: for every argument. -/
import Derived.Test.YteohenebjcbliaaIsOne
set_option linter.unusedVariables false
set_option linter.unusedSimpArgs false
namespace Go.Proofs.Yteohenebjcbliaa
open Go.RowKit Fx
open Slx (wd W)

theorem ok_onew (E : Env) : CallOk Try.prog E 14 (.onew (.k 1)) := ⟨show 1 < R by decide, onew_any⟩
theorem ok_isone (E : Env) (h : E.pr = prE) : CallOk Try.prog E 15 (.pr 0) := by
  intro a w ha
  rw [h, prE_0]
  exact bisone_any w a (Nat.lt_trans ha Q_lt)
theorem ok_iszero (E : Env) (h : E.pr = prE) : CallOk Try.prog E 16 (.pr 1) := by
  intro a w ha
  rw [h, prE_1]
  exact biszero_any w a (Nat.lt_trans ha Q_lt)
theorem enters_onew : ∀ args w, (callFunc 14 args).run Try.prog w = .ok (.enter 14 args) w := enters_at Try.func14 (by kernel_rfl) (by kernel_rfl)
theorem enters_isone : ∀ args w, (callFunc 15 args).run Try.prog w = .ok (.enter 15 args) w := enters_at Try.func15 (by kernel_rfl) (by kernel_rfl)
theorem enters_iszero : ∀ args w, (callFunc 16 args).run Try.prog w = .ok (.enter 16 args) w := enters_at Try.func16 (by kernel_rfl) (by kernel_rfl)

def dtLOne : Fx.Dt := { N := 30, arrs := arrs, tab := [(8, .sl0 .q), (7, .lts), (9, .el2 0), (13, .el0 1), (10, .eqs), (11, .slq1 2), (14, .onew (.k 1)), (15, .pr 0), (16, .pr 1)] }
def e1 : NE := .fn 1 (.k 0) (.k 0)
def cA : BE := .pr 0 e1
def cB : BE := .eq (.fn 0 (.v 0) e1) (.v 0)
def cC : BE := .eq e1 (.fn 2 (.k 1) (.k 0))
def loneSums : List Fx.Sum := [
  ⟨.ret, [(cA, true), (cB, true), (cC, true), (.lt (.v 0) .q, true)], some (.bo (.pr 1 e1) false)⟩,
  ⟨.ret, [(cA, false), (cB, true), (cC, true), (.lt (.v 0) .q, true)], some (.lv (.bool false))⟩,
  ⟨.ret, [(cB, false), (cC, true), (.lt (.v 0) .q, true)], some (.lv (.bool false))⟩,
  ⟨.ret, [(cC, false), (.lt (.v 0) .q, true)], some (.lv (.bool false))⟩,
  ⟨.ret, [(.lt (.v 0) .q, false)], some (.lv (.bool true))⟩]
theorem lone_runs : (Fx.runC dtLOne 4000 [bodyOf Try.f5] (lawSt 1)).map (List.map (Fx.sum 2)) = some loneSums := by kernel_rfl

theorem lone_fit (l : List Nat) (h : ∀ x ∈ l, x < R) (w : World) : Fit Try.prog (lawEnv dtLOne (valOf l) w) :=
  law_fit _ rfl l h w ⟨ok_prime _, ok_less _, ok_mul _ rfl, ok_one _ rfl, ok_same _, ok_shift _ rfl, ok_onew _, ok_isone _ rfl, ok_iszero _ rfl, trivial⟩
    ⟨enters_prime, enters_less, enters_mul, enters_one, enters_same, enters_shift, enters_onew, enters_isone, enters_iszero, trivial⟩

theorem one_shf : shf 1 = oneN := by unfold shf oneN; rw [Nat.one_mul]
theorem one_ne : decide (oneN = 0) = false := by decide

theorem lone_walk (w : World) (X : Nat) (hX : X < R) :
    Calls Try.prog 5 #[elv X] w fun e w' => e = .returned (.bool true) ∧ Below w.heap.size w w' := by
  have hl : ∀ x ∈ [X], x < R := by simp [hX]
  obtain ⟨L, hL, hs⟩ := Fx.sum_some lone_runs
  have F := lone_fit [X] hl w
  refine calls_fx F Try.func5 rfl (law_start dtLOne [X] w _ rfl (show 1 ≤ Try.f5.ntmps from of_decide_eq_true (by kernel_rfl)) hl) hL fun x hxL ob a' w' I => ?_
  have hmem := hs x hxL
  clear hs hL hxL F
  have fin : ∀ (a' : Act) (w' : World), a'.tmps.getD 2 undef = .bool true → a'.defers = [] → Below w.heap.size w w' →
      bodyPost Try.prog Try.f5 (fun e w' => e = .returned (.bool true) ∧ Below w.heap.size w w') .ret a' w' := fun a' w' h1 h2 h3 =>
    bodyPost_ret (v := .bool true) (by rw [results_tmp rfl, h1]) h2 ⟨rfl, h3⟩
  simp only [loneSums, List.mem_cons, List.not_mem_nil, or_false] at hmem
  rcases hmem with h | h | h | h | h
  · obtain ⟨k1, k2, k3, k4, k5⟩ := Fx.out_of I h rfl
    rw [k1]
    refine fin a' w' ?_ k4 k5
    rw [k3]
    simp only [BE.val, NE.val, lawEnv, e1, fnE_1, prE_1]
    rw [one_ne]
    rfl
  · obtain ⟨k1, k2, k3, k4, k5⟩ := Fx.out_of I h rfl
    exfalso
    have := k2 (cA, false) (by simp)
    simp only [cA, e1, BE.val, NE.val, lawEnv, fnE_1, prE_0] at this
    simp at this
  · obtain ⟨k1, k2, k3, k4, k5⟩ := Fx.out_of I h rfl
    exfalso
    have hx : X < Q := of_decide_eq_true (k2 (.lt (.v 0) .q, true) (by simp))
    have := k2 (cB, false) (by simp)
    simp only [cB, e1, BE.val, NE.val, lawEnv, fnE_0, fnE_1] at this
    rw [mm_one (show valOf [X] 0 < Q from hx)] at this
    simp at this
  · obtain ⟨k1, k2, k3, k4, k5⟩ := Fx.out_of I h rfl
    exfalso
    have := k2 (cC, false) (by simp)
    simp only [cC, e1, BE.val, NE.val, lawEnv, fnE_2, fnE_1] at this
    rw [one_shf] at this
    simp at this
  · obtain ⟨k1, k2, k3, k4, k5⟩ := Fx.out_of I h rfl
    rw [k1]
    exact fin a' w' k3 k4 k5

end Go.Proofs.Yteohenebjcbliaa
