/- The contracts of the spec's functions in the executor's form. Conditions: numbers below the modulus. -/
import Derived.Test.YteohenebjcbliaaLawKit
import Derived.Test.YteohenebjcbliaaMulX
import Derived.Test.YteohenebjcbliaaSame
set_option linter.unusedVariables false
namespace Go.Proofs.Yteohenebjcbliaa
open Go.RowKit Fx
open Slx (wd W)

theorem ok_same (E : Env) : CallOk Try.prog E 10 .eqs := by
  intro a b va vb w ha hb h1 h2
  obtain ⟨b1, o1, c1, rfl, _, g1⟩ := h1
  obtain ⟨b2, o2, c2, rfl, _, g2⟩ := h2
  exact (same_any w b1 o1 c1 b2 o2 c2 a b ha hb g1 g2).mono fun _ _ ⟨he, d, hw⟩ => ⟨he, by rw [hw]; exact below_drewN w d⟩
theorem ok_shift (E : Env) (h : E.fn = fnE) : CallOk Try.prog E 11 (.slq1 2) := by
  intro a va vm w ha h1 h2
  rw [h, fnE_2]
  exact shift_any w a va vm ha h1 h2
theorem ok_mulx (E : Env) (h : E.fn = fnE) : CallOk Try.prog E 12 (.slq2 3) := by
  intro a b va vb vm w ha hb h1 h2 h3
  rw [h, fnE_3]
  exact mulX_any w a b va vb vm ha hb h1 h2 h3

theorem enters_same : ∀ args w, (callFunc 10 args).run Try.prog w = .ok (.enter 10 args) w := enters_at Try.func10 (by kernel_rfl) (by kernel_rfl)
theorem enters_shift : ∀ args w, (callFunc 11 args).run Try.prog w = .ok (.enter 11 args) w := enters_at Try.func11 (by kernel_rfl) (by kernel_rfl)
theorem enters_mulx : ∀ args w, (callFunc 12 args).run Try.prog w = .ok (.enter 12 args) w := enters_at Try.func12 (by kernel_rfl) (by kernel_rfl)

theorem mont_back {A Ri M x y : Nat} (hr : A * Ri % M = 1) : (x * y * Ri % M) * A % M = x * y % M := by
  rw [Nat.mod_mul_mod, Nat.mul_assoc, Nat.mul_comm Ri A, Nat.mul_mod, hr, Nat.mul_one, Nat.mod_mod]
theorem shf_mm (x y : Nat) : shf (mm x y) = mlw x y := mont_back (by decide)
end Go.Proofs.Yteohenebjcbliaa
