/- What every law run by the executor shares: its environment. No conditions. -/
import Derived.Test.YteohenebjcbliaaLaws0
set_option linter.unusedVariables false
namespace Go.Proofs.Yteohenebjcbliaa
open Go.RowKit Fx
open Slx (wd W)

noncomputable def bodyOf (f : Func) : Code := match f.body with | some c => c | none => .skip
def lawSt (n : Nat) : Fx.St := { sl := (List.range n).map fun i => (i, .el (.v i)), objs := [], path := [] }
def lawEnv (D : Fx.Dt) (val : Nat → Nat) (w : World) : Fx.Env := { toDt := D, val := val, fn := fnE, pr := prE, w0 := w }
/-- The numbers of a law. -/
def valOf (l : List Nat) (i : Nat) : Nat := l.getD i 0
theorem valOf_lt {l : List Nat} (h : ∀ x ∈ l, x < R) (i : Nat) : valOf l i < R := by
  unfold valOf
  rw [List.getD_eq_getElem?_getD]
  cases hi : l[i]? with
  | none => exact R_pos
  | some x => exact h x (List.mem_of_getElem? hi)

theorem law_start (D : Fx.Dt) (l : List Nat) (w : World) (m : Nat) (hm : m = D.N) (hl : l.length ≤ m) (h : ∀ x ∈ l, x < R) :
    Fx.Inv (lawEnv D (valOf l) w) (fun _ => 0) (lawSt l.length) { tmps := (l.map elv).toArray ++ Array.replicate (m - (l.map elv).toArray.size) undef, defers := [] } w := by
  refine start_inv hm (by simpa using hl) rfl rfl rfl fun t sv ht => ?_
  have key : ∀ (n k : Nat), Fx.look ((List.range' k n).map fun i => (i, FV.el (.v i))) t = some sv → k ≤ t ∧ t < k + n ∧ sv = .el (.v t) := by
    intro n
    induction n with
    | zero => intro k h; cases h
    | succ n ih =>
      intro k h
      simp only [List.range'_succ, List.map_cons, Fx.look] at h
      split at h
      · rename_i hk
        subst hk
        simp only [Option.some.injEq] at h
        exact ⟨Nat.le_refl _, by omega, h.symm⟩
      · obtain ⟨h1, h2, h3⟩ := ih (k + 1) h
        exact ⟨by omega, by omega, h3⟩
  have h' : Fx.look ((List.range' 0 l.length).map fun i => (i, FV.el (.v i))) t = some sv := by
    rw [← List.range_eq_range']; exact ht
  obtain ⟨_, hlt, rfl⟩ := key _ _ h'
  have hlt' : t < l.length := by omega
  have hv : valOf l t = l[t] := by unfold valOf; simp [List.getD_eq_getElem?_getD, hlt']
  refine ⟨elv l[t], by simp [hlt'], ?_, ?_⟩
  · show elv l[t] = elv (valOf l t)
    rw [hv]
  · show valOf l t < R
    exact valOf_lt h t

def tabAll (p : Nat → CK → Prop) : List (Nat × CK) → Prop
  | [] => True
  | e :: r => p e.1 e.2 ∧ tabAll p r
theorem tab_all {p : Nat → CK → Prop} {f : Nat} {c : CK} : ∀ {tab : List (Nat × CK)}, tabAll p tab → tabLook tab f = some c → p f c
  | [], _, h => by cases h
  | (g, d) :: r, ha, h => by
    simp only [tabLook] at h
    split at h
    · rename_i hg
      subst hg
      simp only [Option.some.injEq] at h
      subst h
      exact ha.1
    · exact tab_all ha.2 h

/-- The frame of a law's fit. -/
theorem law_fit (D : Fx.Dt) (hD : D.arrs = arrs) (l : List Nat) (h : ∀ x ∈ l, x < R) (w : World) (hc : tabAll (CallOk Try.prog (lawEnv D (valOf l) w)) D.tab)
    (he : tabAll (fun f _ => ∀ args w, (callFunc f args).run Try.prog w = .ok (.enter f args) w) D.tab) : Fit Try.prog (lawEnv D (valOf l) w) :=
  fit_of _ hD rfl (valOf_lt h) (fun _ _ h => tab_all hc h) (fun _ _ h => tab_all (p := fun f _ => ∀ args w, (callFunc f args).run Try.prog w = .ok (.enter f args) w) he h)

end Go.Proofs.Yteohenebjcbliaa
