/- What the laws share: the functions that the calls compute, their contracts in the executor's form, and the plain laws of the product. Conditions: elements below the modulus. -/
import Derived.Test.YteohenebjcbliaaOpen
set_option linter.unusedVariables false
set_option linter.unusedSimpArgs false
namespace Go.Proofs.Yteohenebjcbliaa
open Go.RowKit Fx
open Slx (wd W)

def shf (a : Nat) : Nat := a * R % Q
def mlw (a b : Nat) : Nat := a * b % Q
theorem shf_lt (a : Nat) : shf a < Q := Nat.mod_lt _ Q_pos
theorem mlw_lt (a b : Nat) : mlw a b < Q := Nat.mod_lt _ Q_pos
theorem oneN_lt : oneN < Q := Nat.mod_lt _ Q_pos
def fnE (f a b : Nat) : Nat := if f = 0 then mm a b else if f = 1 then oneN else if f = 2 then shf a else if f = 3 then mlw a b else 0
def prE (p a : Nat) : Bool := if p = 0 then decide (a = oneN) else decide (a = 0)
theorem fnE_lt (f a b : Nat) : fnE f a b < Q := by
  unfold fnE
  split
  · exact mm_lt _ _
  · split
    · exact oneN_lt
    · split
      · exact shf_lt _
      · split
        · exact mlw_lt _ _
        · exact Q_pos

theorem fnE_0 (a b : Nat) : fnE 0 a b = mm a b := if_pos rfl
theorem fnE_1 (a b : Nat) : fnE 1 a b = oneN := (if_neg (by decide)).trans (if_pos rfl)
theorem fnE_2 (a b : Nat) : fnE 2 a b = shf a := (if_neg (by decide)).trans ((if_neg (by decide)).trans (if_pos rfl))
theorem fnE_3 (a b : Nat) : fnE 3 a b = mlw a b := (if_neg (by decide)).trans ((if_neg (by decide)).trans ((if_neg (by decide)).trans (if_pos rfl)))
theorem prE_0 (a : Nat) : prE 0 a = decide (a = oneN) := if_pos rfl
theorem prE_1 (a : Nat) : prE 1 a = decide (a = 0) := if_neg (by decide)

theorem mont_assoc (x y z Ri M : Nat) : (x * y * Ri % M) * z * Ri % M = x * (y * z * Ri % M) * Ri % M := by
  have e1 : (x * y * Ri % M * z * Ri) % M = (x * y * Ri * z * Ri) % M := by
    rw [Nat.mul_assoc (_ % M), Nat.mod_mul_mod, ← Nat.mul_assoc]
  have e2 : (x * (y * z * Ri % M) * Ri) % M = (x * (y * z * Ri) * Ri) % M := by
    rw [Nat.mul_right_comm, Nat.mul_mod_mod, Nat.mul_right_comm]
  rw [e1, e2]
  congr 1
  simp only [Nat.mul_assoc, Nat.mul_left_comm, Nat.mul_comm]
theorem mont_one {A Ri M z : Nat} (hr : A * Ri % M = 1) (hz : z < M) : (A % M) * z * Ri % M = z := by
  have e : (A % M * z * Ri) % M = (z * (A * Ri)) % M := by
    rw [Nat.mul_assoc, Nat.mod_mul_mod, Nat.mul_left_comm]
  rw [e, Nat.mul_mod, hr, Nat.mul_one, Nat.mod_mod, Nat.mod_eq_of_lt hz]

theorem mm_assoc (x y z : Nat) : mm (mm x y) z = mm x (mm y z) := mont_assoc x y z _ _
theorem mm_comm (x y : Nat) : mm x y = mm y x := by unfold mm; rw [Nat.mul_comm x y]
theorem one_mm {z : Nat} (hz : z < Q) : mm oneN z = z := mont_one (by decide) hz
theorem mm_one {z : Nat} (hz : z < Q) : mm z oneN = z := by rw [mm_comm]; exact one_mm hz

theorem wordQ_0 : wordAt Q 0 = 4891460686036598785 := by decide
theorem wordQ_1 : wordAt Q 1 = 2896914383306846353 := by decide
theorem wordQ_2 : wordAt Q 2 = 13281191951274694749 := by decide
theorem wordQ_3 : wordAt Q 3 = 3486998266802970665 := by decide

theorem isSl_prime (w : World) : IsSl (w.alloc (.cells #[.int .u64 4891460686036598785, .int .u64 2896914383306846353, .int .u64 13281191951274694749, .int .u64 3486998266802970665] 22)) (.slice (some ⟨w.heap.size, 0, none⟩) 4 4) Q := by
  refine ⟨w.heap.size, 0, 4, rfl, by simp, ?_⟩
  apply four <;> (rw [World.cell?_alloc_new]; simp only [wordQ_0, wordQ_1, wordQ_2, wordQ_3]; rfl)

theorem ok_prime (E : Env) : CallOk Try.prog E 8 (.sl0 .q) :=
  ⟨Q_lt, fun w => (prime_any w).mono fun _ _ ⟨he, hw⟩ => ⟨_, he, by rw [hw]; exact isSl_prime w, by rw [hw]; exact (Below.refl _ _).alloc (Nat.le_refl _) _⟩⟩

theorem below_drewN (w : World) (d : Nat) : Below w.heap.size w (w.drewN d) := ⟨rfl, rfl, rfl, Nat.le_refl _, fun _ _ => rfl⟩

theorem ok_less (E : Env) : CallOk Try.prog E 7 .lts := by
  intro a b va vb w ha hb h1 h2
  obtain ⟨b1, o1, c1, rfl, _, g1⟩ := h1
  obtain ⟨b2, o2, c2, rfl, _, g2⟩ := h2
  exact (less_any w b1 o1 c1 b2 o2 c2 a b ha hb g1 g2).mono fun _ _ ⟨he, d, hw⟩ => ⟨he, by rw [hw]; exact below_drewN w d⟩

theorem ok_mul (E : Env) (h : E.fn = fnE) : CallOk Try.prog E 9 (.el2 0) := by
  intro a b w ha hb
  rw [h, fnE_0]
  exact bmul_any w a b (Nat.lt_trans ha Q_lt) hb

theorem ok_one (E : Env) (h : E.fn = fnE) : CallOk Try.prog E 13 (.el0 1) := by
  intro w
  rw [h, fnE_1]
  exact bone_any w

theorem enters_at {f : Nat} {fn : Func} (hf : Try.prog.funcs[f]? = some fn) (hname : (fn.name == "runtime.NumGoroutine") = false) (hb : fn.body.isNone = false) :
    ∀ args w, (callFunc f args).run Try.prog w = .ok (.enter f args) w := fun args w => enters_of' hf hname hb args w

theorem enters_prime : ∀ args w, (callFunc 8 args).run Try.prog w = .ok (.enter 8 args) w := enters_at Try.func8 (by kernel_rfl) (by kernel_rfl)
theorem enters_less : ∀ args w, (callFunc 7 args).run Try.prog w = .ok (.enter 7 args) w := enters_at Try.func7 (by kernel_rfl) (by kernel_rfl)
theorem enters_mul : ∀ args w, (callFunc 9 args).run Try.prog w = .ok (.enter 9 args) w := enters_at Try.func9 (by kernel_rfl) (by kernel_rfl)
theorem enters_one : ∀ args w, (callFunc 13 args).run Try.prog w = .ok (.enter 13 args) w := enters_at Try.func13 (by kernel_rfl) (by kernel_rfl)

/-- The frame of a fit: all but the calls. -/
theorem fit_of (E : Env) (ha : E.arrs = arrs) (hf : E.fn = fnE) (hv : ∀ i, E.val i < R) (hc : ∀ f c, tabLook E.tab f = some c → CallOk Try.prog E f c)
    (he : ∀ f c, tabLook E.tab f = some c → ∀ args w, (callFunc f args).run Try.prog w = .ok (.enter f args) w) : Fit Try.prog E where
  mo := follows_mixed
  vlt := hv
  fnlt := fun f a b => by rw [hf]; exact fnE_lt f a b
  calls := hc
  enters := he
  hbox := fun t ht => el_box t (ha ▸ ht)
  halloc := fun t ht => el_alloc t (ha ▸ ht)
  hslice := fun t ht => el_slice t (ha ▸ ht)
  hload := fun t ht => el_load t (ha ▸ ht)
  hstore := fun t ht => el_store t (ha ▸ ht)
  heql := fun t ht X Y x y w => el_eql t (ha ▸ ht) X Y x y w
  hneq := fun t ht X Y x y w => el_neq t (ha ▸ ht) X Y x y w

/-- The start of a law: its arguments are elements. -/
theorem start_inv {E : Env} {w : World} {args : Array Value} {st : Fx.St} {m : Nat} (hN : m = E.N) (ha : args.size ≤ m) (ho : st.objs = []) (hp : st.path = []) (hw : w = E.w0)
    (hs : ∀ (t : Nat) (sv : FV), Fx.look st.sl t = some sv → ∃ v, args[t]? = some v ∧ Rel E (fun _ => 0) w sv v ∧ sv.Ok E 0) :
    Fx.Inv E (fun _ => 0) st { tmps := args ++ Array.replicate (m - args.size) undef, defers := [] } w := by
  refine ⟨by simp; omega, rfl, fun t sv h => ?_, ⟨fun k e h => ?_, fun k k' h => ?_⟩, fun e he => (by rw [hp] at he; cases he), by rw [hw]; exact Below.refl _ _⟩
  · obtain ⟨v, g1, g2, g3⟩ := hs t sv h
    rw [ho]
    refine ⟨v, ?_, g2, g3⟩
    have : t < args.size := (Array.getElem?_eq_some_iff.1 g1).1
    simp [Array.getElem?_append, this]
    simpa [this] using g1
  · rw [ho] at h; simp at h
  · rw [ho] at h; simp at h

end Go.Proofs.Yteohenebjcbliaa
