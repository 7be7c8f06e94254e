/- The executor Fx is sound: one operation. Conditions: the structure Fit (contracts of the called functions). -/
import Derived.Test.YteohenebjcbliaaFx
set_option linter.unusedVariables false
set_option linter.unusedSimpArgs false
namespace Go.Proofs.Yteohenebjcbliaa
namespace Fx
open Go.RowKit
open Slx (wd W)

def elcells (X : Nat) : Array Value := #[.int .u64 (wordAt X 0 : Nat), .int .u64 (wordAt X 1 : Nat), .int .u64 (wordAt X 2 : Nat), .int .u64 (wordAt X 3 : Nat)]
theorem elv_cells (X : Nat) : elv X = .agg (elcells X) := rfl

def CallOk (P : Program) (E : Env) (f : Nat) : CK → Prop
  | .el0 g => ∀ w, Calls P f #[] w fun e w' => e = .returned (elv (E.fn g 0 0)) ∧ Below w.heap.size w w'
  | .el1 g => ∀ a w, a < Q → Calls P f #[elv a] w fun e w' => e = .returned (elv (E.fn g a 0)) ∧ Below w.heap.size w w'
  | .el2 g => ∀ a b w, a < Q → b < Q → Calls P f #[elv a, elv b] w fun e w' => e = .returned (elv (E.fn g a b)) ∧ Below w.heap.size w w'
  | .sl0 x => x.val E < R ∧ ∀ w, Calls P f #[] w fun e w' => ∃ v, e = .returned v ∧ IsSl w' v (x.val E) ∧ Below w.heap.size w w'
  | .slq1 g => ∀ a va vm w, a < Q → IsSl w va a → IsSl w vm Q → Calls P f #[va, vm] w fun e w' => ∃ v, e = .returned v ∧ IsSl w' v (E.fn g a 0) ∧ Below w.heap.size w w'
  | .slq2 g => ∀ a b va vb vm w, a < Q → b < Q → IsSl w va a → IsSl w vb b → IsSl w vm Q → Calls P f #[va, vb, vm] w fun e w' => ∃ v, e = .returned v ∧ IsSl w' v (E.fn g a b) ∧ Below w.heap.size w w'
  | .onew x => x.val E < R ∧ ∀ w, Calls P f #[.int .i64 (.ofNat 4)] w fun e w' => ∃ v, e = .returned v ∧ IsSl w' v (x.val E) ∧ Below w.heap.size w w'
  | .lts => ∀ a b va vb w, a < R → b < R → IsSl w va a → IsSl w vb b → Calls P f #[va, vb] w fun e w' => e = .returned (.bool (decide (a < b))) ∧ Below w.heap.size w w'
  | .eqs => ∀ a b va vb w, a < R → b < R → IsSl w va a → IsSl w vb b → Calls P f #[va, vb] w fun e w' => e = .returned (.bool (decide (a = b))) ∧ Below w.heap.size w w'
  | .pr p => ∀ a w, a < Q → Calls P f #[elv a] w fun e w' => e = .returned (.bool (E.pr p a)) ∧ Below w.heap.size w w'
  | .tb g p => ∀ a w, a < Q → Calls P f #[elv a] w fun e w' => e = .returned (.tuple #[elv (E.fn g a 0), .bool (E.pr p a)]) ∧ Below w.heap.size w w'

structure Fit (P : Program) (E : Env) : Prop where
  mo : P.follows .mixedOrders = true
  vlt : ∀ i, E.val i < R
  fnlt : ∀ f a b, E.fn f a b < Q
  calls : ∀ f c, tabLook E.tab f = some c → CallOk P E f c
  enters : ∀ f c, tabLook E.tab f = some c → ∀ args w, (callFunc f args).run P w = .ok (.enter f args) w
  hbox : ∀ t, E.arrs.contains t = true → ∀ X w, (Instr.box t (elv X)).run P w = .ok (.pointer (some ⟨w.heap.size, 0, none⟩)) (w.alloc (.cells (elcells X) t))
  halloc : ∀ t, E.arrs.contains t = true → ∀ w, (Instr.alloc t true (.tuple #[])).run P w = .ok (.pointer (some ⟨w.heap.size, 0, none⟩)) (w.alloc (.cells (elcells 0) t))
  hslice : ∀ t, E.arrs.contains t = true → ∀ a w, (Instr.sliceAt t (.pointer (some a)) none none none).run P w = .ok (.slice (some a) 4 4) w
  hload : ∀ t, E.arrs.contains t = true → ∀ b X w, (∀ i, i < 4 → w.cell? ⟨b, 0 + i, none⟩ = some (wd (wordAt X i))) → (Instr.loadAt t (.pointer (some ⟨b, 0, none⟩))).run P w = .ok (elv X) w
  hstore : ∀ t, E.arrs.contains t = true → ∀ b X w, (∀ i, i < 4 → ∃ v, w.cell? ⟨b, 0 + i, none⟩ = some v) → (∀ i, i < 4 → w.frozen? ⟨b, 0 + i, none⟩ = false) →
    (Instr.storeAt t (.pointer (some ⟨b, 0, none⟩)) (elv X)).run P w = .ok () (putn w b 0 X)
  heql : ∀ t, E.arrs.contains t = true → ∀ X Y x y w, X < R → Y < R → (do eqGuard .eql t x y (elv X) (elv Y); binOp .eql t (elv X) (elv Y) : Sem Value).run P w = .ok (.bool (decide (X = Y))) w
  hneq : ∀ t, E.arrs.contains t = true → ∀ X Y x y w, X < R → Y < R → (do eqGuard .neq t x y (elv X) (elv Y); binOp .neq t (elv X) (elv Y) : Sem Value).run P w = .ok (.bool (!decide (X = Y))) w

def MemOk (E : Env) (ob : Nat → Nat) (objs : List NE) (w : World) : Prop :=
  (∀ k e, objs[k]? = some e → E.w0.heap.size ≤ ob k ∧ ob k < w.heap.size ∧ e.val E < R ∧ (∀ i, i < 4 → w.cell? ⟨ob k, 0 + i, none⟩ = some (wd (wordAt (e.val E) i))) ∧ (∀ i, i < 4 → w.frozen? ⟨ob k, 0 + i, none⟩ = false)) ∧
  (∀ k k', k < objs.length → k' < objs.length → ob k = ob k' → k = k')

def FV.Ok (E : Env) (no : Nat) : FV → Prop
  | .el e => e.val E < R
  | .sl e => e.val E < R
  | .own k => k < no
  | .tb e _ => e.val E < R
  | _ => True

structure Inv (E : Env) (ob : Nat → Nat) (st : St) (a : Act) (w : World) : Prop where
  size : a.tmps.size = E.N
  df : a.defers = []
  slots : ∀ t sv, look st.sl t = some sv → ∃ v, a.tmps[t]? = some v ∧ Rel E ob w sv v ∧ sv.Ok E st.objs.length
  mem : MemOk E ob st.objs w
  path : ∀ e ∈ st.path, e.1.val E = e.2
  below : Below E.w0.heap.size E.w0 w

section
variable {P : Program} {E : Env} {ob : Nat → Nat} {st : St} {a : Act} {w w' : World}

theorem IsSl.below {v : Value} {N : Nat} (h : IsSl w v N) (hb : Below w.heap.size w w') : IsSl w' v N := by
  obtain ⟨b, o, c, rfl, hlt, hc⟩ := h
  exact ⟨b, o, c, rfl, Nat.lt_of_lt_of_le hlt hb.size, fun i hi => (hb.cell (p := ⟨b, o + i, none⟩) hlt).trans (hc i hi)⟩

theorem Rel.below {sv : FV} {v : Value} (h : Rel E ob w sv v) (hb : Below w.heap.size w w') : Rel E ob w' sv v := by
  cases sv with
  | sl e => exact IsSl.below h hb
  | _ => exact h

theorem MemOk.below {objs : List NE} (h : MemOk E ob objs w) (hb : Below w.heap.size w w') : MemOk E ob objs w' :=
  ⟨fun k e he => by
    obtain ⟨h1, h2, h3, h4, h5⟩ := h.1 k e he
    exact ⟨h1, Nat.lt_of_lt_of_le h2 hb.size, h3, fun i hi => (hb.cell (p := ⟨ob k, 0 + i, none⟩) h2).trans (h4 i hi), fun i hi => (hb.frozen (p := ⟨ob k, 0 + i, none⟩) h2).trans (h5 i hi)⟩, h.2⟩

theorem Inv.below' (I : Inv E ob st a w) (hb : Below w.heap.size w w') : Inv E ob st a w' :=
  ⟨I.size, I.df, fun t sv h => by
    obtain ⟨v, h1, h2, h3⟩ := I.slots t sv h
    exact ⟨v, h1, h2.below hb, h3⟩, I.mem.below hb, I.path, I.below.trans (hb.mono I.below.size)⟩

theorem dec_sound (I : Inv E ob st a w) {c : BE} {v : Bool} (h : dec st.path c = some v) : c.val E = v := by
  have : ∀ l : List (BE × Bool), (∀ e ∈ l, e.1.val E = e.2) → dec l c = some v → c.val E = v := by
    intro l
    induction l with
    | nil => intro _ h; cases h
    | cons e r ih =>
      intro hl h
      obtain ⟨c', b⟩ := e
      simp only [dec] at h
      split at h
      · rename_i hc
        have hv : b = v := by simpa using h
        subst hc; subst hv
        exact hl (c', b) (List.mem_cons_self ..)
      · exact ih (fun e he => hl e (List.mem_cons_of_mem _ he)) h
  exact this st.path I.path h

theorem good_sound (F : Fit P E) (I : Inv E ob st a w) {e : NE} (h : good st e = true) : e.val E < Q := by
  cases e with
  | v i =>
    simp only [good, beq_iff_eq] at h
    have := dec_sound I h
    exact of_decide_eq_true this
  | fn f a b => exact F.fnlt _ _ _
  | k c => exact (show c < Q by simpa [good] using h)
  | q => simp [good] at h

theorem opd_sound (I : Inv E ob st a w) {x : Operand} {sv : FV} (h : opd st x = some sv) : Rel E ob w sv (a.eval x) ∧ sv.Ok E st.objs.length := by
  cases x with
  | tmp t =>
    obtain ⟨v, h1, h2, h3⟩ := I.slots t sv h
    exact ⟨by simp [Act.eval, h1]; exact h2, h3⟩
  | const v =>
    simp only [opd, Option.some.injEq] at h
    subst h
    exact ⟨rfl, trivial⟩
  | global g => cases h
  | func f => cases h

/-- An operation that hands back a value in every world in which the objects stand as they are known. -/
structure Good (P : Program) (E : Env) (ob : Nat → Nat) (st : St) (a : Act) (w : World) (o : Oper) (sv : FV) : Prop where
  ok : sv.Ok E st.objs.length
  run : ∃ v, Rel E ob w sv v ∧ ∀ w', MemOk E ob st.objs w' → (execOp a.eval o).run P w' = .ok (.value v) w'

theorem val_sound (F : Fit P E) (I : Inv E ob st a w) {o : Oper} {sv : FV} (h : opF E.toDt st o.op = .val sv) : Good P E ob st a w o sv := by
  obtain ⟨dst, op, type, pos, after, guard⟩ := o
  simp only at h
  unfold opF at h
  split at h
  · split at h
    · rename_i x sv' h1
      simp only [RF.val.injEq] at h
      subst h
      obtain ⟨e1, k1⟩ := opd_sound I h1
      exact ⟨k1, _, e1, fun w' _ => by simp [execOp]⟩
    · cases h
  · split at h
    · rename_i x sv' h1
      simp only [RF.val.injEq] at h
      subst h
      obtain ⟨e1, k1⟩ := opd_sound I h1
      exact ⟨k1, _, e1, fun w' _ => by simp [execOp]⟩
    · cases h
  · split at h
    · split at h <;> cases h
    · cases h
  · split at h <;> cases h
  · -- slice
    split at h
    · rename_i t x ht
      split at h
      · rename_i k h1
        split at h
        · rename_i e he
          simp only [RF.val.injEq] at h
          subst h
          obtain ⟨e1, k1⟩ := opd_sound I h1
          obtain ⟨m1, m2, m3, m4, m5⟩ := I.mem.1 k e he
          have e1' : a.eval x = .pointer (some ⟨ob k, 0, none⟩) := e1
          refine ⟨m3, .slice (some ⟨ob k, 0, none⟩) 4 4, ⟨ob k, 0, 4, rfl, m2, m4⟩, fun w' _ => ?_⟩
          simp only [execOp, e1', Option.map_none]
          have := F.hslice t ht ⟨ob k, 0, none⟩ w'
          simp [this]
        · cases h
      · cases h
    · cases h
  · -- load
    split at h
    · rename_i t x ht
      split at h
      · rename_i k h1
        split at h
        · rename_i e he
          simp only [RF.val.injEq] at h
          subst h
          obtain ⟨e1, k1⟩ := opd_sound I h1
          obtain ⟨m1, m2, m3, m4, m5⟩ := I.mem.1 k e he
          have e1' : a.eval x = .pointer (some ⟨ob k, 0, none⟩) := e1
          refine ⟨m3, _, rfl, fun w' hm => ?_⟩
          simp only [execOp, e1']
          have := F.hload t ht (ob k) (e.val E) w' (hm.1 k e he).2.2.2.1
          simp [this]
        · cases h
      · cases h
    · cases h
  · split at h
    · split at h
      · split at h <;> cases h
      · cases h
    · cases h
  · -- not
    split at h
    · rename_i c pos' h1
      simp only [RF.val.injEq] at h
      subst h
      obtain ⟨e1, k1⟩ := opd_sound I h1
      refine ⟨trivial, _, rfl, fun w' _ => ?_⟩
      simp only [Rel] at e1
      simp only [execOp, e1, Op.unary]
      simp
      cases c.val E <;> cases pos' <;> rfl
    · cases h
  · -- eql
    split at h
    · rename_i t x y u ht
      split at h
      · rename_i p r h1 h2
        simp only [RF.val.injEq] at h
        subst h
        obtain ⟨e1, k1⟩ := opd_sound I h1
        obtain ⟨e2, k2⟩ := opd_sound I h2
        refine ⟨trivial, _, rfl, fun w' _ => ?_⟩
        simp only [Rel] at e1 e2
        have := F.heql t ht (p.val E) (r.val E) x y w' k1 k2
        simp only [execOp, e1, e2, BE.val, beq_true]
        rw [Sem.run_bind, this]
        rfl
      · cases h
    · cases h
  · -- neq
    split at h
    · rename_i t x y u ht
      split at h
      · rename_i p r h1 h2
        simp only [RF.val.injEq] at h
        subst h
        obtain ⟨e1, k1⟩ := opd_sound I h1
        obtain ⟨e2, k2⟩ := opd_sound I h2
        refine ⟨trivial, _, rfl, fun w' _ => ?_⟩
        simp only [Rel] at e1 e2
        have := F.hneq t ht (p.val E) (r.val E) x y w' k1 k2
        simp only [execOp, e1, e2, BE.val, beq_false]
        rw [Sem.run_bind, this]
        rfl
      · cases h
    · cases h
  · -- extract
    split at h
    · rename_i e c h1
      simp only [RF.val.injEq] at h
      subst h
      obtain ⟨e1, k1⟩ := opd_sound I h1
      simp only [Rel] at e1
      exact ⟨k1, _, rfl, fun w' _ => by simp [execOp, e1, Instr.extract]⟩
    · rename_i e c h1
      simp only [RF.val.injEq] at h
      subst h
      obtain ⟨e1, k1⟩ := opd_sound I h1
      simp only [Rel] at e1
      exact ⟨trivial, _, rfl, fun w' _ => by simp [execOp, e1, Instr.extract]⟩
    · cases h
  · -- pick
    split at h
    · rename_i c pos' h1
      split at h
      · cases h
      · rename_i v h2
        split at h
        · rename_i sv' h3
          simp only [RF.val.injEq] at h
          subst h
          obtain ⟨e1, k1⟩ := opd_sound I h1
          obtain ⟨e3, k3⟩ := opd_sound I h3
          have hc := dec_sound I h2
          simp only [Rel, hc] at e1
          refine ⟨k3, _, e3, fun w' _ => ?_⟩
          simp only [execOp, e1]
          by_cases hvp : v = pos' <;> simp [hvp, asBool]
        · cases h
    · rename_i b h1
      split at h
      · rename_i sv' h3
        simp only [RF.val.injEq] at h
        subst h
        obtain ⟨e1, k1⟩ := opd_sound I h1
        obtain ⟨e3, k3⟩ := opd_sound I h3
        simp only [Rel] at e1
        refine ⟨k3, _, e3, fun w' _ => ?_⟩
        simp only [execOp, e1]
        cases b <;> simp [asBool]
      · cases h
    · cases h
  · -- call
    split at h
    · unfold callF at h
      split at h
      all_goals (repeat' split at h)
      all_goals cases h
    · cases h
  · cases h

end
end Fx
end Go.Proofs.Yteohenebjcbliaa
