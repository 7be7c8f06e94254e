/- The executor Fx is sound: calls, new objects, stores; regions in every order; bodies. Conditions: the structure Fit. -/
import Derived.Test.YteohenebjcbliaaFxS
set_option linter.unusedVariables false
set_option linter.unusedSimpArgs false
namespace Go.Proofs.Yteohenebjcbliaa
namespace Fx
open Go.RowKit
open Slx (wd W)

section
variable {P : Program} {E : Env} {ob : Nat → Nat} {st : St} {a : Act} {w w' : World}

theorem run_call {o : Oper} {f : FuncId} {args : Array Operand} {ts : Array TypeId} (h : o.op = .call ⟨.value (.func f), args, ts⟩) :
    (execOp a.eval o).run P w = (callFunc f (args.map a.eval)).run P w := by
  simp [execOp, h, resolve, Act.eval, Deferred.ofValue, invoke]

theorem opF_call {D : Dt} {op : Op} {f : Nat} {c : CK} {sv : FV} (h : opF D st op = .call f c sv) :
    ∃ args ts, op = .call ⟨.value (.func f), args, ts⟩ ∧ tabLook D.tab f = some c ∧ callF st f c (args.toList.map (opd st)) = .call f c sv := by
  unfold opF at h
  split at h
  case h_13 f' args ts =>
    split at h
    · rename_i c' hc
      have h' := h
      unfold callF at h
      split at h
      all_goals (repeat' split at h)
      all_goals first
        | (simp only [RF.call.injEq] at h; obtain ⟨rfl, rfl, rfl⟩ := h; exact ⟨args, ts, rfl, hc, h'⟩)
        | cases h
    · cases h
  all_goals (repeat' split at h)
  all_goals cases h

/-- What a call does. -/
def Ends (P : Program) (E : Env) (ob : Nat → Nat) (a : Act) (w : World) (o : Oper) (sv : FV) : Prop :=
  ∃ f args, (execOp a.eval o).run P w = .ok (.enter f args) w ∧ Calls P f args w fun e w' => ∃ v, e = .returned v ∧ Rel E ob w' sv v ∧ Below w.heap.size w w'

theorem call_sound (F : Fit P E) (I : Inv E ob st a w) {o : Oper} {f : Nat} {c : CK} {sv : FV} (h : opF E.toDt st o.op = .call f c sv) :
    sv.Ok E st.objs.length ∧ Ends P E ob a w o sv := by
  obtain ⟨args, ts, hop, ht, hc⟩ := opF_call h
  have C := F.calls f c ht
  have hrun : (execOp a.eval o).run P w = .ok (.enter f (args.map a.eval)) w := by rw [run_call hop]; exact F.enters f c ht _ _
  have hR : ∀ {x : Nat}, x < Q → x < R := fun h => Nat.lt_trans h Q_lt
  unfold callF at hc
  split at hc
  · -- el0
    rename_i g hl
    simp only [RF.call.injEq] at hc
    obtain ⟨_, _, rfl⟩ := hc
    have ha : args.toList = [] := by simpa using hl
    refine ⟨hR (F.fnlt _ _ _), ⟨f, _, hrun, by rw [Slx.call_map ha]; exact (C w).mono fun e w' ⟨he, hb⟩ => ⟨_, he, rfl, hb⟩⟩⟩
  · rename_i g x hl
    split at hc
    · rename_i hg
      simp only [RF.call.injEq] at hc
      obtain ⟨_, _, rfl⟩ := hc
      obtain ⟨p, ha, h1⟩ := Slx.map_one hl
      obtain ⟨e1, k1⟩ := opd_sound I h1
      simp only [Rel] at e1
      refine ⟨hR (F.fnlt _ _ _), ⟨f, _, hrun, by rw [Slx.call_map ha]; simp only [List.map_cons, List.map_nil, e1]; exact (C _ w (good_sound F I hg)).mono fun e w' ⟨he, hb⟩ => ⟨_, he, rfl, hb⟩⟩⟩
    · cases hc
  · rename_i g x y hl
    split at hc
    · rename_i hg
      simp only [RF.call.injEq] at hc
      obtain ⟨_, _, rfl⟩ := hc
      obtain ⟨p, r, ha, h1, h2⟩ := Slx.map_two hl
      obtain ⟨e1, k1⟩ := opd_sound I h1
      obtain ⟨e2, k2⟩ := opd_sound I h2
      simp only [Rel] at e1 e2
      simp only [Bool.and_eq_true] at hg
      refine ⟨hR (F.fnlt _ _ _), ⟨f, _, hrun, by rw [Slx.call_map ha]; simp only [List.map_cons, List.map_nil, e1, e2]; exact (C _ _ w (good_sound F I hg.1) (good_sound F I hg.2)).mono fun e w' ⟨he, hb⟩ => ⟨_, he, rfl, hb⟩⟩⟩
    · cases hc
  · rename_i x hl
    simp only [RF.call.injEq] at hc
    obtain ⟨_, _, rfl⟩ := hc
    have ha : args.toList = [] := by simpa using hl
    exact ⟨C.1, ⟨f, _, hrun, by rw [Slx.call_map ha]; exact (C.2 w).mono fun e w' h => h⟩⟩
  · rename_i g x hl
    split at hc
    · rename_i hg
      simp only [RF.call.injEq] at hc
      obtain ⟨_, _, rfl⟩ := hc
      obtain ⟨p, r, ha, h1, h2⟩ := Slx.map_two hl
      obtain ⟨e1, k1⟩ := opd_sound I h1
      obtain ⟨e2, k2⟩ := opd_sound I h2
      refine ⟨hR (F.fnlt _ _ _), ⟨f, _, hrun, by rw [Slx.call_map ha]; simp only [List.map_cons, List.map_nil]; exact (C _ _ _ w (good_sound F I hg) e1 e2).mono fun e w' h => h⟩⟩
    · cases hc
  · rename_i g x y hl
    split at hc
    · rename_i hg
      simp only [RF.call.injEq] at hc
      obtain ⟨_, _, rfl⟩ := hc
      obtain ⟨p, r, s, ha, h1, h2, h3⟩ := Slx.map_three hl
      obtain ⟨e1, k1⟩ := opd_sound I h1
      obtain ⟨e2, k2⟩ := opd_sound I h2
      obtain ⟨e3, k3⟩ := opd_sound I h3
      simp only [Bool.and_eq_true] at hg
      refine ⟨hR (F.fnlt _ _ _), ⟨f, _, hrun, by rw [Slx.call_map ha]; simp only [List.map_cons, List.map_nil]; exact (C _ _ _ _ _ w (good_sound F I hg.1) (good_sound F I hg.2) e1 e2 e3).mono fun e w' h => h⟩⟩
    · cases hc
  · rename_i x m hl
    split at hc
    · rename_i hm
      simp only [RF.call.injEq] at hc
      obtain ⟨_, _, rfl⟩ := hc
      obtain ⟨p, ha, h1⟩ := Slx.map_one hl
      obtain ⟨e1, k1⟩ := opd_sound I h1
      simp only [Rel] at e1
      subst hm
      exact ⟨C.1, ⟨f, _, hrun, by rw [Slx.call_map ha]; simp only [List.map_cons, List.map_nil, e1]; exact (C.2 w).mono fun e w' h => h⟩⟩
    · cases hc
  · rename_i x y hl
    simp only [RF.call.injEq] at hc
    obtain ⟨_, _, rfl⟩ := hc
    obtain ⟨p, r, ha, h1, h2⟩ := Slx.map_two hl
    obtain ⟨e1, k1⟩ := opd_sound I h1
    obtain ⟨e2, k2⟩ := opd_sound I h2
    exact ⟨trivial, ⟨f, _, hrun, by rw [Slx.call_map ha]; simp only [List.map_cons, List.map_nil]; exact (C _ _ _ _ w k1 k2 e1 e2).mono fun e w' ⟨he, hb⟩ => ⟨_, he, by simp [Rel, BE.val], hb⟩⟩⟩
  · rename_i x y hl
    simp only [RF.call.injEq] at hc
    obtain ⟨_, _, rfl⟩ := hc
    obtain ⟨p, r, ha, h1, h2⟩ := Slx.map_two hl
    obtain ⟨e1, k1⟩ := opd_sound I h1
    obtain ⟨e2, k2⟩ := opd_sound I h2
    exact ⟨trivial, ⟨f, _, hrun, by rw [Slx.call_map ha]; simp only [List.map_cons, List.map_nil]; exact (C _ _ _ _ w k1 k2 e1 e2).mono fun e w' ⟨he, hb⟩ => ⟨_, he, by simp [Rel, BE.val], hb⟩⟩⟩
  · rename_i g x hl
    split at hc
    · rename_i hg
      simp only [RF.call.injEq] at hc
      obtain ⟨_, _, rfl⟩ := hc
      obtain ⟨p, ha, h1⟩ := Slx.map_one hl
      obtain ⟨e1, k1⟩ := opd_sound I h1
      simp only [Rel] at e1
      refine ⟨trivial, ⟨f, _, hrun, by rw [Slx.call_map ha]; simp only [List.map_cons, List.map_nil, e1]; exact (C _ w (good_sound F I hg)).mono fun e w' ⟨he, hb⟩ => ⟨_, he, by simp [Rel, BE.val], hb⟩⟩⟩
    · cases hc
  · rename_i g p0 x hl
    split at hc
    · rename_i hg
      simp only [RF.call.injEq] at hc
      obtain ⟨_, _, rfl⟩ := hc
      obtain ⟨p, ha, h1⟩ := Slx.map_one hl
      obtain ⟨e1, k1⟩ := opd_sound I h1
      simp only [Rel] at e1
      refine ⟨hR (F.fnlt _ _ _), ⟨f, _, hrun, by rw [Slx.call_map ha]; simp only [List.map_cons, List.map_nil, e1]; exact (C _ w (good_sound F I hg)).mono fun e w' ⟨he, hb⟩ => ⟨_, he, by simp [Rel, BE.val, NE.val], hb⟩⟩⟩
    · cases hc
  · cases hc

theorem Inv.put (I : Inv E ob st a w) {dst : Option Nat} (hd : dstOk E.toDt dst = true) {sv : FV} {v : Value} (hv : Rel E ob w sv v) (hs : sv.Ok E st.objs.length) :
    Inv E ob (st.put dst sv) (a.put dst v) w := by
  cases dst with
  | none => exact I
  | some d =>
    have hdN : d < a.tmps.size := by rw [I.size]; simpa [dstOk] using hd
    refine ⟨by simp [Act.put, I.size], by simp [Act.put, I.df], fun t sv' h => ?_, I.mem, I.path, I.below⟩
    simp only [St.put, look] at h
    split at h
    · rename_i hdt
      simp only [Option.some.injEq] at h
      subst hdt; subst h
      exact ⟨v, by simp [Act.put, hdN], hv, hs⟩
    · rename_i hdt
      obtain ⟨u, h1, h2, h3⟩ := I.slots t sv' h
      exact ⟨u, by simp [Act.put, Array.getElem?_setIfInBounds_ne hdt]; exact h1, h2, h3⟩

theorem put_objs (st : St) (dst : Option Nat) (sv : FV) : (st.put dst sv).objs = st.objs := by cases dst <;> rfl

/-- One operation that hands back a value, or a call. -/
theorem step1_sound (F : Fit P E) (I : Inv E ob st a w) {o : Oper} {st' : St} (h : step1 E.toDt o st = some st') {K : Act → World → Prop} {Q' : Exit → Act → World → Prop}
    (hK : ∀ a' w', Inv E ob st' a' w' → K a' w') : o.wp P a w K Q' := by
  unfold step1 at h
  split at h
  · rename_i hd
    split at h
    · rename_i sv ho
      simp only [Option.some.injEq] at h
      subst h
      have G := val_sound F I ho
      obtain ⟨v, hv, hr⟩ := G.run
      unfold Oper.wp
      rw [hr w I.mem]
      exact hK _ _ (I.put hd hv G.ok)
    · rename_i f c sv ho
      simp only [Option.some.injEq] at h
      subst h
      obtain ⟨hok, f', args, hr, hC⟩ := call_sound F I ho
      unfold Oper.wp
      rw [hr]
      refine hC.mono fun e w' ⟨v, he, hv, hb⟩ => ?_
      subst he
      exact hK _ _ ((I.below' hb).put hd hv hok)
    · cases h
  · cases h

theorem both_sound {α : Type} {c : BE} {f : St → Option (List α)} {L : List α} (h : both c st f = some L) (I : Inv E ob st a w) :
    ∃ l st', f st' = some l ∧ (∀ x ∈ l, x ∈ L) ∧ Inv E ob st' a w ∧ st'.objs = st.objs := by
  unfold both at h
  split at h
  · rename_i l l' h1 h2
    simp only [Option.some.injEq] at h
    subst h
    have hp : ∀ b, c.val E = b → ∀ e ∈ (c, b) :: st.path, e.1.val E = e.2 := by
      intro b hb e he
      rcases List.mem_cons.1 he with rfl | he
      · exact hb
      · exact I.path e he
    have hI : ∀ b, c.val E = b → Inv E ob { st with path := (c, b) :: st.path } a w := fun b hb => ⟨I.size, I.df, I.slots, I.mem, hp b hb, I.below⟩
    cases hv : c.val E with
    | true => exact ⟨l, _, h1, fun x hx => List.mem_append_left _ hx, hI true hv, rfl⟩
    | false => exact ⟨l', _, h2, fun x hx => List.mem_append_right _ hx, hI false hv, rfl⟩
  · cases h

def boolOf : Value → Option Bool
  | .bool b => some b
  | _ => none

theorem yielded_some {ops : Array Oper} {tmps : Array Value} {j t : Nat} (ht : (ops[j]?).bind (·.dst) = some t) {v : Value} (hv : tmps[t]? = some v) :
    yielded ops tmps j = boolOf v := by
  unfold yielded
  rw [ht]
  simp only [Option.bind_some, hv]
  cases v <;> rfl

theorem wantd_sound (I : Inv E ob st a w) {ops : Array Oper} {o : Oper} :
    (wantd ops st o = .yes → Region.wanted o (yielded ops a.tmps) = true) ∧ (wantd ops st o = .no → Region.wanted o (yielded ops a.tmps) = false) := by
  unfold wantd Region.wanted
  cases hg : o.guard with
  | none => exact ⟨fun _ => rfl, fun h => by cases h⟩
  | some g =>
    obtain ⟨j, want⟩ := g
    simp only
    cases ht : (ops[j]?).bind (·.dst) with
    | none => exact ⟨fun h => (by cases h), fun h => (by cases h)⟩
    | some t =>
      simp only
      cases hl : look st.sl t with
      | none => exact ⟨fun h => (by cases h), fun h => (by cases h)⟩
      | some sv =>
        obtain ⟨v, h1, h2, h3⟩ := I.slots t sv hl
        rw [yielded_some ht h1]
        cases sv with
        | bo c pos =>
          simp only [Rel] at h2
          subst h2
          simp only [boolOf]
          cases hd : dec st.path c with
          | none => exact ⟨fun h => (by simp at h), fun h => (by simp at h)⟩
          | some v =>
            have hc := dec_sound I hd
            rw [hc]
            simp only
            by_cases hw : (v == pos) = want
            · rw [hw]; simp
            · simp [hw]
        | lv x =>
          simp only [Rel] at h2
          subst h2
          cases v with
          | bool b =>
            simp only [boolOf]
            by_cases hw : b = want
            · rw [hw]; simp
            · simp [hw]
          | _ => exact ⟨fun h => (by cases h), fun h => (by cases h)⟩
        | u =>
          simp only [Rel] at h2
          subst h2
          exact ⟨fun h => (by cases h), fun _ => rfl⟩
        | _ => exact ⟨fun h => (by cases h), fun h => (by cases h)⟩

end
end Fx
end Go.Proofs.Yteohenebjcbliaa
