/- The executor of Slx is sound, second part: one operation; the orders of a region; a whole body.
   Conditions: the structure Fit. -/
import Derived.Test.YteohenebjcbliaaSlxS
namespace Go.Proofs.Yteohenebjcbliaa
namespace Slx
open Go.RowKit

/-- The values of the new nodes. -/
def grow (E : Env) (ρ : Nat → Nat) (nn : Nat) (new : List Nd) : Nat → Nat :=
  fun j => if j < nn then ρ j else match new[j - nn]? with | some d => d.val E ρ | none => 0

section
variable {P : Program} {E : Env} {ρ : Nat → Nat} {st : St} {a : Act} {w : World}

theorem grow_ext (nn : Nat) (new : List Nd) : Ext nn ρ (grow E ρ nn new) := fun j hj => by simp [grow, hj]
theorem grow_at {nn : Nat} {new : List Nd} {i : Nat} {d : Nd} (h : new[i]? = some d) : grow E ρ nn new (nn + i) = d.val E ρ := by
  have : ¬ nn + i < nn := by omega
  simp [grow, this, h]

theorem W_pos : 0 < W := by rw [W_eq]; omega

theorem nd_lt (F : Fit P E) {nn : Nat} (hb : ∀ j, j < nn → ρ j < W) {d : Nd} (h : d.ok E.toDt nn = true) : d.val E ρ < W := by
  simp only [Nd.ok, List.all_eq_true] at h
  have g : ∀ y ∈ d.args, A.val E ρ y < W := fun y hy => lt_W F hb (h y hy)
  cases d <;> simp only [Nd.args, List.mem_cons, List.not_mem_nil, or_false, forall_eq_or_imp, forall_eq] at g <;> simp only [Nd.val]
  case mulhi x y =>
    rw [Nat.div_lt_iff_lt_mul W_pos]
    exact Nat.mul_lt_mul'' g.1 g.2
  case addhi x y z => rw [Nat.div_lt_iff_lt_mul W_pos]; rw [W_eq] at *; omega
  case subhi x y z => rw [W_eq]; split <;> omega
  all_goals exact Nat.mod_lt _ W_pos

theorem sat_push {ρ' : Nat → Nat} : ∀ (new : List Nd) (nd : List Nd) (n : Nat), Sat E ρ' nd n → (∀ i d, new[i]? = some d → d.ok E.toDt (n + i) = true ∧ ρ' (n + i) = d.val E ρ') →
    Sat E ρ' (new.reverse ++ nd) (n + new.length)
  | [], nd, n, h, _ => by simpa using h
  | d :: r, nd, n, h, hd => by
    have h0 := hd 0 d rfl
    have := sat_push r (d :: nd) (n + 1) ⟨n, rfl, h0.1, h0.2, h⟩ fun i e he => by
      have := hd (i + 1) e (by simpa using he)
      rwa [show n + 1 + i = n + (i + 1) by omega]
    rw [List.reverse_cons, List.append_assoc]
    rwa [show n + (d :: r).length = n + 1 + r.length by simp; omega]

theorem Inv.push (F : Fit P E) (I : Inv E ρ st a w) {new : List Nd} (hn : new.all (Nd.ok E.toDt st.nn) = true) :
    Inv E (grow E ρ st.nn new) (st.push new) a w := by
  have hx : Ext st.nn ρ (grow E ρ st.nn new) := grow_ext _ _
  have hle : st.nn ≤ (st.push new).nn := by simp [St.push]
  simp only [List.all_eq_true] at hn
  refine ⟨I.size, I.df, fun t sv h => ?_, fun j hj => ?_, ?_, I.memok.mono hle, ?_, fun e he => ?_⟩
  · obtain ⟨h1, h2⟩ := I.slots t sv h
    exact ⟨by rw [SV.den_ext h2 hx]; exact h1, SV.Ok_ext h2 hx hle⟩
  · by_cases hjn : j < st.nn
    · rw [hx j hjn]; exact I.bnd j hjn
    · simp only [grow, hjn, if_false]
      split
      · rename_i d hd
        exact nd_lt F I.bnd (hn d (List.mem_of_getElem? hd))
      · exact W_pos
  · refine sat_push new st.nd st.nn (Sat_ext I.sat hx) fun i d hd => ?_
    have hok := hn d (List.mem_of_getElem? hd)
    exact ⟨Nd.ok_mono hok (by omega), by rw [grow_at hd, Nd.val_ext hok hx]⟩
  · obtain ⟨d, hd⟩ := I.wld
    exact ⟨d, by rw [show (st.push new).mem = st.mem from rfl, wof_ext I.memok hx]; exact hd⟩
  · obtain ⟨h1, h2⟩ := I.path e he
    exact ⟨C.ok_mono h1 hle, by rw [C.val_ext h1 hx]; exact h2⟩

theorem Inv.draw (I : Inv E ρ st a w) (d : Nat) : Inv E ρ st a { w with drawn := d } :=
  { I with wld := by obtain ⟨d', h⟩ := I.wld; exact ⟨d, by rw [h]⟩ }

theorem Inv.put (I : Inv E ρ st a w) {dst : Option Nat} (hd : dstOk E.toDt dst = true) {sv : SV} (hs : sv.Ok E ρ st.nn) :
    Inv E ρ (st.put dst sv) (a.put dst (sv.den E ρ)) w := by
  cases dst with
  | none => exact I
  | some d =>
    have hdN : d < a.tmps.size := by rw [I.size]; simpa [dstOk] using hd
    refine ⟨by simp [Act.put, I.size], by simp [Act.put, I.df], fun t sv' h => ?_, I.bnd, I.sat, I.memok, I.wld, I.path⟩
    simp only [St.put, look] at h
    split at h
    · rename_i hdt
      simp only [Option.some.injEq] at h
      subst hdt; subst h
      exact ⟨by simp [Act.put, hdN], hs⟩
    · rename_i hdt
      obtain ⟨h1, h2⟩ := I.slots t sv' h
      exact ⟨by simp [Act.put, Array.getElem?_setIfInBounds_ne hdt]; exact h1, h2⟩

/-- What an operation does that hands back a value. -/
def Runs (P : Program) (a : Act) (o : Oper) (w : World) (v : Value) : Prop :=
  (execOp a.eval o).run P w = .ok (.value v) w ∨
  ∃ f args, (execOp a.eval o).run P w = .ok (.enter f args) w ∧ Calls P f args w fun e w' => e = .returned v ∧ ∃ d, w' = { w with drawn := d }

theorem run_call {o : Oper} {f : FuncId} {args : Array Operand} {ts : Array TypeId} (h : o.op = .call ⟨.value (.func f), args, ts⟩) :
    (execOp a.eval o).run P w = (callFunc f (args.map a.eval)).run P w := by
  simp [execOp, h, resolve, Act.eval, Deferred.ofValue, invoke]

/-- A word that an operation reads. -/
theorem opd_wa (I : Inv E ρ st a w) {x : Operand} {y : A} {b : Bool} (h : opd st x = some (.wa y b)) : a.eval x = wd (y.val E ρ) ∧ y.ok E.toDt st.nn = true ∧ (b = true → y.val E ρ ≤ 1) := by
  obtain ⟨h1, h2⟩ := opd_sound I h
  exact ⟨h1, h2.1, h2.2⟩

/-- What is wanted of an operation that hands back 'sv' and lays the nodes 'new'. -/
structure Good (P : Program) (E : Env) (ρ : Nat → Nat) (st : St) (a : Act) (w : World) (o : Oper) (sv : SV) (new : List Nd) : Prop where
  ok : sv.Ok E (grow E ρ st.nn new) (st.nn + new.length)
  runs : Runs P a o w (sv.den E (grow E ρ st.nn new))
  still : isPure E.toDt o.op = true → ∀ w', (execOp a.eval o).run P w' = .ok (.value (sv.den E (grow E ρ st.nn new))) w'

theorem good_of (o : Oper) {sv : SV} (hok : sv.Ok E ρ st.nn) (h : ∀ w', (execOp a.eval o).run P w' = .ok (.value (sv.den E ρ)) w') :
    Good P E ρ st a w o sv [] := by
  have hx := grow_ext (E := E) (ρ := ρ) st.nn []
  exact ⟨SV.Ok_ext hok hx (by simp), .inl (by rw [SV.den_ext hok hx]; exact h w), fun _ w' => by rw [SV.den_ext hok hx]; exact h w'⟩

theorem good_at (o : Oper) {sv : SV} (hp : isPure E.toDt o.op = false) (hok : sv.Ok E ρ st.nn) (h : Runs P a o w (sv.den E ρ)) :
    Good P E ρ st a w o sv [] := by
  have hx := grow_ext (E := E) (ρ := ρ) st.nn []
  exact ⟨SV.Ok_ext hok hx (by simp), by rw [SV.den_ext hok hx]; exact h, fun h => by rw [hp] at h; cases h⟩

/-- Two words that are made at once. -/
theorem good_two (o : Oper) {d e : Nd} {bb : Bool} (hb : bb = true → e.val E ρ ≤ 1)
    (hr : Runs P a o w (.tuple #[wd (d.val E ρ), wd (e.val E ρ)]))
    (hs : isPure E.toDt o.op = true → ∀ w', (execOp a.eval o).run P w' = .ok (.value (.tuple #[wd (d.val E ρ), wd (e.val E ρ)])) w') :
    Good P E ρ st a w o (.wt (.node st.nn) (.node (st.nn + 1)) false bb) [d, e] := by
  have g0 : grow E ρ st.nn [d, e] st.nn = d.val E ρ := grow_at (nn := st.nn) (new := [d, e]) (i := 0) rfl
  have g1 : grow E ρ st.nn [d, e] (st.nn + 1) = e.val E ρ := grow_at (nn := st.nn) (new := [d, e]) (i := 1) rfl
  have hden : SV.den E (grow E ρ st.nn [d, e]) (.wt (.node st.nn) (.node (st.nn + 1)) false bb) = .tuple #[wd (d.val E ρ), wd (e.val E ρ)] := by
    simp only [SV.den, A.val, g0, g1]
  refine ⟨⟨by simp [A.ok], by simp [A.ok], fun h => (by cases h), fun h => ?_⟩, by rw [hden]; exact hr, fun hp w' => by rw [hden]; exact hs hp w'⟩
  simp only [A.val, g1]
  exact hb h

theorem call_map {args : Array Operand} {l : List Operand} (h : args.toList = l) (f : Operand → Value) : args.map f = (l.map f).toArray := by
  subst h; cases args; simp

theorem map_one {α β : Type} {l : List α} {g : α → β} {x : β} (h : l.map g = [x]) : ∃ p, l = [p] ∧ g p = x := by
  match l, h with
  | [p], h => exact ⟨p, rfl, by simpa using h⟩
theorem map_two {α β : Type} {l : List α} {g : α → β} {x y : β} (h : l.map g = [x, y]) : ∃ p q, l = [p, q] ∧ g p = x ∧ g q = y := by
  match l, h with
  | [p, q], h => exact ⟨p, q, rfl, by simpa using h⟩
theorem map_three {α β : Type} {l : List α} {g : α → β} {x y z : β} (h : l.map g = [x, y, z]) : ∃ p q r, l = [p, q, r] ∧ g p = x ∧ g q = y ∧ g r = z := by
  match l, h with
  | [p, q, r], h => exact ⟨p, q, r, rfl, by simpa using h⟩

theorem call_sound (F : Fit P E) (I : Inv E ρ st a w) {o : Oper} {f : FuncId} {args : Array Operand} {ts : Array TypeId} (hop : o.op = .call ⟨.value (.func f), args, ts⟩)
    {sv : SV} {new : List Nd} (h : callR E.toDt st f (args.toList.map (opd st)) = .val sv new) (hn : new.all (Nd.ok E.toDt st.nn) = true) :
    Good P E ρ st a w o sv new := by
  have hrun := fun w' => run_call (P := P) (a := a) (w := w') hop
  have hpure : isPure E.toDt o.op = (f != E.mul64 && f != E.sm) := by rw [hop]; rfl
  unfold callR at h
  split at h
  · rename_i x bx y by_ hl
    split at h
    · rename_i hf
      simp only [R.val.injEq] at h
      obtain ⟨rfl, rfl⟩ := h
      obtain ⟨p, q, hpq, h1, h2⟩ := map_two hl
      have o1 := opd_wa I h1
      have o2 := opd_wa I h2
      simp only [List.all_cons, List.all_nil, Bool.and_true, Bool.and_eq_true] at hn
      refine good_two o (fun h => by cases h) (.inr ⟨f, args.map a.eval, ?_, ?_⟩) (fun hp => ?_)
      · rw [hrun, hf.1]; exact F.hmule (hf.1 ▸ hf.2) _ _
      · rw [call_map hpq, hf.1]
        simp only [List.map_cons, List.map_nil, o1.1, o2.1]
        exact (F.hmul (hf.1 ▸ hf.2) _ _ (lt_W F I.bnd o1.2.1) (lt_W F I.bnd o2.2.1) w).mono fun e w' ⟨he, hw⟩ => ⟨he, w.drawn, by rw [hw]⟩
      · rw [hpure, hf.1] at hp; simp at hp
    · cases h
  · rename_i x bx y by_ z hl
    obtain ⟨p, q, r, hpq, h1, h2, h3⟩ := map_three hl
    have o1 := opd_wa I h1
    have o2 := opd_wa I h2
    have o3 := opd_wa I h3
    have hz := o3.2.2 rfl
    have hx := lt_W F I.bnd o1.2.1
    have hy := lt_W F I.bnd o2.2.1
    have hargs : args.map a.eval = #[wd (x.val E ρ), wd (y.val E ρ), wd (z.val E ρ)] := by
      rw [call_map hpq]
      simp only [List.map_cons, List.map_nil, o1.1, o2.1, o3.1]
    split at h
    · rename_i hf
      simp only [R.val.injEq] at h
      obtain ⟨rfl, rfl⟩ := h
      simp only [List.all_cons, List.all_nil, Bool.and_true, Bool.and_eq_true] at hn
      have key : ∀ w', (execOp a.eval o).run P w' = .ok (.value (.tuple #[wd (Nd.val E ρ (.addlo x y z)), wd (Nd.val E ρ (.addhi x y z))])) w' := fun w' => by
        rw [hrun, hargs, hf.1]; exact F.hadd (hf.1 ▸ hf.2) _ _ _ hz w'
      refine good_two o (fun _ => ?_) (.inl (key w)) (fun _ => key)
      simp only [Nd.val]
      have : (x.val E ρ + y.val E ρ + z.val E ρ) / W < 2 := by rw [Nat.div_lt_iff_lt_mul W_pos]; omega
      omega
    · split at h
      · rename_i hf
        simp only [R.val.injEq] at h
        obtain ⟨rfl, rfl⟩ := h
        simp only [List.all_cons, List.all_nil, Bool.and_true, Bool.and_eq_true] at hn
        have key : ∀ w', (execOp a.eval o).run P w' = .ok (.value (.tuple #[wd (Nd.val E ρ (.sublo x y z)), wd (Nd.val E ρ (.subhi x y z))])) w' := fun w' => by
          rw [hrun, hargs, hf.1]; exact F.hsub (hf.1 ▸ hf.2) _ _ _ hz w'
        refine good_two o (fun _ => ?_) (.inl (key w)) (fun _ => key)
        simp only [Nd.val]
        split <;> omega
      · cases h
  · rename_i k hl
    split at h
    · rename_i hf
      split at h
      · rename_i l hc
        simp only [R.val.injEq] at h
        obtain ⟨rfl, rfl⟩ := h
        obtain ⟨p, hpq, hl⟩ := map_one hl
        obtain ⟨o1, ok1⟩ := opd_sound I hl
        have hk : k < E.np := ok1
        obtain ⟨g1, g2⟩ := cells_sound (ρ := ρ) F I.memok hk (Nat.le_refl _) hc
        have hlen : (l.map (A.val E ρ)).length = E.len := by simpa using g1
        have hcell : ∀ i x, (l.map (A.val E ρ))[i]? = some x → x < W ∧ w.cell? (ad E k i) = some (wd x) := fun i x hx => by
          simp only [List.getElem?_map, Option.map_eq_some_iff] at hx
          obtain ⟨y, hy, rfl⟩ := hx
          obtain ⟨d, hw⟩ := I.wld
          exact ⟨lt_W F I.bnd (g2 i y hy).2, by rw [hw]; exact (g2 i y hy).1⟩
        have hok : (C.ms l).ok E.toDt st.nn = true := by
          simp only [C.ok, List.all_eq_true]
          intro x hx
          obtain ⟨i, hi⟩ := List.mem_iff_getElem?.1 hx
          exact (g2 i x hi).2
        refine good_at o (by rw [hpure, hf.1]; simp) hok (.inr ⟨f, args.map a.eval, ?_, ?_⟩)
        · rw [hrun, hf.1]; exact F.hsme (hf.1 ▸ hf.2) _ _
        · rw [call_map hpq, hf.1]
          simp only [List.map_cons, List.map_nil, o1, SV.den]
          refine (F.hsm (hf.1 ▸ hf.2) k w _ hk hlen hcell).mono fun e w' ⟨he, hw⟩ => ⟨?_, hw⟩
          rw [he]
          simp only [C.val, beq_true]
      · cases h
    · cases h
  · cases h

end
end Slx
end Go.Proofs.Yteohenebjcbliaa
