/- The executor of Slx is sound, last part: a region in its order and in every order; a body.
   Conditions: the structure Fit. -/
import Derived.Test.YteohenebjcbliaaSlxT
namespace Go.Proofs.Yteohenebjcbliaa
namespace Slx
open Go.RowKit

structure Later (st st' : St) (ρ ρ' : Nat → Nat) : Prop where
  ext : Ext st.nn ρ ρ'
  le : st.nn ≤ st'.nn
theorem Later.trans {s1 s2 s3 : St} {r1 r2 r3 : Nat → Nat} (h : Later s1 s2 r1 r2) (h' : Later s2 s3 r2 r3) : Later s1 s3 r1 r3 :=
  ⟨Ext.trans h.ext h'.ext h.le, Nat.le_trans h.le h'.le⟩
theorem Later.refl (st : St) (ρ : Nat → Nat) : Later st st ρ ρ := ⟨Ext.refl _ _, Nat.le_refl _⟩

section
variable {P : Program} {E : Env} {ρ : Nat → Nat} {st : St} {a : Act} {w : World}

theorem put_nn (st : St) (dst : Option Nat) (sv : SV) : (st.put dst sv).nn = st.nn := by cases dst <;> rfl

theorem callR_store {D : Dt} {st : St} {f k i : Nat} {x : A} {l : List (Option SV)} (h : callR D st f l = .store k i x) : False := by
  unfold callR at h
  split at h
  · split at h <;> cases h
  · split at h
    · cases h
    · split at h <;> cases h
  · split at h
    · split at h <;> cases h
    · cases h
  · cases h

theorem opR_store {D : Dt} {st : St} {op : Op} {k i : Nat} {x : A} (h : opR D st op = .store k i x) :
    ∃ p q b, op = .store D.u64 p q ∧ opd st p = some (.wq k i) ∧ opd st q = some (.wa x b) ∧ k < D.np ∧ i < D.len ∧ D.wr k = true := by
  unfold opR at h
  split at h
  case h_6 t p q =>
    split at h
    · rename_i ht
      split at h
      · rename_i k' i' z b h1 h2
        split at h
        · rename_i hki
          simp only [R.store.injEq] at h
          obtain ⟨rfl, rfl, rfl⟩ := h
          exact ⟨p, q, b, by rw [ht], h1, h2, hki⟩
        · cases h
      · cases h
    · cases h
  case h_13 => exact (callR_store h).elim
  all_goals (repeat' split at h)
  all_goals cases h

theorem noGuard_spec {o : Oper} (h : noGuard o = true) : o.guard = none := by
  unfold noGuard at h
  split at h
  · assumption
  · cases h

theorem store_sound (F : Fit P E) (I : Inv E ρ st a w) {o : Oper} {k i : Nat} {x : A} (h : opR E.toDt st o.op = .store k i x) :
    k < E.np ∧ i < E.len ∧ E.wr k = true ∧ x.ok E.toDt st.nn = true ∧ (execOp a.eval o).run P w = .ok .skip (w.setCell (ad E k i) (wd (x.val E ρ))) := by
  obtain ⟨dst, op, type, pos, after, guard⟩ := o
  obtain ⟨p, q, b, rfl, h1, h2, hki⟩ := opR_store h
  obtain ⟨e1, k1⟩ := opd_sound I h1
  have o2 := opd_wa I h2
  obtain ⟨d, hw⟩ := I.wld
  obtain ⟨v, hv⟩ := wof_some (ρ := ρ) F I.memok k i hki.1 hki.2.1
  have hc : w.cell? (ad E k i) = some v := by rw [hw]; exact hv
  have hf : w.frozen? (ad E k i) = false := by
    rw [hw]
    show (wof E ρ st.mem).frozen? _ = false
    rw [wof_frozen]; exact F.frz _ _ hki.1 hki.2.1 hki.2.2
  have hs := F.hstore _ _ (x.val E ρ) _ hc hf
  refine ⟨hki.1, hki.2.1, hki.2.2, o2.2.1, ?_⟩
  simp only [ad] at hs
  simp only [execOp, e1, SV.den, o2.1, ad]
  simp [hs]

theorem Inv.store (I : Inv E ρ st a w) {k i : Nat} {x : A} (hk : k < E.np) (hi : i < E.len) (hw : E.wr k = true) (hx : x.ok E.toDt st.nn = true) :
    Inv E ρ { st with mem := ((k, i), x) :: st.mem } a (w.setCell (ad E k i) (wd (x.val E ρ))) :=
  { I with
    memok := fun e he => by
      rcases List.mem_cons.1 he with rfl | he
      · exact ⟨hk, hi, hw, hx⟩
      · exact I.memok e he
    wld := by obtain ⟨d, h⟩ := I.wld; exact ⟨d, by rw [h]; rfl⟩ }

theorem step1_sound (F : Fit P E) (I : Inv E ρ st a w) {o : Oper} {L : List St} (h : step1 E.toDt o st = some L) {K : Act → World → Prop} {Q : Exit → Act → World → Prop}
    (hK : ∀ st' ∈ L, ∀ ρ' a' w', Later st st' ρ ρ' → Inv E ρ' st' a' w' → K a' w') : o.wp P a w K Q := by
  unfold step1 at h
  split at h
  · rename_i hd
    split at h
    · rename_i sv new ho
      split at h
      · rename_i hn
        simp only [Option.some.injEq] at h
        subst h
        have G := val_sound F I ho hn
        have I1 := (I.push F hn).put hd G.ok
        have hl : Later st ((st.push new).put o.dst sv) ρ (grow E ρ st.nn new) := ⟨grow_ext _ _, by rw [put_nn]; simp [St.push]⟩
        have hk := fun d => hK _ (List.mem_cons_self ..) _ _ _ hl (I1.draw d)
        have hk0 := hK _ (List.mem_cons_self ..) _ _ _ hl I1
        unfold Oper.wp
        rcases G.runs with hr | ⟨f, args, hr, hc⟩
        · rw [hr]; exact hk0
        · rw [hr]
          refine hc.mono fun e w' ⟨he, d, hw⟩ => ?_
          subst he
          rw [hw]
          exact hk d
      · cases h
    · rename_i k i x ho
      simp only [Option.some.injEq] at h
      subst h
      obtain ⟨hk, hi, hw, hx, hr⟩ := store_sound F I ho
      have I1 := (I.store hk hi hw hx).put (sv := .wu) hd trivial
      unfold Oper.wp
      rw [hr]
      exact hK _ (List.mem_cons_self ..) _ _ _ ⟨Ext.refl _ _, by rw [put_nn]; exact Nat.le_refl _⟩ I1
    · cases h
  · cases h

theorem both_sound {α : Type} {c : C} {f : St → Option (List α)} {L : List α} (h : both c st f = some L) (I : Inv E ρ st a w) (hc : c.ok E.toDt st.nn = true) :
    ∃ l st', f st' = some l ∧ (∀ x ∈ l, x ∈ L) ∧ Inv E ρ st' a w ∧ Later st st' ρ ρ := by
  unfold both at h
  split at h
  · rename_i l l' h1 h2
    simp only [Option.some.injEq] at h
    subst h
    have hp : ∀ b, c.val E ρ = b → ∀ e ∈ (c, b) :: st.path, e.1.ok E.toDt st.nn = true ∧ e.1.val E ρ = e.2 := by
      intro b hb e he
      rcases List.mem_cons.1 he with rfl | he
      · exact ⟨hc, hb⟩
      · exact I.path e he
    have hI : ∀ b, c.val E ρ = b → Inv E ρ { st with path := (c, b) :: st.path } a w := fun b hb => ⟨I.size, I.df, I.slots, I.bnd, I.sat, I.memok, I.wld, hp b hb⟩
    cases hv : c.val E ρ with
    | true => exact ⟨l, _, h1, fun x hx => List.mem_append_left _ hx, hI true hv, ⟨Ext.refl _ _, Nat.le_refl _⟩⟩
    | false => exact ⟨l', _, h2, fun x hx => List.mem_append_right _ hx, hI false hv, ⟨Ext.refl _ _, Nat.le_refl _⟩⟩
  · cases h

theorem bindAll_sound {α β : Type} {f : α → Option (List β)} : ∀ {l : List α} {L : List β}, bindAll f l = some L → ∀ s ∈ l, ∃ x, f s = some x ∧ ∀ y ∈ x, y ∈ L
  | [], _, _, s, hs => by cases hs
  | s :: r, L, h, t, ht => by
    simp only [bindAll] at h
    split at h
    · rename_i x y h1 h2
      simp only [Option.some.injEq] at h
      subst h
      rcases List.mem_cons.1 ht with rfl | ht
      · exact ⟨x, h1, fun z hz => List.mem_append_left _ hz⟩
      · obtain ⟨z, hz, hz'⟩ := bindAll_sound h2 t ht
        exact ⟨z, hz, fun u hu => List.mem_append_right _ (hz' u hu)⟩
    · cases h

theorem stepO_sound (F : Fit P E) (I : Inv E ρ st a w) {o : Oper} {L : List St} (h : stepO E.toDt o st = some L) {K : Act → World → Prop} {Q : Exit → Act → World → Prop}
    (hK : ∀ st' ∈ L, ∀ ρ' a' w', Later st st' ρ ρ' → Inv E ρ' st' a' w' → K a' w') : o.wp P a w K Q := by
  unfold stepO at h
  split at h
  · split at h
    · rename_i hc
      obtain ⟨l, st', h1, h2, I', hl⟩ := both_sound h I hc
      exact step1_sound F I' h1 fun s hs ρ' a' w' hl' I'' => hK s (h2 s hs) ρ' a' w' (hl.trans hl') I''
    · cases h
  · exact step1_sound F I h hK

theorem yielded_some {ops : Array Oper} {tmps : Array Value} {j t : Nat} (ht : (ops[j]?).bind (·.dst) = some t) {v : Value} (hv : tmps[t]? = some v) :
    yielded ops tmps j = (match v with | .bool b => some b | _ => none) := by
  unfold yielded
  rw [ht]
  simp only [Option.bind_some, hv]
  cases v <;> rfl

theorem wantd_sound (I : Inv E ρ st a w) {ops : Array Oper} {o : Oper} :
    (wantd ops st o = .yes → Region.wanted o (yielded ops a.tmps) = true) ∧ (wantd ops st o = .no → Region.wanted o (yielded ops a.tmps) = false) := by
  unfold wantd Region.wanted
  cases hg : o.guard with
  | none => exact ⟨fun _ => rfl, fun h => by cases h⟩
  | some g =>
    obtain ⟨j, want⟩ := g
    simp only
    cases ht : (ops[j]?).bind (·.dst) with
    | none => exact ⟨fun h => (by cases h), fun h => (by cases h)⟩
    | some t =>
      simp only
      cases hl : look st.sl t with
      | none => exact ⟨fun h => (by cases h), fun h => (by cases h)⟩
      | some sv =>
        obtain ⟨h1, h2⟩ := I.slots t sv hl
        rw [yielded_some ht h1]
        cases sv with
        | wb c pos =>
          simp only [SV.den]
          cases hd : dec st.path c with
          | none => exact ⟨fun h => (by cases h), fun h => (by cases h)⟩
          | some v =>
            have hc := dec_sound I hd
            rw [hc]
            simp only
            by_cases hw : (v == pos) = want
            · rw [hw]; simp
            · simp [hw]
        | wu => exact ⟨fun h => (by cases h), fun _ => rfl⟩
        | _ => exact ⟨fun h => (by cases h), fun h => (by cases h)⟩

theorem runOps_sound (F : Fit P E) {ops : Array Oper} {Q : Exit → Act → World → Prop} : ∀ (l : List Oper) {st : St} {ρ : Nat → Nat} {a : Act} {w : World} {L : List St}, Inv E ρ st a w →
    runOps E.toDt ops l st = some L → (∀ st' ∈ L, ∀ ρ' a' w', Later st st' ρ ρ' → Inv E ρ' st' a' w' → Q .normal a' w') → wpList P ops Q l a w
  | [], st, ρ, a, w, L, I, h, hQ => by
    simp only [runOps, Option.some.injEq] at h
    subst h
    exact hQ st (List.mem_cons_self ..) ρ a w (Later.refl _ _) I
  | o :: r, st, ρ, a, w, L, I, h, hQ => by
    have yes : ∀ {st : St} {ρ : Nat → Nat} {a : Act} {w : World} {l L : List St}, Inv E ρ st a w → wantd ops st o = .yes → stepO E.toDt o st = some l → bindAll (runOps E.toDt ops r) l = some L →
        (∀ st' ∈ L, ∀ ρ' a' w', Later st st' ρ ρ' → Inv E ρ' st' a' w' → Q .normal a' w') → wpList P ops Q (o :: r) a w := by
      intro st ρ a w l L I hw hs hb hQ
      unfold wpList
      rw [if_pos ((wantd_sound I).1 hw)]
      refine .inl (stepO_sound F I hs fun st' hst ρ' a' w' hl I' => ?_)
      obtain ⟨x, hx, hx'⟩ := bindAll_sound hb st' hst
      exact runOps_sound F r I' hx fun s hs ρ'' a'' w'' hl' I'' => hQ s (hx' s hs) ρ'' a'' w'' (hl.trans hl') I''
    have no : ∀ {st : St} {ρ : Nat → Nat} {a : Act} {w : World} {L : List St}, Inv E ρ st a w → wantd ops st o = .no → dstOk E.toDt o.dst = true → runOps E.toDt ops r (st.put o.dst .wu) = some L →
        (∀ st' ∈ L, ∀ ρ' a' w', Later st st' ρ ρ' → Inv E ρ' st' a' w' → Q .normal a' w') → wpList P ops Q (o :: r) a w := by
      intro st ρ a w L I hw hd hr hQ
      unfold wpList
      rw [if_neg (by rw [(wantd_sound I).2 hw]; exact Bool.false_ne_true)]
      have I1 := I.put (sv := .wu) hd trivial
      exact runOps_sound F r I1 hr fun s hs ρ'' a'' w'' hl' I'' => hQ s hs ρ'' a'' w'' (Later.trans ⟨Ext.refl _ _, by rw [put_nn]; exact Nat.le_refl _⟩ hl') I''
    simp only [runOps] at h
    split at h
    · rename_i hw
      split at h
      · rename_i l hs
        exact yes I hw hs h hQ
      · cases h
    · rename_i hw
      split at h
      · rename_i hd
        exact no I hw hd h hQ
      · cases h
    · rename_i c hw
      split at h
      · rename_i hc
        obtain ⟨l, st', h1, h2, I', hl⟩ := both_sound h I hc
        have hQ' : ∀ s ∈ l, ∀ ρ' a' w', Later st' s ρ ρ' → Inv E ρ' s a' w' → Q .normal a' w' := fun s hs ρ' a' w' hl' I'' => hQ s (h2 s hs) ρ' a' w' (hl.trans hl') I''
        split at h1
        · rename_i hw'
          split at h1
          · rename_i l' hs
            exact yes I' hw' hs h1 hQ'
          · cases h1
        · rename_i hw'
          split at h1
          · rename_i hd
            exact no I' hw' hd h1 hQ'
          · cases h1
        · cases h1
      · cases h
    · cases h

theorem runDraw_sound (F : Fit P E) {ops : Array Oper} {Q : Exit → Act → World → Prop} (hsel : Region.noSelect ops = true) (hP : ∀ c a dst v w, Q (.panic c) (Act.put a dst v) w → Q (.panic c) a w) :
    ∀ (n : Nat) (listed : Array Bool) {st : St} {ρ : Nat → Nat} {a : Act} {w : World} {L : List St}, Inv E ρ st a w →
    runDraw E.toDt ops n listed st = some L → (∀ st' ∈ L, ∀ ρ' a' w', Later st st' ρ ρ' → Inv E ρ' st' a' w' → Q .normal a' w') → wpAny P .any ops Q n listed a w
  | 0, listed, st, ρ, a, w, L, I, h, hQ => by
    simp only [runDraw] at h
    split at h
    · rename_i hr
      simp only [Option.some.injEq] at h
      subst h
      exact ⟨hr, hQ st (List.mem_cons_self ..) ρ a w (Later.refl _ _) I⟩
    · cases h
  | n + 1, listed, st, ρ, a, w, L, I, h, hQ => by
    simp only [runDraw] at h
    split at h
    · rename_i i hf
      have hmem := List.mem_of_find?_eq_some hf
      have hp := List.find?_some hf
      unfold pureAt at hp
      split at h
      · rename_i o ho
        simp only [ho, Bool.and_eq_true] at hp
        obtain ⟨⟨hp1, hp2⟩, hp3⟩ := hp
        split at h
        · rename_i l hs
          unfold step1 at hs
          split at hs
          · rename_i hd
            split at hs
            · rename_i sv new hop
              split at hs
              · rename_i hn
                simp only [Option.some.injEq] at hs
                subst hs
                have G := val_sound F I hop hn
                have I1 := (I.push F hn).put hd G.ok
                have hl : Later st ((st.push new).put o.dst sv) ρ (grow E ρ st.nn new) := ⟨grow_ext _ _, by rw [put_nn]; simp [St.push]⟩
                have hg : Region.wanted o (yielded ops a.tmps) = true := by
                  unfold Region.wanted
                  rw [noGuard_spec hp2]
                obtain ⟨x, hx, hx'⟩ := bindAll_sound h _ (List.mem_cons_self ..)
                exact wpAny_take ho hsel hp3 (by simpa using hmem) (fun c a w => hP c a o.dst _ w) (.inl ⟨hg, G.still hp1⟩)
                  (runDraw_sound F hsel hP n _ I1 hx fun s hs ρ'' a'' w'' hl' I'' => hQ s (hx' s hs) ρ'' a'' w'' (hl.trans hl') I'')
              · cases hs
            · rename_i k i' x hop
              obtain ⟨p, q, b, hq, _⟩ := opR_store hop
              rw [hq] at hp1
              cases hp1
            · cases hs
          · cases hs
        · cases h
      · cases h
    · split at h
      · rename_i hr
        simp only [Option.some.injEq] at h
        subst h
        exact ⟨fun _ => hQ st (List.mem_cons_self ..) ρ a w (Later.refl _ _) I, by rw [hr]; intro i hi; cases hi⟩
      · rename_i i hr
        split at h
        · rename_i o ho
          split at h
          · rename_i hg
            split at h
            · rename_i l hs
              refine wpAny_all hr (by simp) fun j hj => ?_
              have : j = i := by simpa using hj
              subst this
              unfold wpOp
              simp only [ho]
              have hg' : Region.wanted o (yielded ops a.tmps) = true := by
                unfold Region.wanted
                rw [noGuard_spec hg]
              rw [if_pos hg']
              refine .inl (step1_sound F I hs fun st' hst ρ' a' w' hl I' => ?_)
              obtain ⟨x, hx, hx'⟩ := bindAll_sound h st' hst
              exact runDraw_sound F hsel hP n _ I' hx fun s hs ρ'' a'' w'' hl' I'' => hQ s (hx' s hs) ρ'' a'' w'' (hl.trans hl') I''
            · cases h
          · cases h
        · cases h
      · cases h

/-- What a list of codes, one behind the other, does. -/
def wpT (P : Program) (Q : Exit → Act → World → Prop) : List Code → Act → World → Prop
  | [] => Q .normal
  | c :: r => c.wp P (Exit.then (wpT P Q r) Q)

def X.exit : X → Exit
  | .normal => .normal
  | .ret => .ret

theorem runC_sound (F : Fit P E) {Q : Exit → Act → World → Prop} (hP : ∀ c a dst v w, Q (.panic c) (Act.put a dst v) w → Q (.panic c) a w) :
    ∀ (n : Nat) (todo : List Code) {st : St} {ρ : Nat → Nat} {a : Act} {w : World} {L : List (X × St)}, Inv E ρ st a w →
    runC E.toDt n todo st = some L → (∀ x ∈ L, ∀ ρ' a' w', Later st x.2 ρ ρ' → Inv E ρ' x.2 a' w' → Q x.1.exit a' w') → wpT P Q todo a w
  | 0, _, _, _, _, _, _, _, h, _ => by simp only [runC] at h; cases h
  | n + 1, todo, st, ρ, a, w, L, I, h, hQ => by
    unfold runC at h
    split at h
    · cases h
    · simp only [Option.some.injEq] at h
      subst h
      exact hQ _ (List.mem_cons_self ..) ρ a w (Later.refl _ _) I
    · rename_i r _
      simp only [Nat.succ.injEq] at *
      subst_vars
      exact wp_skip (runC_sound F hP _ r I h hQ)
    · rename_i x y r _
      simp only [Nat.succ.injEq] at *
      subst_vars
      have := runC_sound F hP _ (x :: y :: r) I h hQ
      exact wp_seq (Code.wp_mono (fun e a w q => by cases e <;> exact q) this)
    · rename_i id ops r _
      simp only [Nat.succ.injEq] at *
      subst_vars
      split at h
      · rename_i l hr
        refine wp_region_list (runOps_sound F _ I hr fun st' hst ρ' a' w' hl I' => ?_)
        obtain ⟨x, hx, hx'⟩ := bindAll_sound h st' hst
        exact runC_sound F hP _ r I' hx fun s hs ρ'' a'' w'' hl' I'' => hQ s (hx' s hs) ρ'' a'' w'' (hl.trans hl') I''
      · cases h
    · rename_i id ops r _
      simp only [Nat.succ.injEq] at *
      subst_vars
      split at h
      · rename_i hsel
        split at h
        · rename_i l hr
          refine wp_region_any F.mo (runDraw_sound (Q := Exit.then (wpT P Q r) Q) F hsel (fun c a dst v w q => hP c a dst v w q) _ _ (I.draw _) hr fun st' hst ρ' a' w' hl I' => ?_)
          obtain ⟨x, hx, hx'⟩ := bindAll_sound h st' hst
          exact runC_sound F hP _ r I' hx fun s hs ρ'' a'' w'' hl' I'' => hQ s (hx' s hs) ρ'' a'' w'' (hl.trans hl') I''
        · cases h
      · cases h
    · rename_i c x y r _
      simp only [Nat.succ.injEq] at *
      subst_vars
      split at h
      · rename_i d pos ho
        obtain ⟨e1, k1⟩ := opd_sound I ho
        split at h
        · rename_i v hd
          have hv := dec_sound I hd
          have := runC_sound F hP _ _ I h hQ
          refine wp_cond (t := (v == pos)) (by rw [e1]; simp only [SV.den, hv]) ?_
          by_cases hvp : v = pos
          · simpa [hvp, wpT] using this
          · simpa [hvp, wpT] using this
        · split at h
          · rename_i hc
            obtain ⟨l, st', h1, h2, I', hl⟩ := both_sound h I hc
            split at h1
            · rename_i v hd
              have hv := dec_sound I' hd
              have := runC_sound F hP _ _ I' h1 fun s hs ρ'' a'' w'' hl' I'' => hQ s (h2 s hs) ρ'' a'' w'' (hl.trans hl') I''
              refine wp_cond (t := (v == pos)) (by rw [e1]; simp only [SV.den, hv]) ?_
              by_cases hvp : v = pos
              · simpa [hvp, wpT] using this
              · simpa [hvp, wpT] using this
            · cases h1
          · cases h
      · cases h
    · rename_i r _
      simp only [Option.some.injEq] at h
      subst h
      exact wp_ret (hQ _ (List.mem_cons_self ..) ρ a w (Later.refl _ _) I)
    · cases h

theorem bodyPost_put {fn : Func} {R : Ending → World → Prop} (c : List PanicEntry) (a : Act) (dst : Option Tmp) (v : Value) (w : World) (h : bodyPost P fn R (.panic c) (a.put dst v) w) :
    bodyPost P fn R (.panic c) a w := by
  cases dst <;> exact h

/-- A call of a function whose body the executor can run. -/
theorem calls_slx (F : Fit P E) {f : FuncId} {fn : Func} {c : Code} {args : Array Value} {R : Ending → World → Prop} {n : Nat} {L : List (X × St)} (hf : P.funcs[f]? = some fn) (hb : fn.body = some c)
    (I : Inv E ρ st { tmps := args ++ Array.replicate (fn.ntmps - args.size) undef, defers := [] } w) (h : runC E.toDt n [c] st = some L)
    (hQ : ∀ x ∈ L, ∀ ρ' a' w', Later st x.2 ρ ρ' → Inv E ρ' x.2 a' w' → bodyPost P fn R x.1.exit a' w') : Calls P f args w R := by
  refine calls_of_wp hf hb ?_
  have := runC_sound (Q := bodyPost P fn R) F bodyPost_put n [c] I h hQ
  exact Code.wp_mono (fun e a w q => by cases e <;> exact q) this

/-- What is kept of an outcome. -/
structure Sum where
  x : X
  nd : List Nd
  mem : List ((Nat × Nat) × A)
  path : List (C × Bool)
  res : Option SV
def sum (slot : Nat) (x : X × St) : Sum := ⟨x.1, x.2.nd.reverse, x.2.mem, x.2.path, look x.2.sl slot⟩

theorem sum_some {D : Dt} {n slot : Nat} {todo : List Code} {st : St} {l : List Sum} (h : (runC D n todo st).map (List.map (sum slot)) = some l) :
    ∃ L, runC D n todo st = some L ∧ ∀ x ∈ L, sum slot x ∈ l := by
  cases hr : runC D n todo st with
  | none => rw [hr] at h; cases h
  | some L =>
    rw [hr] at h
    simp only [Option.map_some, Option.some.injEq] at h
    exact ⟨L, rfl, fun x hx => h ▸ List.mem_map_of_mem hx⟩

/-- The nodes' equations, by their places. -/
def At (E : Env) (ρ : Nat → Nat) (nodes : List Nd) : Prop := ∀ (i : Nat) (d : Nd), nodes[i]? = some d → ρ i = d.val E ρ

theorem sat_len : ∀ {l : List Nd} {n : Nat}, Sat E ρ l n → l.length = n
  | [], n, h => by simp only [Sat] at h; simp [h]
  | d :: r, n, ⟨m, hn, _, _, hr⟩ => by rw [List.length_cons, sat_len hr, hn]
theorem sat_at : ∀ {l : List Nd} {n : Nat}, Sat E ρ l n → At E ρ l.reverse
  | [], _, _ => fun i d h => by simp at h
  | d :: r, n, ⟨m, hn, _, hv, hr⟩ => fun i e h => by
    rw [List.reverse_cons, List.getElem?_append] at h
    split at h
    · exact sat_at hr i e h
    · rename_i hi
      have hl := sat_len hr
      simp only [List.length_reverse, hl] at h hi
      have : i = m := by
        have := (List.getElem?_eq_some_iff.1 h).1
        simp at this
        omega
      subst this
      simp at h
      subst h
      exact hv

theorem At.add {nodes : List Nd} (S : At E ρ nodes) (i : Nat) {x y z : A} (h1 : nodes[i]? = some (.addlo x y z)) (h2 : nodes[i + 1]? = some (.addhi x y z)) :
    ρ i + 18446744073709551616 * ρ (i + 1) = x.val E ρ + y.val E ρ + z.val E ρ := by
  rw [S _ _ h1, S _ _ h2]
  exact Nat.mod_add_div _ _
theorem At.mul {nodes : List Nd} (S : At E ρ nodes) (i : Nat) {x y : A} (h1 : nodes[i]? = some (.mulhi x y)) (h2 : nodes[i + 1]? = some (.mullo x y)) :
    ρ (i + 1) + 18446744073709551616 * ρ i = x.val E ρ * y.val E ρ := by
  rw [S _ _ h1, S _ _ h2]
  exact Nat.mod_add_div _ _
theorem At.sub {nodes : List Nd} (S : At E ρ nodes) (i : Nat) {x y z : A} (h1 : nodes[i]? = some (.sublo x y z)) (h2 : nodes[i + 1]? = some (.subhi x y z))
    (hx : x.val E ρ < W) (hy : y.val E ρ < W) (hz : z.val E ρ ≤ 1) :
    ρ i + y.val E ρ + z.val E ρ = x.val E ρ + 18446744073709551616 * ρ (i + 1) := by
  rw [S _ _ h1, S _ _ h2]
  simp only [Nd.val]
  rw [W_eq] at *
  split <;> omega

end
end Slx
end Go.Proofs.Yteohenebjcbliaa
