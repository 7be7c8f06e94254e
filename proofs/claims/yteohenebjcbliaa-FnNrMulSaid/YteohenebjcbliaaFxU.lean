/- The executor Fx is sound, last part: new objects and stores; regions in every order; bodies. Conditions: the structure Fit. -/
import Derived.Test.YteohenebjcbliaaFxR
set_option linter.unusedVariables false
set_option linter.unusedSimpArgs false
namespace Go.Proofs.Yteohenebjcbliaa
namespace Fx
open Go.RowKit
open Slx (wd W)

section
variable {P : Program} {E : Env} {ob : Nat → Nat} {st : St} {a : Act} {w w' : World}

theorem opF_grow {D : Dt} {op : Op} {e : NE} (h : opF D st op = .grow e) :
    (∃ t x, op = .box t x ∧ D.arrs.contains t = true ∧ opd st x = some (.el e)) ∨ (∃ t, op = .alloc t ∧ D.arrs.contains t = true ∧ e = .k 0) := by
  unfold opF at h
  split at h
  case h_3 t x =>
    split at h
    · rename_i ht
      split at h
      · rename_i e' h1
        simp only [RF.grow.injEq] at h
        subst h
        exact .inl ⟨t, x, rfl, ht, h1⟩
      · cases h
    · cases h
  case h_4 t =>
    split at h
    · rename_i ht
      simp only [RF.grow.injEq] at h
      exact .inr ⟨t, rfl, ht, h.symm⟩
    · cases h
  case h_13 =>
    split at h
    · unfold callF at h
      split at h
      all_goals (repeat' split at h)
      all_goals cases h
    · cases h
  all_goals (repeat' split at h)
  all_goals cases h

theorem opF_store {D : Dt} {op : Op} {k : Nat} {e : NE} (h : opF D st op = .store k e) :
    ∃ t x y, op = .store t x y ∧ D.arrs.contains t = true ∧ opd st x = some (.own k) ∧ opd st y = some (.el e) ∧ k < st.objs.length := by
  unfold opF at h
  split at h
  case h_7 t x y =>
    split at h
    · rename_i ht
      split at h
      · rename_i k' e' h1 h2
        split at h
        · rename_i hk
          simp only [RF.store.injEq] at h
          obtain ⟨rfl, rfl⟩ := h
          exact ⟨t, x, y, rfl, ht, h1, h2, hk⟩
        · cases h
      · cases h
    · cases h
  case h_13 =>
    split at h
    · unfold callF at h
      split at h
      all_goals (repeat' split at h)
      all_goals cases h
    · cases h
  all_goals (repeat' split at h)
  all_goals cases h

theorem R_pos : 0 < R := by decide

theorem grow_run (F : Fit P E) (I : Inv E ob st a w) {o : Oper} {e : NE} (h : opF E.toDt st o.op = .grow e) :
    e.val E < R ∧ ∃ t, (execOp a.eval o).run P w = .ok (.value (.pointer (some ⟨w.heap.size, 0, none⟩))) (w.alloc (.cells (elcells (e.val E)) t)) := by
  obtain ⟨dst, op, type, pos, after, guard⟩ := o
  rcases opF_grow h with ⟨t, x, rfl, ht, h1⟩ | ⟨t, rfl, ht, rfl⟩
  · obtain ⟨e1, k1⟩ := opd_sound I h1
    simp only [Rel] at e1
    refine ⟨k1, t, ?_⟩
    have := F.hbox t ht (e.val E) w
    simp only [execOp, e1]
    simp [this]
  · refine ⟨R_pos, t, ?_⟩
    have := F.halloc t ht w
    simp only [execOp]
    simp [this, NE.val]

theorem cell_new (w : World) (X : Nat) (t : TypeId) : ∀ i, i < 4 → (w.alloc (.cells (elcells X) t)).cell? ⟨w.heap.size, 0 + i, none⟩ = some (wd (wordAt X i)) := by
  apply four <;> (rw [World.cell?_alloc_new]; rfl)
theorem frozen_new (w : World) (X : Nat) (t : TypeId) (i : Nat) : (w.alloc (.cells (elcells X) t)).frozen? ⟨w.heap.size, 0 + i, none⟩ = false := by
  exact World.frozen?_alloc_new ..

theorem Rel.ob_ext {ob' : Nat → Nat} {no : Nat} {sv : FV} {v : Value} (h : Rel E ob w sv v) (hk : sv.Ok E no) (he : ∀ k, k < no → ob' k = ob k) : Rel E ob' w sv v := by
  cases sv with
  | own k => simp only [Rel] at h ⊢; rw [he k hk]; exact h
  | _ => exact h
theorem FV.Ok.mono {no no' : Nat} {sv : FV} (h : sv.Ok E no) (hn : no ≤ no') : sv.Ok E no' := by
  cases sv with
  | own k => exact Nat.lt_of_lt_of_le h hn
  | _ => exact h

theorem Inv.grow (I : Inv E ob st a w) {e : NE} (he : e.val E < R) (t : TypeId) :
    ∃ ob', Inv E ob' { st with objs := st.objs ++ [e] } a (w.alloc (.cells (elcells (e.val E)) t)) ∧ ob' st.objs.length = w.heap.size := by
  have hb : Below w.heap.size w (w.alloc (.cells (elcells (e.val E)) t)) := (Below.refl _ _).alloc (Nat.le_refl _) _
  have I1 := I.below' hb
  have hlt : ∀ k, k < st.objs.length → ob k < w.heap.size := fun k hk => (I.mem.1 k st.objs[k] (List.getElem?_eq_getElem hk)).2.1
  let ob' : Nat → Nat := fun k => if k = st.objs.length then w.heap.size else ob k
  have hold : ∀ k, k < st.objs.length → ob' k = ob k := fun k hk => if_neg (Nat.ne_of_lt hk)
  have hnew : ob' st.objs.length = w.heap.size := if_pos rfl
  refine ⟨ob', ⟨I1.size, I1.df, fun t' sv h => ?_, ⟨fun k x hx => ?_, fun k k' hk hk' hkk => ?_⟩, I1.path, I1.below⟩, hnew⟩
  · obtain ⟨v, h1, h2, h3⟩ := I1.slots t' sv h
    exact ⟨v, h1, h2.ob_ext h3 hold, FV.Ok.mono h3 (by simp)⟩
  · rw [List.getElem?_append] at hx
    split at hx
    · rename_i hk
      rw [hold k hk]
      exact I1.mem.1 k x hx
    · rename_i hk
      have hk' : k = st.objs.length := by
        have := (List.getElem?_eq_some_iff.1 hx).1
        simp at this; omega
      subst hk'
      simp at hx
      subst hx
      rw [hnew]
      exact ⟨I.below.size, by rw [World.size_alloc]; exact Nat.lt_succ_self _, he, cell_new w _ t, fun i _ => frozen_new w _ t i⟩
  · simp only [List.length_append, List.length_cons, List.length_nil] at hk hk'
    by_cases h1 : k = st.objs.length <;> by_cases h2 : k' = st.objs.length
    · omega
    · subst h1
      have := hlt k' (by omega)
      rw [hnew, hold k' (by omega)] at hkk
      omega
    · subst h2
      have := hlt k (by omega)
      rw [hnew, hold k (by omega)] at hkk
      omega
    · rw [hold k (by omega), hold k' (by omega)] at hkk
      exact I.mem.2 k k' (by omega) (by omega) hkk

theorem look_noSl : ∀ {l : List (Nat × FV)} {t : Nat} {sv : FV}, look (noSl l) t = some sv → sv = .any ∨ (look l t = some sv ∧ ∀ e, sv ≠ .sl e)
  | [], _, _, h => by cases h
  | (u, x) :: r, t, sv, h => by
    cases x <;> simp only [noSl, look] at h ⊢ <;> split at h
    case sl.isTrue e ht => exact .inl (by simpa using h.symm)
    case sl.isFalse e ht =>
      rw [if_neg ht]
      exact look_noSl h
    all_goals (rename_i ht)
    all_goals first
      | (rw [if_pos ht]; refine .inr ⟨h, fun e he => ?_⟩; simp only [Option.some.injEq] at h; rw [he] at h; cases h)
      | (rw [if_neg ht]; exact look_noSl h)

theorem Inv.store (I : Inv E ob st a w) {k : Nat} {e : NE} (hk : k < st.objs.length) (he : e.val E < R) :
    Inv E ob { sl := noSl st.sl, objs := st.objs.set k e, path := st.path } a (putn w (ob k) 0 (e.val E)) := by
  obtain ⟨m1, m2, m3, m4, m5⟩ := I.mem.1 k st.objs[k] (List.getElem?_eq_getElem hk)
  have Wr := wrote_putn w (ob k) 0 (e.val E) fun i hi => ⟨_, m4 i hi⟩
  refine ⟨I.size, I.df, fun t sv h => ?_, ⟨fun k' x hx => ?_, fun k1 k2 h1 h2 h => ?_⟩, I.path, I.below.trans (Wr.below m1)⟩
  · rcases look_noSl h with rfl | ⟨h1, h2⟩
    · have hh : ∃ v, a.tmps[t]? = some v := by
        have : ∀ l : List (Nat × FV), look (noSl l) t = some .any → ∃ sv, look l t = some sv := by
          intro l
          induction l with
          | nil => intro h; cases h
          | cons x r ih =>
            obtain ⟨u, y⟩ := x
            intro h
            by_cases hu : u = t
            · exact ⟨y, by simp [look, hu]⟩
            · have hr : look (noSl r) t = some .any := by cases y <;> simpa [noSl, look, hu] using h
              obtain ⟨sv, hs⟩ := ih hr
              exact ⟨sv, by simp [look, hu, hs]⟩
        obtain ⟨sv, hs⟩ := this _ h
        obtain ⟨v, hv, _⟩ := I.slots t sv hs
        exact ⟨v, hv⟩
      obtain ⟨v, hv⟩ := hh
      exact ⟨v, hv, trivial, trivial⟩
    · obtain ⟨v, g1, g2, g3⟩ := I.slots t sv h1
      refine ⟨v, g1, ?_, by simpa using g3⟩
      cases sv with
      | sl e' => exact absurd rfl (h2 e')
      | _ => exact g2
  · by_cases hkk : k = k'
    · subst hkk
      simp [hk] at hx
      subst hx
      exact ⟨m1, by rw [Wr.size]; exact m2, he, Wr.cells, fun i hi => by rw [Wr.frozen]; exact m5 i hi⟩
    · rw [List.getElem?_set_ne hkk] at hx
      obtain ⟨n1, n2, n3, n4, n5⟩ := I.mem.1 k' x hx
      have hne : ob k' ≠ ob k := fun h => hkk (I.mem.2 k' k (List.getElem?_eq_some_iff.1 hx).1 hk h).symm
      exact ⟨n1, by rw [Wr.size]; exact n2, n3, fun i hi => (Wr.cell (a := ⟨ob k', 0 + i, none⟩) hne).trans (n4 i hi), fun i hi => by rw [Wr.frozen]; exact n5 i hi⟩
  · simp only [List.length_set] at h1 h2
    exact I.mem.2 k1 k2 h1 h2 h

theorem store_run (F : Fit P E) (I : Inv E ob st a w) {o : Oper} {k : Nat} {e : NE} (h : opF E.toDt st o.op = .store k e) :
    k < st.objs.length ∧ e.val E < R ∧ (execOp a.eval o).run P w = .ok .skip (putn w (ob k) 0 (e.val E)) := by
  obtain ⟨dst, op, type, pos, after, guard⟩ := o
  obtain ⟨t, x, y, rfl, ht, h1, h2, hk⟩ := opF_store h
  obtain ⟨e1, k1⟩ := opd_sound I h1
  obtain ⟨e2, k2⟩ := opd_sound I h2
  simp only [Rel] at e1 e2
  obtain ⟨m1, m2, m3, m4, m5⟩ := I.mem.1 k st.objs[k] (List.getElem?_eq_getElem hk)
  refine ⟨hk, k2, ?_⟩
  have := F.hstore t ht (ob k) (e.val E) w (fun i hi => ⟨_, m4 i hi⟩) m5
  simp only [execOp, e1, e2]
  simp [this]

theorem stepO_sound (F : Fit P E) (I : Inv E ob st a w) {o : Oper} {L : List St} (h : stepO E.toDt o st = some L) {K : Act → World → Prop} {Q' : Exit → Act → World → Prop}
    (hK : ∀ st' ∈ L, ∀ ob' a' w', Inv E ob' st' a' w' → K a' w') : o.wp P a w K Q' := by
  unfold stepO at h
  split at h
  · rename_i hd
    split at h
    · rename_i k e ho
      simp only [Option.some.injEq] at h
      subst h
      obtain ⟨hk, he, hr⟩ := store_run F I ho
      unfold Oper.wp
      rw [hr]
      exact hK _ (List.mem_cons_self ..) _ _ _ ((I.store hk he).put (sv := .u) hd rfl trivial)
    · rename_i e ho
      simp only [Option.some.injEq] at h
      subst h
      obtain ⟨he, t, hr⟩ := grow_run F I ho
      obtain ⟨ob', I', hob⟩ := I.grow he t
      unfold Oper.wp
      rw [hr]
      exact hK _ (List.mem_cons_self ..) _ _ _ (I'.put (sv := .own st.objs.length) hd (by simp only [Rel]; rw [hob]) (by simp [FV.Ok]))
    · rename_i c ho
      obtain ⟨l, st', h1, h2, I', ho'⟩ := both_sound h I
      simp only [Option.map_eq_some_iff] at h1
      obtain ⟨s, hs, rfl⟩ := h1
      exact step1_sound F I' hs fun a' w' I'' => hK s (h2 s (List.mem_cons_self ..)) ob a' w' I''
    · simp only [Option.map_eq_some_iff] at h
      obtain ⟨s, hs, rfl⟩ := h
      exact step1_sound F I hs fun a' w' I'' => hK s (List.mem_cons_self ..) ob a' w' I''
  · cases h

theorem bindAll_sound {α β : Type} {f : α → Option (List β)} : ∀ {l : List α} {L : List β}, bindAll f l = some L → ∀ s ∈ l, ∃ x, f s = some x ∧ ∀ y ∈ x, y ∈ L
  | [], _, _, s, hs => by cases hs
  | s :: r, L, h, t, ht => by
    simp only [bindAll] at h
    split at h
    · rename_i x y h1 h2
      simp only [Option.some.injEq] at h
      subst h
      rcases List.mem_cons.1 ht with rfl | ht
      · exact ⟨x, h1, fun z hz => List.mem_append_left _ hz⟩
      · obtain ⟨z, hz, hz'⟩ := bindAll_sound h2 t ht
        exact ⟨z, hz, fun u hu => List.mem_append_right _ (hz' u hu)⟩
    · cases h

theorem runOps_sound (F : Fit P E) {ops : Array Oper} {Q' : Exit → Act → World → Prop} : ∀ (l : List Oper) {ob : Nat → Nat} {st : St} {a : Act} {w : World} {L : List St}, Inv E ob st a w →
    runOps E.toDt ops l st = some L → (∀ st' ∈ L, ∀ ob' a' w', Inv E ob' st' a' w' → Q' .normal a' w') → wpList P ops Q' l a w
  | [], ob, st, a, w, L, I, h, hQ => by
    simp only [runOps, Option.some.injEq] at h
    subst h
    exact hQ st (List.mem_cons_self ..) ob a w I
  | o :: r, ob, st, a, w, L, I, h, hQ => by
    have yes : ∀ {ob : Nat → Nat} {st : St} {a : Act} {w : World} {l L : List St}, Inv E ob st a w → wantd ops st o = .yes → stepO E.toDt o st = some l → bindAll (runOps E.toDt ops r) l = some L →
        (∀ st' ∈ L, ∀ ob' a' w', Inv E ob' st' a' w' → Q' .normal a' w') → wpList P ops Q' (o :: r) a w := by
      intro ob st a w l L I hw hs hb hQ
      unfold wpList
      rw [if_pos ((wantd_sound I).1 hw)]
      refine .inl (stepO_sound F I hs fun st' hst ob' a' w' I' => ?_)
      obtain ⟨x, hx, hx'⟩ := bindAll_sound hb st' hst
      exact runOps_sound F r I' hx fun s hs ob'' a'' w'' I'' => hQ s (hx' s hs) ob'' a'' w'' I''
    have no : ∀ {ob : Nat → Nat} {st : St} {a : Act} {w : World} {L : List St}, Inv E ob st a w → wantd ops st o = .no → dstOk E.toDt o.dst = true → runOps E.toDt ops r (st.put o.dst .u) = some L →
        (∀ st' ∈ L, ∀ ob' a' w', Inv E ob' st' a' w' → Q' .normal a' w') → wpList P ops Q' (o :: r) a w := by
      intro ob st a w L I hw hd hr hQ
      unfold wpList
      rw [if_neg (by rw [(wantd_sound I).2 hw]; exact Bool.false_ne_true)]
      have I1 := I.put (sv := .u) (v := undef) hd rfl trivial
      exact runOps_sound F r I1 hr fun s hs ob'' a'' w'' I'' => hQ s hs ob'' a'' w'' I''
    simp only [runOps] at h
    split at h
    · rename_i hw
      split at h
      · rename_i l hs
        exact yes I hw hs h hQ
      · cases h
    · rename_i hw
      split at h
      · rename_i hd
        exact no I hw hd h hQ
      · cases h
    · rename_i c hw
      obtain ⟨l, st', h1, h2, I', ho⟩ := both_sound h I
      have hQ' : ∀ s ∈ l, ∀ ob' a' w', Inv E ob' s a' w' → Q' .normal a' w' := fun s hs ob' a' w' I'' => hQ s (h2 s hs) ob' a' w' I''
      split at h1
      · rename_i hw'
        split at h1
        · rename_i l' hs
          exact yes I' hw' hs h1 hQ'
        · cases h1
      · rename_i hw'
        split at h1
        · rename_i hd
          exact no I' hw' hd h1 hQ'
        · cases h1
      · cases h1
    · cases h

theorem isMov_val (F : Fit P E) (I : Inv E ob st a w) {o : Oper} (hm : isMov o.op = true) {st' : St} (h : step1 E.toDt o st = some st') :
    ∃ v, (∀ w', MemOk E ob st.objs w' → (execOp a.eval o).run P w' = .ok (.value v) w') ∧ Inv E ob st' (a.put o.dst v) w ∧ st'.objs = st.objs := by
  unfold step1 at h
  split at h
  · rename_i hd
    split at h
    · rename_i sv ho
      simp only [Option.some.injEq] at h
      subst h
      have G := val_sound F I ho
      obtain ⟨v, hv, hr⟩ := G.run
      exact ⟨v, hr, I.put hd hv G.ok, put_objs ..⟩
    · rename_i f c sv ho
      obtain ⟨args, ts, hop, _⟩ := opF_call ho
      rw [hop] at hm
      cases hm
    · cases h
  · cases h

theorem runDraw_sound (F : Fit P E) {ops : Array Oper} {Q' : Exit → Act → World → Prop} (hsel : Region.noSelect ops = true) (hP : ∀ c a dst v w, Q' (.panic c) (Act.put a dst v) w → Q' (.panic c) a w) (objs : List NE) :
    ∀ (fuel n : Nat) (listed : Array Bool) {st : St} {a : Act} {w : World} {L : List St}, Inv E ob st a w → st.objs = objs →
    runDraw E.toDt ops fuel n listed st = some L → (∀ st' ∈ L, ∀ a' w', Inv E ob st' a' w' → Q' .normal a' w') → wpAnyH P .any ops Q' (MemOk E ob objs) n listed a w
  | 0, _, _, _, _, _, _, _, _, h, _ => by simp only [runDraw] at h; cases h
  | fuel + 1, n, listed, st, a, w, L, I, hob, h0, hQ => by
    have hS : ∀ {st : St} {a : Act} {w : World}, Inv E ob st a w → st.objs = objs → MemOk E ob objs w := fun I h => h ▸ I.mem
    -- one operation that is next
    have go : ∀ (i : Nat), ((Region.ready .any ops listed).contains i = true ∧ movable ops st listed i = true) ∨ Region.ready .any ops listed = [i] →
        drawOne E.toDt ops (runDraw E.toDt ops fuel) n listed st i = some L → wpAnyH P .any ops Q' (MemOk E ob objs) n listed a w := by
      clear h0
      intro i hi h
      unfold drawOne at h
      split at h
      · rename_i m o ho
        have hfree : movable ops st listed i = true → Region.free .any ops listed i = true ∧ (wantd ops st o = .no ∨ isMov o.op = true) := by
          intro hm
          unfold movable at hm
          simp only [ho, Bool.and_eq_true, Bool.or_eq_true] at hm
          refine ⟨hm.2, hm.1.imp (fun hh => ?_) id⟩
          split at hh
          · assumption
          · cases hh
        split at h
        · -- wanted
          rename_i hw
          have hwt := (wantd_sound I).1 hw
          have plain : ∀ {st' : St}, step1 E.toDt o st = some st' → runDraw E.toDt ops fuel m (listed.setIfInBounds i true) st' = some L → wpAnyH P .any ops Q' (MemOk E ob objs) (m + 1) listed a w := by
            intro st' hs hr
            rcases hi with ⟨hrd, hm⟩ | hrd
            · obtain ⟨hf, hmv⟩ := hfree hm
              rcases hmv with hmv | hmv
              · rw [hw] at hmv; cases hmv
              · obtain ⟨v, hv, I', ho'⟩ := isMov_val F I hmv hs
                refine wpAnyH_take ho hsel hf hrd (fun c a w => hP c a o.dst _ w) (.inl ⟨hwt, fun w' hm' => hv w' (by rw [hob]; exact hm')⟩) (hS I hob) ?_
                exact runDraw_sound F hsel hP objs fuel m _ I' (ho'.trans hob) hr hQ
            · refine wpAnyH_all hrd (by simp) fun j hj => ?_
              have : j = i := by simpa using hj
              subst this
              unfold wpOp
              simp only [ho]
              rw [if_pos hwt]
              have hobj : st'.objs = objs := by
                unfold step1 at hs
                split at hs
                · split at hs
                  · simp only [Option.some.injEq] at hs; subst hs; rw [put_objs]; exact hob
                  · simp only [Option.some.injEq] at hs; subst hs; rw [put_objs]; exact hob
                  · cases hs
                · cases hs
              exact .inl (step1_sound F I hs fun a' w' I' => ⟨hS I' hobj, runDraw_sound F hsel hP objs fuel m _ I' hobj hr hQ⟩)
          split at h
          · rename_i c hc
            obtain ⟨l, st', h1, h2, I', ho'⟩ := both_sound h I
            exact runDraw_sound F hsel hP objs fuel (m + 1) listed I' (ho'.trans hob) h1 fun s hs => hQ s (h2 s hs)
          · split at h
            · rename_i st' hs
              exact plain hs h
            · cases h
        · -- not wanted
          rename_i hw
          have hwt := (wantd_sound I).2 hw
          split at h
          · rename_i hd
            have I1 := I.put (sv := .u) (v := undef) hd rfl trivial
            have hobj : (st.put o.dst .u).objs = objs := by rw [put_objs]; exact hob
            rcases hi with ⟨hrd, hm⟩ | hrd
            · refine wpAnyH_take ho hsel (hfree hm).1 hrd (fun c a w => hP c a o.dst _ w) (.inr ⟨hwt, rfl⟩) (hS I hob) ?_
              exact runDraw_sound F hsel hP objs fuel m _ I1 hobj h hQ
            · refine wpAnyH_all hrd (by simp) fun j hj => ?_
              have : j = i := by simpa using hj
              subst this
              unfold wpOp
              simp only [ho]
              rw [if_neg (by rw [hwt]; exact Bool.false_ne_true)]
              exact ⟨hS I1 hobj, runDraw_sound F hsel hP objs fuel m _ I1 hobj h hQ⟩
          · cases h
        · rename_i c hc
          obtain ⟨l, st', h1, h2, I', ho'⟩ := both_sound h I
          exact runDraw_sound F hsel hP objs fuel (m + 1) listed I' (ho'.trans hob) h1 fun s hs => hQ s (h2 s hs)
        · cases h
      · cases h
    simp only [runDraw] at h0
    split at h0
    · rename_i i hf
      exact go i (.inl ⟨by simpa using List.mem_of_find?_eq_some hf, List.find?_some hf⟩) h0
    · split at h0
      · rename_i hr
        simp only [Option.some.injEq] at h0
        subst h0
        exact wpAnyH_done hr (hQ st (List.mem_cons_self ..) a w I) n
      · rename_i i hr
        exact go i (.inr hr) h0
      · cases h0

/-- What a list of codes, one behind the other, does. -/
def wpT (P : Program) (Q' : Exit → Act → World → Prop) : List Code → Act → World → Prop
  | [] => Q' .normal
  | c :: r => c.wp P (Exit.then (wpT P Q' r) Q')

def X.exit : X → Exit
  | .normal => .normal
  | .ret => .ret

theorem runC_sound (F : Fit P E) {Q' : Exit → Act → World → Prop} (hP : ∀ c a dst v w, Q' (.panic c) (Act.put a dst v) w → Q' (.panic c) a w) :
    ∀ (n : Nat) (todo : List Code) {ob : Nat → Nat} {st : St} {a : Act} {w : World} {L : List (X × St)}, Inv E ob st a w →
    runC E.toDt n todo st = some L → (∀ x ∈ L, ∀ ob' a' w', Inv E ob' x.2 a' w' → Q' x.1.exit a' w') → wpT P Q' todo a w
  | 0, _, _, _, _, _, _, _, h, _ => by simp only [runC] at h; cases h
  | n + 1, todo, ob, st, a, w, L, I, h, hQ => by
    unfold runC at h
    split at h
    · cases h
    · simp only [Option.some.injEq] at h
      subst h
      exact hQ _ (List.mem_cons_self ..) ob a w I
    · rename_i r _
      simp only [Nat.succ.injEq] at *
      subst_vars
      exact wp_skip (runC_sound F hP _ r I h hQ)
    · rename_i x y r _
      simp only [Nat.succ.injEq] at *
      subst_vars
      have := runC_sound F hP _ (x :: y :: r) I h hQ
      exact wp_seq (Code.wp_mono (fun e a w q => by cases e <;> exact q) this)
    · rename_i id ops r _
      simp only [Nat.succ.injEq] at *
      subst_vars
      split at h
      · rename_i l hr
        refine wp_region_list (runOps_sound F _ I hr fun st' hst ob' a' w' I' => ?_)
        obtain ⟨x, hx, hx'⟩ := bindAll_sound h st' hst
        exact runC_sound F hP _ r I' hx fun s hs ob'' a'' w'' I'' => hQ s (hx' s hs) ob'' a'' w'' I''
      · cases h
    · rename_i id ops r _
      simp only [Nat.succ.injEq] at *
      subst_vars
      split at h
      · rename_i hsel
        split at h
        · rename_i l hr
          have hb : Below w.heap.size w { w with drawn := w.drawn + 1 } := (Below.refl _ _).drew
          refine wp_region_held (S := MemOk E ob _) F.mo (runDraw_sound (Q' := Exit.then (wpT P Q' r) Q') F hsel (fun c a dst v w q => hP c a dst v w q) _ _ _ _ (I.below' hb) rfl hr fun st' hst a' w' I' => ?_)
          obtain ⟨x, hx, hx'⟩ := bindAll_sound h st' hst
          exact runC_sound F hP _ r I' hx fun s hs ob'' a'' w'' I'' => hQ s (hx' s hs) ob'' a'' w'' I''
        · cases h
      · cases h
    · rename_i c x y r _
      simp only [Nat.succ.injEq] at *
      subst_vars
      split at h
      · rename_i d pos ho
        obtain ⟨e1, k1⟩ := opd_sound I ho
        simp only [Rel] at e1
        split at h
        · rename_i v hd
          have hv := dec_sound I hd
          have := runC_sound F hP _ _ I h hQ
          refine wp_cond (t := (v == pos)) (by rw [e1, hv]) ?_
          by_cases hvp : v = pos
          · simpa [hvp, wpT] using this
          · simpa [hvp, wpT] using this
        · obtain ⟨l, st', h1, h2, I', ho'⟩ := both_sound h I
          split at h1
          · rename_i v hd
            have hv := dec_sound I' hd
            have := runC_sound F hP _ _ I' h1 fun s hs ob'' a'' w'' I'' => hQ s (h2 s hs) ob'' a'' w'' I''
            refine wp_cond (t := (v == pos)) (by rw [e1, hv]) ?_
            by_cases hvp : v = pos
            · simpa [hvp, wpT] using this
            · simpa [hvp, wpT] using this
          · cases h1
      · rename_i b ho
        obtain ⟨e1, k1⟩ := opd_sound I ho
        simp only [Rel] at e1
        have := runC_sound F hP _ _ I h hQ
        exact wp_cond e1 (by simpa [wpT] using this)
      · cases h
    · rename_i r _
      simp only [Option.some.injEq] at h
      subst h
      exact wp_ret (hQ _ (List.mem_cons_self ..) ob a w I)
    · cases h

/-- A call of a function whose body the executor can run. -/
theorem calls_fx (F : Fit P E) {f : FuncId} {fn : Func} {c : Code} {args : Array Value} {R' : Ending → World → Prop} {n : Nat} {L : List (X × St)} (hf : P.funcs[f]? = some fn) (hb : fn.body = some c)
    (I : Inv E ob st { tmps := args ++ Array.replicate (fn.ntmps - args.size) undef, defers := [] } w) (h : runC E.toDt n [c] st = some L)
    (hQ : ∀ x ∈ L, ∀ ob' a' w', Inv E ob' x.2 a' w' → bodyPost P fn R' x.1.exit a' w') : Calls P f args w R' := by
  refine calls_of_wp hf hb ?_
  have := runC_sound (Q' := bodyPost P fn R') F Slx.bodyPost_put n [c] I h hQ
  exact Code.wp_mono (fun e a w q => by cases e <;> exact q) this

structure Sum where
  x : X
  path : List (BE × Bool)
  res : Option FV
def sum (slot : Nat) (x : X × St) : Sum := ⟨x.1, x.2.path, look x.2.sl slot⟩

theorem sum_some {D : Dt} {n slot : Nat} {todo : List Code} {st : St} {l : List Sum} (h : (runC D n todo st).map (List.map (sum slot)) = some l) :
    ∃ L, runC D n todo st = some L ∧ ∀ x ∈ L, sum slot x ∈ l := by
  cases hr : runC D n todo st with
  | none => rw [hr] at h; cases h
  | some L =>
    rw [hr] at h
    simp only [Option.map_some, Option.some.injEq] at h
    exact ⟨L, rfl, fun x hx => h ▸ List.mem_map_of_mem hx⟩

theorem out_of {x : X × St} (I : Inv E ob x.2 a w) {slot : Nat} {s : Sum} (h : sum slot x = s) {sv : FV} (hs : s.res = some sv) :
    x.1 = s.x ∧ (∀ e ∈ s.path, e.1.val E = e.2) ∧ Rel E ob w sv (a.tmps.getD slot undef) ∧ a.defers = [] ∧ Below E.w0.heap.size E.w0 w := by
  subst h
  obtain ⟨v, h1, h2, _⟩ := I.slots slot sv hs
  exact ⟨rfl, I.path, by simp [h1]; exact h2, I.df, I.below⟩

end
end Fx
end Go.Proofs.Yteohenebjcbliaa
