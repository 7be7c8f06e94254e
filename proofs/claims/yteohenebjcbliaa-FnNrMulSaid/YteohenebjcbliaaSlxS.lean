/- The executor of Slx is sound: what it computes is what the run does.
   Conditions: the structure Fit (the contracts of the called functions; the memory at the start). -/
import Derived.Test.YteohenebjcbliaaSlx
namespace Go.Proofs.Yteohenebjcbliaa
namespace Slx
open Go.RowKit

/-- The contracts, and the memory at the start. -/
structure Fit (P : Program) (E : Env) : Prop where
  mo : P.follows .mixedOrders = true
  hmul : E.mul64 ≠ 0 → ∀ x y : Nat, x < W → y < W → ∀ w, Calls P E.mul64 #[wd x, wd y] w fun e w' => e = .returned (.tuple #[wd (x * y / W), wd (x * y % W)]) ∧ w' = w
  hmule : E.mul64 ≠ 0 → ∀ args w, (callFunc E.mul64 args).run P w = .ok (.enter E.mul64 args) w
  hadd : E.add64 ≠ 0 → ∀ x y z : Nat, z ≤ 1 → ∀ w, (callFunc E.add64 #[wd x, wd y, wd z]).run P w = .ok (.value (.tuple #[wd ((x + y + z) % W), wd ((x + y + z) / W)])) w
  hsub : E.sub64 ≠ 0 → ∀ x y z : Nat, z ≤ 1 → ∀ w, (callFunc E.sub64 #[wd x, wd y, wd z]).run P w = .ok (.value (.tuple #[wd ((x + W - y - z) % W), wd (if x < y + z then 1 else 0)])) w
  hsme : E.sm ≠ 0 → ∀ args w, (callFunc E.sm args).run P w = .ok (.enter E.sm args) w
  hsm : E.sm ≠ 0 → ∀ k w (l : List Nat), k < E.np → l.length = E.len → (∀ i x, l[i]? = some x → x < W ∧ w.cell? (ad E k i) = some (wd x)) →
    Calls P E.sm #[.pointer (some ⟨E.blk k, E.off k, none⟩)] w fun e w' => e = .returned (.bool (decide (num l < E.Qm))) ∧ ∃ d, w' = { w with drawn := d }
  harr : ∀ a i w, i < E.len → (Instr.indexAt E.arr (.pointer (some a)) (.int .i64 (.ofNat i))).run P w = .ok (.pointer (some (a.add i))) w
  hload : ∀ a v w, w.cell? a = some v → (Instr.loadAt E.u64 (.pointer (some a))).run P w = .ok v w
  hstore : ∀ a v n w, w.cell? a = some v → w.frozen? a = false → (Instr.storeAt E.u64 (.pointer (some a)) (wd n)).run P w = .ok () (w.setCell a (wd n))
  cellv : ∀ p i, p < E.np → i < E.len → E.w0.cell? (ad E p i) = some (wd (E.mv p i)) ∧ E.mv p i < W
  frz : ∀ p i, p < E.np → i < E.len → E.wr p = true → E.w0.frozen? (ad E p i) = false
  disj : ∀ p p', E.dj p p' = true → E.blk p ≠ E.blk p'

section
variable (E : Env) (ρ : Nat → Nat)
def SV.Ok (nn : Nat) : SV → Prop
  | .wa x bit => x.ok E.toDt nn = true ∧ (bit = true → x.val E ρ ≤ 1)
  | .wb c _ => c.ok E.toDt nn = true
  | .wp k => k < E.np
  | .wq k i => k < E.np ∧ i < E.len
  | .wt x y bx bb => x.ok E.toDt nn = true ∧ y.ok E.toDt nn = true ∧ (bx = true → x.val E ρ ≤ 1) ∧ (bb = true → y.val E ρ ≤ 1)
  | _ => True
def Sat : List Nd → Nat → Prop
  | [], n => n = 0
  | d :: r, n => ∃ m, n = m + 1 ∧ d.ok E.toDt m = true ∧ ρ m = d.val E ρ ∧ Sat r m
def wof : List ((Nat × Nat) × A) → World
  | [] => E.w0
  | e :: r => (wof r).setCell (ad E e.1.1 e.1.2) (wd (e.2.val E ρ))
def MemOk (nn : Nat) (mem : List ((Nat × Nat) × A)) : Prop := ∀ e ∈ mem, e.1.1 < E.np ∧ e.1.2 < E.len ∧ E.wr e.1.1 = true ∧ e.2.ok E.toDt nn = true

structure Inv (st : St) (a : Act) (w : World) : Prop where
  size : a.tmps.size = E.N
  df : a.defers = []
  slots : ∀ t sv, look st.sl t = some sv → a.tmps[t]? = some (sv.den E ρ) ∧ sv.Ok E ρ st.nn
  bnd : ∀ j, j < st.nn → ρ j < W
  sat : Sat E ρ st.nd st.nn
  memok : MemOk E st.nn st.mem
  wld : ∃ d, w = { wof E ρ st.mem with drawn := d }
  path : ∀ e ∈ st.path, e.1.ok E.toDt st.nn = true ∧ e.1.val E ρ = e.2
end

def Ext (nn : Nat) (ρ ρ' : Nat → Nat) : Prop := ∀ j, j < nn → ρ' j = ρ j
theorem Ext.refl (nn : Nat) (ρ : Nat → Nat) : Ext nn ρ ρ := fun _ _ => rfl
theorem Ext.trans {nn mm : Nat} {ρ ρ' ρ'' : Nat → Nat} (h : Ext nn ρ ρ') (h' : Ext mm ρ' ρ'') (hm : nn ≤ mm) : Ext nn ρ ρ'' :=
  fun j hj => (h' j (by omega)).trans (h j hj)

section
variable {E : Env} {ρ ρ' : Nat → Nat} {nn mm : Nat}

theorem A.ok_mono {D : Dt} {x : A} (h : x.ok D nn = true) (hm : nn ≤ mm) : x.ok D mm = true := by
  cases x <;> simp [A.ok] at h ⊢ <;> omega
theorem A.val_ext {D : Dt} {x : A} (h : x.ok D nn = true) (he : Ext nn ρ ρ') : x.val E ρ' = x.val E ρ := by
  cases x with
  | node j => simp [A.ok] at h; exact he j h
  | _ => rfl
theorem C.ok_mono {D : Dt} {x : C} (h : x.ok D nn = true) (hm : nn ≤ mm) : x.ok D mm = true := by
  cases x with
  | lt x y => simp only [C.ok, Bool.and_eq_true] at h ⊢; exact ⟨A.ok_mono h.1 hm, A.ok_mono h.2 hm⟩
  | eq x y => simp only [C.ok, Bool.and_eq_true] at h ⊢; exact ⟨A.ok_mono h.1 hm, A.ok_mono h.2 hm⟩
  | ms l => simp only [C.ok, List.all_eq_true] at h ⊢; exact fun x hx => A.ok_mono (h x hx) hm
theorem C.val_ext {D : Dt} {x : C} (h : x.ok D nn = true) (he : Ext nn ρ ρ') : x.val E ρ' = x.val E ρ := by
  cases x with
  | lt x y => simp only [C.ok, Bool.and_eq_true] at h; simp only [C.val, A.val_ext h.1 he, A.val_ext h.2 he]
  | eq x y => simp only [C.ok, Bool.and_eq_true] at h; simp only [C.val, A.val_ext h.1 he, A.val_ext h.2 he]
  | ms l =>
    simp only [C.ok, List.all_eq_true] at h
    simp only [C.val]
    rw [List.map_congr_left (g := A.val E ρ) fun x hx => A.val_ext (h x hx) he]
theorem Nd.ok_mono {D : Dt} {x : Nd} (h : x.ok D nn = true) (hm : nn ≤ mm) : x.ok D mm = true := by
  simp only [Nd.ok, List.all_eq_true] at h ⊢; exact fun x hx => A.ok_mono (h x hx) hm
theorem Nd.val_ext {D : Dt} {x : Nd} (h : x.ok D nn = true) (he : Ext nn ρ ρ') : x.val E ρ' = x.val E ρ := by
  simp only [Nd.ok, List.all_eq_true] at h
  have g : ∀ y ∈ x.args, A.val E ρ' y = A.val E ρ y := fun y hy => A.val_ext (h y hy) he
  cases x <;> simp only [Nd.args, List.mem_cons, List.not_mem_nil, or_false, forall_eq_or_imp, forall_eq] at g <;> simp only [Nd.val, g]
theorem SV.den_ext {sv : SV} (h : sv.Ok E ρ nn) (he : Ext nn ρ ρ') : sv.den E ρ' = sv.den E ρ := by
  cases sv with
  | wa x b => simp only [SV.den, A.val_ext h.1 he]
  | wb c p => simp only [SV.den, C.val_ext (D := E.toDt) h he]
  | wt x y bx bb => simp only [SV.den, A.val_ext h.1 he, A.val_ext h.2.1 he]
  | _ => rfl
theorem SV.Ok_ext {sv : SV} (h : sv.Ok E ρ nn) (he : Ext nn ρ ρ') (hm : nn ≤ mm) : sv.Ok E ρ' mm := by
  cases sv with
  | wa x b => exact ⟨A.ok_mono h.1 hm, fun hb => by rw [A.val_ext h.1 he]; exact h.2 hb⟩
  | wb c p => exact C.ok_mono (D := E.toDt) h hm
  | wt x y bx bb => exact ⟨A.ok_mono h.1 hm, A.ok_mono h.2.1 hm, fun hb => by rw [A.val_ext h.1 he]; exact h.2.2.1 hb, fun hb => by rw [A.val_ext h.2.1 he]; exact h.2.2.2 hb⟩
  | _ => exact h
theorem Sat_ext : ∀ {l : List Nd} {n : Nat}, Sat E ρ l n → Ext n ρ ρ' → Sat E ρ' l n
  | [], _, h, _ => h
  | d :: r, n, ⟨m, hn, hok, hv, hr⟩, he => ⟨m, hn, hok, by
      subst hn
      rw [he m (by omega), hv, Nd.val_ext hok (fun j hj => he j (by omega))], Sat_ext hr fun j hj => he j (by omega)⟩
theorem wof_ext : ∀ {mem : List ((Nat × Nat) × A)}, MemOk E nn mem → Ext nn ρ ρ' → wof E ρ' mem = wof E ρ mem
  | [], _, _ => rfl
  | e :: r, h, he => by
    simp only [wof]
    rw [wof_ext (fun e' h' => h e' (List.mem_cons_of_mem _ h')) he, A.val_ext (h e (List.mem_cons_self ..)).2.2.2 he]
theorem MemOk.mono {mem : List ((Nat × Nat) × A)} (h : MemOk E nn mem) (hm : nn ≤ mm) : MemOk E mm mem :=
  fun e he => ⟨(h e he).1, (h e he).2.1, (h e he).2.2.1, A.ok_mono (h e he).2.2.2 hm⟩
end

section
variable {P : Program} {E : Env} {ρ : Nat → Nat} {st : St} {a : Act} {w : World}

theorem lt_W (F : Fit P E) {nn : Nat} (hb : ∀ j, j < nn → ρ j < W) {x : A} (h : x.ok E.toDt nn = true) : x.val E ρ < W := by
  cases x with
  | node j => simp [A.ok] at h; exact hb j h
  | lit m => exact (show m < W by simpa [A.ok] using h)
  | cel p i => simp [A.ok] at h; exact (F.cellv p i h.1 h.2).2

theorem opd_sound (I : Inv E ρ st a w) {x : Operand} {sv : SV} (h : opd st x = some sv) : a.eval x = sv.den E ρ ∧ sv.Ok E ρ st.nn := by
  unfold opd at h
  split at h
  · rename_i t
    obtain ⟨h1, h2⟩ := I.slots t sv h
    exact ⟨by simp [Act.eval, h1], h2⟩
  · rename_i c
    split at h
    · simp only [Option.some.injEq] at h
      subst h
      exact ⟨rfl, by simpa [A.ok], fun hb => show c ≤ 1 by simpa using hb⟩
    · cases h
  · simp only [Option.some.injEq] at h
    subst h
    exact ⟨rfl, trivial⟩
  · cases h

theorem wof_some (F : Fit P E) {nn : Nat} : ∀ {mem : List ((Nat × Nat) × A)}, MemOk E nn mem → ∀ k i, k < E.np → i < E.len → ∃ v, (wof E ρ mem).cell? (ad E k i) = some v
  | [], _, k, i, hk, hi => ⟨_, (F.cellv k i hk hi).1⟩
  | _ :: _, h, k, i, hk, hi => by
    obtain ⟨v, hv⟩ := wof_some F (fun e' h' => h e' (List.mem_cons_of_mem _ h')) k i hk hi
    exact cell?_setCell_some hv

theorem wof_frozen : ∀ (mem : List ((Nat × Nat) × A)) (x : Addr), (wof E ρ mem).frozen? x = E.w0.frozen? x
  | [], _ => rfl
  | _ :: r, x => by simp only [wof, World.frozen?_setCell]; exact wof_frozen r x

theorem memLook_sound (F : Fit P E) {nn : Nat} : ∀ {mem : List ((Nat × Nat) × A)}, MemOk E nn mem → ∀ {k i : Nat} {x : A}, k < E.np → i < E.len →
    memLook E.toDt mem k i = some x → (wof E ρ mem).cell? (ad E k i) = some (wd (x.val E ρ)) ∧ x.ok E.toDt nn = true
  | [], _, k, i, x, hk, hi, h => by
    simp only [memLook, Option.some.injEq] at h
    subst h
    exact ⟨(F.cellv k i hk hi).1, by simp [A.ok, hk, hi]⟩
  | ((k', i'), y) :: r, h, k, i, x, hk, hi, hl => by
    have h' : MemOk E nn r := fun e' h' => h e' (List.mem_cons_of_mem _ h')
    simp only [memLook] at hl
    split at hl
    · rename_i hkk
      subst hkk
      split at hl
      · rename_i hii
        subst hii
        simp only [Option.some.injEq] at hl
        subst hl
        obtain ⟨v, hv⟩ := wof_some (ρ := ρ) F h' k' i' hk hi
        exact ⟨by simp only [wof]; exact World.cell?_setCell_same _ _ _ hv, (h _ (List.mem_cons_self ..)).2.2.2⟩
      · rename_i hii
        have ih := memLook_sound F h' hk hi hl
        refine ⟨?_, ih.2⟩
        simp only [wof]
        rw [World.cell?_setCell_other _ _ _ _ (by simp only [ad, ne_eq, Addr.mk.injEq, not_and]; omega)]
        exact ih.1
    · split at hl
      · rename_i hdj
        have ih := memLook_sound F h' hk hi hl
        refine ⟨?_, ih.2⟩
        simp only [wof]
        rw [World.cell?_setCell_other _ _ _ _ (by
          have := F.disj _ _ hdj
          simp only [ad, ne_eq, Addr.mk.injEq, not_and]
          intro hb; exact absurd hb this)]
        exact ih.1
      · cases hl

theorem cells_sound (F : Fit P E) {nn : Nat} {mem : List ((Nat × Nat) × A)} (h : MemOk E nn mem) {k : Nat} (hk : k < E.np) : ∀ {n : Nat} {l : List A}, n ≤ E.len →
    cells E.toDt mem k n = some l → l.length = n ∧ (∀ i x, l[i]? = some x → (wof E ρ mem).cell? (ad E k i) = some (wd (x.val E ρ)) ∧ x.ok E.toDt nn = true)
  | 0, l, _, hl => by
    simp only [cells, Option.some.injEq] at hl
    subst hl
    exact ⟨rfl, by simp⟩
  | n + 1, l, hn, hl => by
    simp only [cells] at hl
    split at hl
    · rename_i l' x h1 h2
      simp only [Option.some.injEq] at hl
      subst hl
      obtain ⟨g1, g2⟩ := cells_sound F h hk (by omega) h1
      refine ⟨by simp [g1], fun i y hy => ?_⟩
      rw [List.getElem?_append] at hy
      split at hy
      · exact g2 i y hy
      · rename_i hi
        have : i = n := by
          have := (List.getElem?_eq_some_iff.1 hy).1
          simp at this
          omega
        subst this
        simp [g1] at hy
        subst hy
        exact memLook_sound F h hk (by omega) h2
    · cases hl

theorem dec_sound (I : Inv E ρ st a w) {c : C} {v : Bool} (h : dec st.path c = some v) : c.val E ρ = v := by
  have : ∀ l : List (C × Bool), (∀ e ∈ l, e.1.val E ρ = e.2) → dec l c = some v → c.val E ρ = v := by
    intro l
    induction l with
    | nil => intro _ h; cases h
    | cons e r ih =>
      intro hl h
      obtain ⟨c', b⟩ := e
      simp only [dec] at h
      split at h
      · rename_i hc
        have hv : b = v := by simpa using h
        subst hc; subst hv
        exact hl (c', b) (List.mem_cons_self ..)
      · exact ih (fun e he => hl e (List.mem_cons_of_mem _ he)) h
  exact this st.path (fun e he => (I.path e he).2) h

end
end Slx
end Go.Proofs.Yteohenebjcbliaa
