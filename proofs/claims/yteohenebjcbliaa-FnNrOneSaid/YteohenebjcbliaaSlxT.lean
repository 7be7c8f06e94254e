/- The executor of Slx is sound, third part: every operation; a region; a body.
   Conditions: the structure Fit. -/
import Derived.Test.YteohenebjcbliaaSlxR
namespace Go.Proofs.Yteohenebjcbliaa
namespace Slx
open Go.RowKit

section
variable {P : Program} {E : Env} {ρ : Nat → Nat} {st : St} {a : Act} {w : World}

theorem load_at (F : Fit P E) (I : Inv E ρ st a w) {k i : Nat} {x : A} (hk : k < E.np) (hi : i < E.len) (h : memLook E.toDt st.mem k i = some x) :
    w.cell? (ad E k i) = some (wd (x.val E ρ)) ∧ x.ok E.toDt st.nn = true := by
  obtain ⟨d, hw⟩ := I.wld
  obtain ⟨h1, h2⟩ := memLook_sound (ρ := ρ) F I.memok hk hi h
  exact ⟨by rw [hw]; exact h1, h2⟩

theorem val_sound (F : Fit P E) (I : Inv E ρ st a w) {o : Oper} {sv : SV} {new : List Nd} (h : opR E.toDt st o.op = .val sv new) (hn : new.all (Nd.ok E.toDt st.nn) = true) :
    Good P E ρ st a w o sv new := by
  obtain ⟨dst, op, type, pos, after, guard⟩ := o
  simp only at h
  unfold opR at h
  split at h
  · -- move
    split at h
    · rename_i x sv' h1
      simp only [R.val.injEq] at h
      obtain ⟨rfl, rfl⟩ := h
      obtain ⟨e1, k1⟩ := opd_sound I h1
      exact good_of _ k1 fun w' => by simp [execOp, e1]
    · cases h
  · -- assign
    split at h
    · rename_i x sv' h1
      simp only [R.val.injEq] at h
      obtain ⟨rfl, rfl⟩ := h
      obtain ⟨e1, k1⟩ := opd_sound I h1
      exact good_of _ k1 fun w' => by simp [execOp, e1]
    · cases h
  · -- nilCheck
    split at h
    · rename_i x k h1
      simp only [R.val.injEq] at h
      obtain ⟨rfl, rfl⟩ := h
      obtain ⟨e1, k1⟩ := opd_sound I h1
      exact good_of _ k1 fun w' => by simp [execOp, e1, SV.den]
    · rename_i x k i h1
      simp only [R.val.injEq] at h
      obtain ⟨rfl, rfl⟩ := h
      obtain ⟨e1, k1⟩ := opd_sound I h1
      exact good_of _ k1 fun w' => by simp [execOp, e1, SV.den]
    · cases h
  · -- indexAddr
    split at h
    · rename_i t x i ht
      split at h
      · rename_i k h1
        simp only [R.val.injEq] at h
        obtain ⟨rfl, rfl⟩ := h
        obtain ⟨e1, k1⟩ := opd_sound I h1
        refine good_of _ (⟨k1, ht.2⟩ : SV.Ok E ρ st.nn (.wq k i)) fun w' => ?_
        have hi := F.harr ⟨E.blk k, E.off k, none⟩ i w' ht.2
        have hadd : (⟨E.blk k, E.off k, none⟩ : Addr).add i = ⟨E.blk k, E.off k + i, none⟩ := by
          unfold Addr.add; split
          · rename_i h0; subst h0; rfl
          · rfl
        rw [hadd, ← ht.1] at hi
        simp only [execOp, e1, SV.den]
        rw [show a.eval (.const (.int .i64 (.ofNat i))) = .int .i64 (.ofNat i) from rfl]
        rw [show (Int.ofNat i) = (i : Int) from rfl] at hi
        simp [hi]
      · cases h
    · cases h
  · -- load
    split at h
    · rename_i t x ht
      split at h
      · rename_i k i h1
        split at h
        · rename_i hki
          split at h
          · rename_i y h2
            simp only [R.val.injEq] at h
            obtain ⟨rfl, rfl⟩ := h
            obtain ⟨e1, k1⟩ := opd_sound I h1
            obtain ⟨c1, c2⟩ := load_at F I hki.1 hki.2 h2
            have hl := F.hload _ _ _ c1
            refine good_at _ rfl ⟨c2, fun h => by cases h⟩ (.inl ?_)
            simp only [execOp, e1, SV.den]
            rw [ht]
            simp only [ad] at hl
            simp [hl]
          · cases h
        · cases h
      · cases h
    · cases h
  · -- store
    split at h
    · split at h
      · split at h <;> cases h
      · cases h
    · cases h
  · -- extract
    split at h
    · rename_i y z bx bb h1
      simp only [R.val.injEq] at h
      obtain ⟨rfl, rfl⟩ := h
      obtain ⟨e1, k1⟩ := opd_sound I h1
      exact good_of _ ⟨k1.1, k1.2.2.1⟩ fun w' => by simp [execOp, e1, SV.den, Instr.extract]
    · rename_i y z bx bb h1
      simp only [R.val.injEq] at h
      obtain ⟨rfl, rfl⟩ := h
      obtain ⟨e1, k1⟩ := opd_sound I h1
      exact good_of _ ⟨k1.2.1, k1.2.2.2⟩ fun w' => by simp [execOp, e1, SV.den, Instr.extract]
    · cases h
  · -- mul
    split at h
    · rename_i x b1 y b2 h1 h2
      simp only [R.val.injEq] at h
      obtain ⟨rfl, rfl⟩ := h
      have o1 := opd_wa I h1
      have o2 := opd_wa I h2
      have g0 : grow E ρ st.nn [.mulw x y] st.nn = Nd.val E ρ (.mulw x y) := grow_at (nn := st.nn) (new := [.mulw x y]) (i := 0) rfl
      have key : ∀ t p q u w', a.eval p = wd (x.val E ρ) → a.eval q = wd (y.val E ρ) → (execOp a.eval ⟨dst, .binOp .mul t p q u, type, pos, after, guard⟩).run P w' = .ok (.value (wd (Nd.val E ρ (.mulw x y)))) w' := fun t p q u w' h1 h2 => by
        simp only [execOp, h1, h2, wd, eqGuard_mul]
        simp [binOp, Op.intArith, IntKind.wrap_u64, Nd.val, W_eq]
      have hden : SV.den E (grow E ρ st.nn [.mulw x y]) (.wa (.node st.nn) false) = wd (Nd.val E ρ (.mulw x y)) := by simp only [SV.den, A.val, g0]
      exact ⟨⟨by simp [A.ok], fun h => by cases h⟩, .inl (by rw [hden]; exact key _ _ _ _ w o1.1 o2.1), fun _ w' => by rw [hden]; exact key _ _ _ _ w' o1.1 o2.1⟩
    · cases h
  · -- lss
    split at h
    · rename_i x b1 y b2 h1 h2
      simp only [R.val.injEq] at h
      obtain ⟨rfl, rfl⟩ := h
      have o1 := opd_wa I h1
      have o2 := opd_wa I h2
      refine good_of _ (by simp [SV.Ok, C.ok, o1.2.1, o2.2.1]) fun w' => ?_
      simp only [execOp, o1.1, o2.1, wd, eqGuard_lss]
      simp [binOp, Op.intCmp, SV.den, C.val]
    · cases h
  · -- eql
    split at h
    · rename_i x b1 y b2 h1 h2
      simp only [R.val.injEq] at h
      obtain ⟨rfl, rfl⟩ := h
      have o1 := opd_wa I h1
      have o2 := opd_wa I h2
      refine good_of _ (by simp [SV.Ok, C.ok, o1.2.1, o2.2.1]) fun w' => ?_
      simp only [execOp, o1.1, o2.1, wd, eqGuard_at_int]
      simp [binOp, Op.intCmp, SV.den, C.val]
      rw [Bool.eq_iff_iff]; simp; omega
    · cases h
  · -- not
    split at h
    · rename_i c pos' h1
      simp only [R.val.injEq] at h
      obtain ⟨rfl, rfl⟩ := h
      obtain ⟨e1, k1⟩ := opd_sound I h1
      refine good_of _ k1 fun w' => ?_
      simp only [execOp, e1, SV.den, Op.unary]
      simp
      cases c.val E ρ <;> cases pos' <;> rfl
    · cases h
  · -- pick
    split at h
    · rename_i c pos' h1
      split at h
      · cases h
      · rename_i v h2
        split at h
        · rename_i sv' h3
          simp only [R.val.injEq] at h
          obtain ⟨rfl, rfl⟩ := h
          obtain ⟨e1, k1⟩ := opd_sound I h1
          obtain ⟨e3, k3⟩ := opd_sound I h3
          have hc := dec_sound I h2
          have e1' := e1
          simp only [SV.den, hc] at e1'
          refine good_of _ k3 fun w' => ?_
          rw [← e3]
          simp only [execOp, e1']
          by_cases hvp : v = pos' <;> simp [hvp, asBool]
        · cases h
    · cases h
  · -- call
    exact call_sound F I rfl h hn
  · cases h

end
end Slx
end Go.Proofs.Yteohenebjcbliaa
