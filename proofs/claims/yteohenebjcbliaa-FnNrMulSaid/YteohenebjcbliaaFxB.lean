/- The facts on whole elements that the executor Fx asks of this program. No conditions. -/
import Derived.Test.YteohenebjcbliaaFxU
import Derived.ChangeKeysEq
set_option linter.unusedVariables false
set_option linter.unusedSimpArgs false
namespace Go.Proofs.Yteohenebjcbliaa
namespace Fx
open Go.RowKit
open Slx (wd W)

def arrs : List Nat := [23, 39]
theorem arr_cases {t : Nat} (h : arrs.contains t = true) : t = 23 ∨ t = 39 := by
  simpa [arrs] using h

theorem el_underlying {t : Nat} (h : arrs.contains t = true) : Try.prog.underlying t = some (.array 4 22) := by
  rcases arr_cases h with rfl | rfl <;> kernel_rfl

theorem el_box (t : Nat) (h : arrs.contains t = true) (X : Nat) (w : World) : (Instr.box t (elv X)).run Try.prog w = .ok (.pointer (some ⟨w.heap.size, 0, none⟩)) (w.alloc (.cells (elcells X) t)) := rfl

theorem el_alloc (t : Nat) (h : arrs.contains t = true) (w : World) : (Instr.alloc t true (.tuple #[])).run Try.prog w = .ok (.pointer (some ⟨w.heap.size, 0, none⟩)) (w.alloc (.cells (elcells 0) t)) := by
  have hz : elcells 0 = #[.int .u64 0, .int .u64 0, .int .u64 0, .int .u64 0] := by
    unfold elcells
    simp [wordAt]
  rw [hz]
  rcases arr_cases h with rfl | rfl <;> exact rfl

theorem el_slice (t : Nat) (h : arrs.contains t = true) (a : Addr) (w : World) : (Instr.sliceAt t (.pointer (some a)) none none none).run Try.prog w = .ok (.slice (some a) 4 4) w := by
  rcases arr_cases h with rfl | rfl <;> kernel_rfl

theorem el_agg (t : Nat) (h : arrs.contains t = true) (w : World) : (isAgg t).run Try.prog w = .ok true w := by
  rcases arr_cases h with rfl | rfl <;> kernel_rfl
theorem el_size (t : Nat) (h : arrs.contains t = true) (w : World) : (sizeOf t).run Try.prog w = .ok 4 w := by
  rcases arr_cases h with rfl | rfl <;> kernel_rfl

theorem el_load (t : Nat) (h : arrs.contains t = true) (b X : Nat) (w : World) (hc : ∀ i, i < 4 → w.cell? ⟨b, 0 + i, none⟩ = some (wd (wordAt X i))) :
    (Instr.loadAt t (.pointer (some ⟨b, 0, none⟩))).run Try.prog w = .ok (elv X) w := by
  have hl := run_loadCells_list (P := Try.prog) (w := w) ⟨b, 0, none⟩ (elcells X).toList (by
    have hk : ∀ j, j < 4 → ∀ v, (elcells X).toList[j]? = some v → w.cell? ((⟨b, 0, none⟩ : Addr).add j) = some v := by
      apply four
      all_goals
        intro v hv
        simp only [elcells, List.getElem?_cons_zero, List.getElem?_cons_succ, Option.some.injEq] at hv
        subst hv
        refine (congrArg w.cell? ?_).trans (hc _ (by decide))
        rfl
    intro j v hv
    have : j < 4 := by
      have := (List.getElem?_eq_some_iff.1 hv).1
      simpa [elcells] using this
    exact hk j this v hv)
  have hlen : (elcells X).toList.length = 4 := rfl
  rw [hlen] at hl
  simp [Instr.loadAt, Instr.sureAddr, loadVar, el_agg t h, el_size t h, hl]
  rfl

theorem ex_set {w : World} {p q : Addr} {x : Value} (h : ∃ v, w.cell? q = some v) : ∃ v, (w.setCell p x).cell? q = some v :=
  let ⟨_, h⟩ := h; cell?_setCell_some h

theorem el_store (t : Nat) (h : arrs.contains t = true) (b X : Nat) (w : World) (hc : ∀ i, i < 4 → ∃ v, w.cell? ⟨b, 0 + i, none⟩ = some v) (hf : ∀ i, i < 4 → w.frozen? ⟨b, 0 + i, none⟩ = false) :
    (Instr.storeAt t (.pointer (some ⟨b, 0, none⟩)) (elv X)).run Try.prog w = .ok () (putn w b 0 X) := by
  have one : ∀ (w : World) (i n : Nat), (∃ v, w.cell? ⟨b, 0 + i, none⟩ = some v) → w.frozen? ⟨b, 0 + i, none⟩ = false → (store ((⟨b, 0, none⟩ : Addr).add i) (wd n)).run Try.prog w = .ok () (w.setCell ⟨b, 0 + i, none⟩ (wd n)) := by
    intro w i n ⟨v, hv⟩ hf
    have ha : (⟨b, 0, none⟩ : Addr).add i = ⟨b, 0 + i, none⟩ := by
      unfold Addr.add; split
      · rename_i h0; subst h0; rfl
      · rfl
    rw [ha]
    have hs := run_store Try.prog w ⟨b, 0 + i, none⟩ (wd n) .plain rfl
    rw [hv] at hs
    simp only [hf] at hs
    exact hs
  have s0 := one w 0 (wordAt X 0) (hc 0 (by decide)) (by simpa only [World.frozen?_setCell] using hf 0 (by decide))
  have s1 := one (w.setCell ⟨b, 0 + 0, none⟩ (wd (wordAt X 0))) 1 (wordAt X 1) (ex_set (hc 1 (by decide))) (by simpa only [World.frozen?_setCell] using hf 1 (by decide))
  have s2 := one ((w.setCell ⟨b, 0 + 0, none⟩ (wd (wordAt X 0))).setCell ⟨b, 0 + 1, none⟩ (wd (wordAt X 1))) 2 (wordAt X 2) (ex_set (ex_set (hc 2 (by decide)))) (by simpa only [World.frozen?_setCell] using hf 2 (by decide))
  have s3 := one (((w.setCell ⟨b, 0 + 0, none⟩ (wd (wordAt X 0))).setCell ⟨b, 0 + 1, none⟩ (wd (wordAt X 1))).setCell ⟨b, 0 + 2, none⟩ (wd (wordAt X 2))) 3 (wordAt X 3) (ex_set (ex_set (ex_set (hc 3 (by decide))))) (by simpa only [World.frozen?_setCell] using hf 3 (by decide))
  simp only [Instr.storeAt, Instr.sureAddr, storeVar, Sem.run_bind, Sem.run_pure, Result.andThen_ok, el_size t h]
  have hsz : (elv X).cells.size = 4 := rfl
  rw [hsz]
  have hcl : (elv X).cells.toList = [wd (wordAt X 0), wd (wordAt X 1), wd (wordAt X 2), wd (wordAt X 3)] := rfl
  simp only [ne_eq, not_true_eq_false, if_false, Sem.run_pure, Result.andThen_ok, hcl, storeCells, Sem.run_bind, s0, s1, s2, s3]
  rfl

theorem elv_eq_iff {X Y : Nat} (hX : X < R) (hY : Y < R) : (wordAt X 0 = wordAt Y 0 ∧ wordAt X 1 = wordAt Y 1 ∧ wordAt X 2 = wordAt Y 2 ∧ wordAt X 3 = wordAt Y 3) ↔ X = Y := by
  constructor
  · intro h
    refine same_words hX hY ?_
    have h' := h
    revert h'
    simp only [and_imp]
    intro h0 h1 h2 h3
    apply four <;> assumption
  · rintro rfl
    simp

theorem el_equal (t : Nat) (h : arrs.contains t = true) (X Y : Nat) (w : World) (hX : X < R) (hY : Y < R) :
    (Op.equal t (elv X) (elv Y)).run Try.prog w = .ok (decide (X = Y)) w := by
  have hi : ∃ i, Try.prog.info? 22 = some i := ⟨_, rfl⟩
  obtain ⟨i, hi⟩ := hi
  have e1 : Try.prog.cellsOf 22 = 1 := by kernel_rfl
  have hu : Try.prog.underlying 22 = some (.int .u64) := by kernel_rfl
  have := run_equalIn_array w 9999 (elcells X) (elcells Y) (el_underlying h) hi
  rw [e1] at this
  have hp : ∀ (Z : Nat) (j : Nat), j < 4 → ∀ w, (part 22 (elcells Z) j).run Try.prog w = .ok (wd (wordAt Z j)) w := by
    intro Z
    apply four <;> (intro w; have ha : (isAgg 22).run Try.prog w = .ok false w := by kernel_rfl) <;> simp [part, ha, elcells, wd]
  have hq : ∀ (a b : Nat) w, (Op.equalIn 9999 22 (wd a) (wd b)).run Try.prog w = .ok (decide (a = b)) w := by
    intro a b w
    have := run_equalIn_int (P := Try.prog) w 9998 22 .u64 .u64 a b hu
    simp only [wd]
    rw [this]
    congr 1
    rw [Bool.eq_iff_iff]; simp; omega
  rw [show (List.range 4) = [0, 1, 2, 3] from rfl] at this
  unfold Op.equal Op.maxDepth
  show (Op.equalIn (9999 + 1) t (.agg (elcells X)) (.agg (elcells Y))).run Try.prog w = _
  rw [this]
  have hd : decide (X = Y) = decide (wordAt X 0 = wordAt Y 0 ∧ wordAt X 1 = wordAt Y 1 ∧ wordAt X 2 = wordAt Y 2 ∧ wordAt X 3 = wordAt Y 3) := decide_eq_decide.2 (elv_eq_iff hX hY).symm
  rw [hd]
  simp only [Op.eqItems, Sem.run_bind, Nat.mul_one, hp X 0 (by decide), hp X 1 (by decide), hp X 2 (by decide), hp X 3 (by decide), hp Y 0 (by decide), hp Y 1 (by decide), hp Y 2 (by decide), hp Y 3 (by decide), Result.andThen_ok, hq]
  by_cases e0 : wordAt X 0 = wordAt Y 0
  · by_cases e1 : wordAt X 1 = wordAt Y 1
    · by_cases e2 : wordAt X 2 = wordAt Y 2
      · by_cases e3 : wordAt X 3 = wordAt Y 3
        · simp [e0, e1, e2, e3, hp X 0 (by decide), hp X 1 (by decide), hp X 2 (by decide), hp X 3 (by decide), hp Y 0 (by decide), hp Y 1 (by decide), hp Y 2 (by decide), hp Y 3 (by decide), hq]
        · simp [e0, e1, e2, e3, hp X 0 (by decide), hp X 1 (by decide), hp X 2 (by decide), hp X 3 (by decide), hp Y 0 (by decide), hp Y 1 (by decide), hp Y 2 (by decide), hp Y 3 (by decide), hq]
      · simp [e0, e1, e2, hp X 0 (by decide), hp X 1 (by decide), hp X 2 (by decide), hp X 3 (by decide), hp Y 0 (by decide), hp Y 1 (by decide), hp Y 2 (by decide), hp Y 3 (by decide), hq]
    · simp [e0, e1, hp X 0 (by decide), hp X 1 (by decide), hp X 2 (by decide), hp X 3 (by decide), hp Y 0 (by decide), hp Y 1 (by decide), hp Y 2 (by decide), hp Y 3 (by decide), hq]
  · simp [e0, hp X 0 (by decide), hp X 1 (by decide), hp X 2 (by decide), hp X 3 (by decide), hp Y 0 (by decide), hp Y 1 (by decide), hp Y 2 (by decide), hp Y 3 (by decide), hq]

theorem el_guard (op : BinOp) (hop : op = .eql ∨ op = .neq) (t : Nat) (h : arrs.contains t = true) (x y : Operand) (X Y : Nat) (w : World) : (eqGuard op t x y (elv X) (elv Y)).run Try.prog w = .ok () w := by
  have hg : Try.prog.eqGuardType Try.prog.depth t = false := by
    rcases arr_cases h with rfl | rfl <;> kernel_rfl
  rcases hop with rfl | rfl <;> simp [eqGuard, elv, hg]

theorem el_eql (t : Nat) (h : arrs.contains t = true) (X Y : Nat) (x y : Operand) (w : World) (hX : X < R) (hY : Y < R) :
    (do eqGuard .eql t x y (elv X) (elv Y); binOp .eql t (elv X) (elv Y) : Sem Value).run Try.prog w = .ok (.bool (decide (X = Y))) w := by
  rw [Sem.run_bind, el_guard .eql (.inl rfl) t h]
  simp only [Result.andThen_ok]
  have := el_equal t h X Y w hX hY
  have hb : binOp .eql t (elv X) (elv Y) = (do pure (.bool (← Op.equal t (elv X) (elv Y)))) := rfl
  rw [hb]
  simp [this]

theorem el_neq (t : Nat) (h : arrs.contains t = true) (X Y : Nat) (x y : Operand) (w : World) (hX : X < R) (hY : Y < R) :
    (do eqGuard .neq t x y (elv X) (elv Y); binOp .neq t (elv X) (elv Y) : Sem Value).run Try.prog w = .ok (.bool (!decide (X = Y))) w := by
  rw [Sem.run_bind, el_guard .neq (.inr rfl) t h]
  simp only [Result.andThen_ok]
  have := el_equal t h X Y w hX hY
  have hb : binOp .neq t (elv X) (elv Y) = (do pure (.bool (!(← Op.equal t (elv X) (elv Y))))) := rfl
  rw [hb]
  simp [this]

end Fx
end Go.Proofs.Yteohenebjcbliaa
