/- The contracts of spec.PrimeXx and spec.LessWords. Conditions: slices of 4 words. -/
import Derived.Test.YteohenebjcbliaaMulC
import Derived.LoopTactic
import Derived.Deep.QuietTactic
import Derived.BigQuiet
import Derived.Outline
import Derived.WalkLawsBesides
import Derived.WalkSpells
import Derived.Lib.Hide
namespace Go.Proofs.Yteohenebjcbliaa
open Go.RowKit Slx

theorem prime_any (w : World) : Calls Try.prog 8 #[] w fun e w' =>
    e = .returned (.slice (some ⟨w.heap.size, 0, none⟩) 4 4) ∧ w' = w.alloc (.cells #[.int .u64 4891460686036598785, .int .u64 2896914383306846353, .int .u64 13281191951274694749, .int .u64 3486998266802970665] 22) := by
  go_enter Try.func8, Try.ntmps8
  go_wp2
  go_ret
  exact ⟨rfl, rfl⟩

theorem same_words {A B : Nat} (hA : A < R) (hB : B < R) (h : ∀ j, j < 4 → wordAt A j = wordAt B j) : A = B := by
  rw [← words_sum hA, ← words_sum hB]
  simp only [h 0 (by decide), h 1 (by decide), h 2 (by decide), h 3 (by decide)]

theorem drewN_two (w : World) (a b : Nat) : (w.drewN a).drewN b = w.drewN (a + b) := by
  simp [World.drewN, Nat.add_assoc]

theorem lt_words {A B j : Nat} (hA : A < R) (hB : B < R) (hj : j < 4) (heq : ∀ i, j + 1 ≤ i → i < 4 → wordAt A i = wordAt B i) (hne : wordAt A j ≠ wordAt B j) : A < B ↔ wordAt A j < wordAt B j := by
  have a := words_sum hA
  have b := words_sum hB
  have la0 := wordAt_lt A 0
  have lb0 := wordAt_lt B 0
  have la1 := wordAt_lt A 1
  have lb1 := wordAt_lt B 1
  have la2 := wordAt_lt A 2
  have lb2 := wordAt_lt B 2
  have la3 := wordAt_lt A 3
  have lb3 := wordAt_lt B 3
  have hcase : j = 0 ∨ j = 1 ∨ j = 2 ∨ j = 3 := by omega
  rcases hcase with rfl | rfl | rfl | rfl
  · have e1 := heq 1 (by omega) (by omega)
    have e2 := heq 2 (by omega) (by omega)
    have e3 := heq 3 (by omega) (by omega)
    clear heq
    rw [W_eq] at *
    omega
  · have e2 := heq 2 (by omega) (by omega)
    have e3 := heq 3 (by omega) (by omega)
    clear heq
    rw [W_eq] at *
    omega
  · have e3 := heq 3 (by omega) (by omega)
    clear heq
    rw [W_eq] at *
    omega
  · clear heq
    rw [W_eq] at *
    omega

set_option maxHeartbeats 1000000 in
theorem less_any (w : World) (b1 o1 c1 b2 o2 c2 : Nat) (A B : Nat) (hA : A < R) (hB : B < R)
    (h1 : ∀ i, i < 4 → w.cell? ⟨b1, o1 + i, none⟩ = some (wd (wordAt A i))) (h2 : ∀ i, i < 4 → w.cell? ⟨b2, o2 + i, none⟩ = some (wd (wordAt B i))) :
    Calls Try.prog 7 #[.slice (some ⟨b1, o1, none⟩) 4 c1, .slice (some ⟨b2, o2, none⟩) 4 c2] w fun e w' => e = .returned (.bool (decide (A < B))) ∧ ∃ d, w' = w.drewN d := by
  have H1 := Lib.hid h1
  have H2 := Lib.hid h2
  clear h1 h2
  go_enter Try.func7, Try.ntmps7
  go_wp2
  go_loopw [5] (fun i wr => ∃ k m : Nat, k ≤ 4 ∧ i = .int .i64 ((k : Int) - 1) ∧ (∀ j, k ≤ j → j < 4 → wordAt A j = wordAt B j) ∧ wr = w.drewN m) (fun i _ => (intOf i + 1).toNat)
  case atStart => exact ⟨4, 0, Nat.le_refl _, rfl, fun j h h' => by omega, rfl⟩
  case round =>
    obtain ⟨k, m, hk, rfl, heq, rfl⟩ := hrel
    have HE := Lib.hid heq
    clear heq
    rcases Nat.eq_zero_or_pos k with rfl | hpos
    · go_wp2
      go_ret
      refine ⟨?_, m, rfl⟩
      have : A = B := same_words hA hB fun j hj => HE.out j (Nat.zero_le _) hj
      rw [this]
      exact congrArg Ending.returned (congrArg Value.bool (by simp))
    · obtain ⟨j, rfl⟩ : ∃ j, k = j + 1 := ⟨k - 1, by omega⟩
      rw [show (((j + 1 : Nat) : Int) - 1) = (j : Int) by omega]
      have c1 : w.cell? ⟨b1, o1 + j, none⟩ = some (.int .u64 (wordAt A j : Nat)) := H1.out j (by omega)
      have c2 : w.cell? ⟨b2, o2 + j, none⟩ = some (.int .u64 (wordAt B j : Nat)) := H2.out j (by omega)
      have hj : j < 4 := by omega
      have hj0 : (0 : Int) ≤ j := by omega
      have hjn : (j : Int) < 4 := by omega
      clear hpos hk
      by_cases hne : wordAt A j = wordAt B j
      · have HN := Lib.hid hne
        rw [hne] at c1
        clear hne
        generalize hx : wordAt B j = x at c1 c2
        clear hx
        go_wp2_with fail
        go_quiet (fail)
        go_wp2
        go_roundw
        case rel =>
          refine ⟨j, _, by omega, rfl, ?_, rfl⟩
          intro i hi hin
          by_cases hij : i = j
          · rw [hij]; exact HN.out
          · exact HE.out i (by omega) hin
        case measure => simp [intOf]
      · have HN := Lib.hid hne
        have hbne : (((wordAt A j : Nat) : Int) != ((wordAt B j : Nat) : Int)) = true := by simp; omega
        clear hne
        generalize hx : wordAt A j = x at c1 hbne
        generalize hy : wordAt B j = y at c2 hbne
        have HX := Lib.hid hx
        have HY := Lib.hid hy
        clear hx hy
        go_wp2_with fail
        go_quiet (fail)
        go_wp2_with fail
        go_quiet (fail)
        go_wp2
        go_ret
        refine ⟨?_, _, by rw [drewN_two, drewN_two]⟩
        have hl := lt_words hA hB hj HE.out HN.out
        rw [HX.out, HY.out] at hl
        exact congrArg Ending.returned (congrArg Value.bool (by rw [decide_eq_decide, hl]; try omega))
end Go.Proofs.Yteohenebjcbliaa
