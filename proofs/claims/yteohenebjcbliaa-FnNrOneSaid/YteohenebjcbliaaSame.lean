/- The contracts of spec.SameWords and spec.OneWords. Conditions: slices of 4 words. -/
import Derived.Test.YteohenebjcbliaaAddW
set_option linter.unusedVariables false
set_option linter.unusedSimpArgs false
namespace Go.Proofs.Yteohenebjcbliaa
open Go.RowKit
open Slx (wd W)

set_option maxHeartbeats 1000000 in
theorem same_any (w : World) (b1 o1 c1 b2 o2 c2 : Nat) (A B : Nat) (hA : A < R) (hB : B < R)
    (h1 : ∀ i, i < 4 → w.cell? ⟨b1, o1 + i, none⟩ = some (wd (wordAt A i))) (h2 : ∀ i, i < 4 → w.cell? ⟨b2, o2 + i, none⟩ = some (wd (wordAt B i))) :
    Calls Try.prog 10 #[.slice (some ⟨b1, o1, none⟩) 4 c1, .slice (some ⟨b2, o2, none⟩) 4 c2] w fun e w' => e = .returned (.bool (decide (A = B))) ∧ ∃ d, w' = w.drewN d := by
  have HA := Lib.hid hA
  have HB := Lib.hid hB
  have H1 := Lib.hid h1
  have H2 := Lib.hid h2
  clear h1 h2 hA hB
  go_enter Try.func10, Try.ntmps10
  go_wp2
  go_loopw [5] (fun i wr => ∃ k m : Nat, k ≤ 4 ∧ i = .int .i64 (k : Int) ∧ (∀ j, j < k → wordAt A j = wordAt B j) ∧ wr = w.drewN m) (fun i _ => 4 - (intOf i).toNat)
  case atStart => exact ⟨0, 0, Nat.zero_le _, rfl, fun j h => absurd h (Nat.not_lt_zero _), rfl⟩
  case round =>
    obtain ⟨k, m, hk, rfl, heq, rfl⟩ := hrel
    have HE := Lib.hid heq
    clear heq
    rcases Nat.eq_or_lt_of_le hk with hkn | hlt
    · subst hkn
      clear hk
      go_wp2
      go_ret
      refine ⟨?_, m, rfl⟩
      have : A = B := same_words HA.out HB.out HE.out
      rw [this]
      exact congrArg Ending.returned (congrArg Value.bool (by simp))
    · have c1 : w.cell? ⟨b1, o1 + k, none⟩ = some (.int .u64 (wordAt A k : Nat)) := H1.out k hlt
      have c2 : w.cell? ⟨b2, o2 + k, none⟩ = some (.int .u64 (wordAt B k : Nat)) := H2.out k hlt
      have q0 : (0 : Int) ≤ k := by omega
      have q1 : (k : Int) < 4 := by omega
      have HK := Lib.hid hlt
      clear hk hlt
      by_cases hne : wordAt A k = wordAt B k
      · have HN := Lib.hid hne
        rw [hne] at c1
        clear hne
        generalize hx : wordAt B k = x at c1 c2
        clear hx
        go_wp2_with fail
        go_quiet (fail)
        go_wp2
        go_roundw
        case rel =>
          refine ⟨k + 1, _, HK.out, by push_cast; rfl, ?_, rfl⟩
          intro i hi
          by_cases hij : i = k
          · rw [hij]; exact HN.out
          · exact HE.out i (by omega)
        case measure => have := HK.out; simp [intOf]; omega
      · have HN := Lib.hid hne
        have hbne : (((wordAt A k : Nat) : Int) != ((wordAt B k : Nat) : Int)) = true := by simp; omega
        clear hne
        generalize hx : wordAt A k = x at c1 hbne
        generalize hy : wordAt B k = y at c2 hbne
        clear hx hy
        go_wp2_with fail
        go_quiet (fail)
        go_wp2
        go_ret
        refine ⟨?_, _, by rw [drewN_two]⟩
        have hab : A ≠ B := fun h => HN.out (by rw [h])
        exact congrArg Ending.returned (congrArg Value.bool (by rw [decide_eq_false hab]))

theorem onew_any (w : World) : Calls Try.prog 14 #[.int .i64 (.ofNat 4)] w fun e w' => ∃ v, e = .returned v ∧ Fx.IsSl w' v 1 ∧ Below w.heap.size w w' := by
  have hmk := make_n w
  go_enter Try.func14, Try.ntmps14
  go_wp2
  go_ret
  refine ⟨_, rfl, ⟨w.heap.size, 0, 4, rfl, by simp, ?_⟩, (Below.refl _ _).alloc (Nat.le_refl _) _⟩
  apply four <;> simp [wordAt, Slx.wd, Slx.W_eq] <;> go_simp

end Go.Proofs.Yteohenebjcbliaa
