/- The contracts of IsOne and IsZero, and of the thin package's calls of them. Conditions: elements below the modulus. -/
import Derived.Test.YteohenebjcbliaaLaws1
import Derived.Laws.Bits64
import Derived.Laws.Bits64b
set_option linter.unusedVariables false
set_option linter.unusedSimpArgs false
namespace Go.Proofs.Yteohenebjcbliaa
open Go.RowKit
open Slx (wd W)

theorem bor {x y : Nat} (hx : x < 18446744073709551616) (hy : y < 18446744073709551616) : bits .or .u64 (x : Int) (y : Int) = ((x ||| y : Nat) : Int) := bits_or_u64_nat x y hx hy
theorem bor_lt {x y : Nat} (hx : x < 18446744073709551616) (hy : y < 18446744073709551616) : x ||| y < 18446744073709551616 := Nat.or_lt_two_pow (n := 64) hx hy
theorem bxor_lt {x y : Nat} (hx : x < 18446744073709551616) (hy : y < 18446744073709551616) : x ^^^ y < 18446744073709551616 := Nat.xor_lt_two_pow (n := 64) hx hy
theorem bxor_zero {x y : Nat} : x ^^^ y = 0 ↔ x = y := by
  constructor
  · intro h
    have e : x ^^^ (x ^^^ y) = y := by rw [← Nat.xor_assoc, Nat.xor_self, Nat.zero_xor]
    rw [h, Nat.xor_zero] at e
    exact e
  · rintro rfl
    exact Nat.xor_self x

theorem zero_bits (x0 x1 x2 x3 : Nat) (l0 : x0 < 18446744073709551616) (l1 : x1 < 18446744073709551616) (l2 : x2 < 18446744073709551616) (l3 : x3 < 18446744073709551616) : (bits .or .u64 (bits .or .u64 (bits .or .u64 ((x3 : Nat)) ((x2 : Nat))) ((x1 : Nat))) ((x0 : Nat)) == 0) = decide (x0 = 0 ∧ x1 = 0 ∧ x2 = 0 ∧ x3 = 0) := by
  rw [bor l3 l2, bor (bor_lt l3 l2) l1, bor (bor_lt (bor_lt l3 l2) l1) l0, Bool.eq_iff_iff]
  simp [Nat.or_eq_zero_iff]
  omega
theorem one_bits (x0 x1 x2 x3 : Nat) (l0 : x0 < 18446744073709551616) (l1 : x1 < 18446744073709551616) (l2 : x2 < 18446744073709551616) (l3 : x3 < 18446744073709551616) : (bits .or .u64 (bits .or .u64 (bits .or .u64 (bits .xor .u64 (x3 : Nat) 1011752739694698287) (bits .xor .u64 (x2 : Nat) 7381016538464732718)) (bits .xor .u64 (x1 : Nat) 3962172157175319849)) (bits .xor .u64 (x0 : Nat) 12436184717236109307) == 0) = decide (x0 = 12436184717236109307 ∧ x1 = 3962172157175319849 ∧ x2 = 7381016538464732718 ∧ x3 = 1011752739694698287) := by
  have e0 : bits .xor .u64 (x0 : Nat) 12436184717236109307 = ((x0 ^^^ 12436184717236109307 : Nat) : Int) := bits_xor_u64_nat x0 12436184717236109307 l0 (by decide)
  have e1 : bits .xor .u64 (x1 : Nat) 3962172157175319849 = ((x1 ^^^ 3962172157175319849 : Nat) : Int) := bits_xor_u64_nat x1 3962172157175319849 l1 (by decide)
  have e2 : bits .xor .u64 (x2 : Nat) 7381016538464732718 = ((x2 ^^^ 7381016538464732718 : Nat) : Int) := bits_xor_u64_nat x2 7381016538464732718 l2 (by decide)
  have e3 : bits .xor .u64 (x3 : Nat) 1011752739694698287 = ((x3 ^^^ 1011752739694698287 : Nat) : Int) := bits_xor_u64_nat x3 1011752739694698287 l3 (by decide)
  rw [e0, e1, e2, e3, bor (bxor_lt l3 (by decide : 1011752739694698287 < 18446744073709551616)) (bxor_lt l2 (by decide : 7381016538464732718 < 18446744073709551616)), bor (bor_lt (bxor_lt l3 (by decide : 1011752739694698287 < 18446744073709551616)) (bxor_lt l2 (by decide : 7381016538464732718 < 18446744073709551616))) (bxor_lt l1 (by decide : 3962172157175319849 < 18446744073709551616)), bor (bor_lt (bor_lt (bxor_lt l3 (by decide : 1011752739694698287 < 18446744073709551616)) (bxor_lt l2 (by decide : 7381016538464732718 < 18446744073709551616))) (bxor_lt l1 (by decide : 3962172157175319849 < 18446744073709551616))) (bxor_lt l0 (by decide : 12436184717236109307 < 18446744073709551616)), Bool.eq_iff_iff]
  simp only [beq_iff_eq, decide_eq_true_eq]
  rw [show (0 : Int) = ((0 : Nat) : Int) from rfl, Int.ofNat_inj]
  simp only [Nat.or_eq_zero_iff, bxor_zero]
  omega

set_option maxHeartbeats 1000000 in
theorem iszero_any (w : World) (b o : Nat) (x0 x1 x2 x3 : Nat) (l0 : x0 < 18446744073709551616) (l1 : x1 < 18446744073709551616) (l2 : x2 < 18446744073709551616) (l3 : x3 < 18446744073709551616) (h0 : w.cell? ⟨b, o, none⟩ = some (.int .u64 (x0 : Nat))) (h1 : w.cell? ⟨b, o + 1, none⟩ = some (.int .u64 (x1 : Nat))) (h2 : w.cell? ⟨b, o + 2, none⟩ = some (.int .u64 (x2 : Nat))) (h3 : w.cell? ⟨b, o + 3, none⟩ = some (.int .u64 (x3 : Nat))) :
    Calls Try.prog 23 #[.pointer (some ⟨b, o, none⟩)] w fun e w' => e = .returned (.bool (decide (x0 = 0 ∧ x1 = 0 ∧ x2 = 0 ∧ x3 = 0))) ∧ ∃ d, w' = w.drewN d := by
  have HZ := Lib.hid (zero_bits x0 x1 x2 x3 l0 l1 l2 l3)
  clear l0 l1 l2 l3
  go_enter Try.func23, Try.ntmps23
  go_wp2_with fail
  go_quiet (fail)
  go_wp2
  go_ret
  exact ⟨congrArg Ending.returned (congrArg Value.bool HZ.out), _, rfl⟩

set_option maxHeartbeats 1000000 in
theorem isone_any (w : World) (b o : Nat) (x0 x1 x2 x3 : Nat) (l0 : x0 < 18446744073709551616) (l1 : x1 < 18446744073709551616) (l2 : x2 < 18446744073709551616) (l3 : x3 < 18446744073709551616) (h0 : w.cell? ⟨b, o, none⟩ = some (.int .u64 (x0 : Nat))) (h1 : w.cell? ⟨b, o + 1, none⟩ = some (.int .u64 (x1 : Nat))) (h2 : w.cell? ⟨b, o + 2, none⟩ = some (.int .u64 (x2 : Nat))) (h3 : w.cell? ⟨b, o + 3, none⟩ = some (.int .u64 (x3 : Nat))) :
    Calls Try.prog 22 #[.pointer (some ⟨b, o, none⟩)] w fun e w' => e = .returned (.bool (decide (x0 = 12436184717236109307 ∧ x1 = 3962172157175319849 ∧ x2 = 7381016538464732718 ∧ x3 = 1011752739694698287))) ∧ ∃ d, w' = w.drewN d := by
  have HZ := Lib.hid (one_bits x0 x1 x2 x3 l0 l1 l2 l3)
  clear l0 l1 l2 l3
  go_enter Try.func22, Try.ntmps22
  go_wp2_with fail
  go_quiet (fail)
  go_wp2
  go_ret
  exact ⟨congrArg Ending.returned (congrArg Value.bool HZ.out), _, rfl⟩

theorem one_words {a : Nat} (ha : a < R) : (wordAt a 0 = 12436184717236109307 ∧ wordAt a 1 = 3962172157175319849 ∧ wordAt a 2 = 7381016538464732718 ∧ wordAt a 3 = 1011752739694698287) ↔ a = oneN := by
  have h : ∀ j, j < 4 → wordAt oneN j = [12436184717236109307, 3962172157175319849, 7381016538464732718, 1011752739694698287].getD j 0 := by decide
  have hl : oneN < R := by decide
  constructor
  · intro hw
    refine same_words ha hl ?_
    revert hw
    simp only [and_imp]
    intro h0 h1 h2 h3
    apply four
    · rw [h 0 (by decide)]; exact h0
    · rw [h 1 (by decide)]; exact h1
    · rw [h 2 (by decide)]; exact h2
    · rw [h 3 (by decide)]; exact h3
  · rintro rfl
    exact ⟨h 0 (by decide), h 1 (by decide), h 2 (by decide), h 3 (by decide)⟩
theorem zero_words {a : Nat} (ha : a < R) : (wordAt a 0 = 0 ∧ wordAt a 1 = 0 ∧ wordAt a 2 = 0 ∧ wordAt a 3 = 0) ↔ a = 0 := by
  have h : ∀ j, wordAt 0 j = 0 := fun j => by simp [wordAt]
  constructor
  · intro hw
    refine same_words ha (by decide) ?_
    revert hw
    simp only [and_imp]
    intro h0 h1 h2 h3
    apply four
    · rw [h 0]; exact h0
    · rw [h 1]; exact h1
    · rw [h 2]; exact h2
    · rw [h 3]; exact h3
  · rintro rfl
    exact ⟨h 0, h 1, h 2, h 3⟩

set_option maxHeartbeats 1000000 in
theorem bisone_any (w : World) (a : Nat) (ha : a < R) :
    Calls Try.prog 15 #[elv a] w fun e w' => e = .returned (.bool (decide (a = oneN))) ∧ Below w.heap.size w w' := by
  have hd : decide (wordAt a 0 = 12436184717236109307 ∧ wordAt a 1 = 3962172157175319849 ∧ wordAt a 2 = 7381016538464732718 ∧ wordAt a 3 = 1011752739694698287) = decide (a = oneN) := decide_eq_decide.2 (one_words ha)
  have HD := Lib.hid hd
  clear hd
  have l0 := wordAt_lt a 0
  have l1 := wordAt_lt a 1
  have l2 := wordAt_lt a 2
  have l3 := wordAt_lt a 3
  rw [Slx.W_eq] at l0 l1 l2 l3
  unfold elv
  generalize wordAt a 0 = x0 at *
  generalize wordAt a 1 = x1 at *
  generalize wordAt a 2 = x2 at *
  generalize wordAt a 3 = x3 at *
  have L0 := Lib.hid l0
  have L1 := Lib.hid l1
  have L2 := Lib.hid l2
  have L3 := Lib.hid l3
  clear l0 l1 l2 l3 ha
  go_enter Try.func15, Try.ntmps15
  go_wp2_with (go_at_call 22; fail)
  refine (isone_any _ _ 0 x0 x1 x2 x3 L0.out L1.out L2.out L3.out (by go_simp) (by go_simp) (by go_simp) (by go_simp)).mono ?_
  rintro e w1 ⟨rfl, d, rfl⟩
  rw [HD.out]
  go_wp2
  go_ret
  refine ⟨rfl, Below.trans ?_ ((below_drewN _ d).mono (by simp; try omega))⟩
  repeat (first | exact Below.refl _ _ | apply Below.drew | refine Below.alloc ?_ (by simp; try omega) _ | refine Below.setCell ?_ (by simp; try omega) _)

set_option maxHeartbeats 1000000 in
theorem biszero_any (w : World) (a : Nat) (ha : a < R) :
    Calls Try.prog 16 #[elv a] w fun e w' => e = .returned (.bool (decide (a = 0))) ∧ Below w.heap.size w w' := by
  have hd : decide (wordAt a 0 = 0 ∧ wordAt a 1 = 0 ∧ wordAt a 2 = 0 ∧ wordAt a 3 = 0) = decide (a = 0) := decide_eq_decide.2 (zero_words ha)
  have HD := Lib.hid hd
  clear hd
  have l0 := wordAt_lt a 0
  have l1 := wordAt_lt a 1
  have l2 := wordAt_lt a 2
  have l3 := wordAt_lt a 3
  rw [Slx.W_eq] at l0 l1 l2 l3
  unfold elv
  generalize wordAt a 0 = x0 at *
  generalize wordAt a 1 = x1 at *
  generalize wordAt a 2 = x2 at *
  generalize wordAt a 3 = x3 at *
  have L0 := Lib.hid l0
  have L1 := Lib.hid l1
  have L2 := Lib.hid l2
  have L3 := Lib.hid l3
  clear l0 l1 l2 l3 ha
  go_enter Try.func16, Try.ntmps16
  go_wp2_with (go_at_call 23; fail)
  refine (iszero_any _ _ 0 x0 x1 x2 x3 L0.out L1.out L2.out L3.out (by go_simp) (by go_simp) (by go_simp) (by go_simp)).mono ?_
  rintro e w1 ⟨rfl, d, rfl⟩
  rw [HD.out]
  go_wp2
  go_ret
  refine ⟨rfl, Below.trans ?_ ((below_drewN _ d).mono (by simp; try omega))⟩
  repeat (first | exact Below.refl _ _ | apply Below.drew | refine Below.alloc ?_ (by simp; try omega) _ | refine Below.setCell ?_ (by simp; try omega) _)

end Go.Proofs.Yteohenebjcbliaa
