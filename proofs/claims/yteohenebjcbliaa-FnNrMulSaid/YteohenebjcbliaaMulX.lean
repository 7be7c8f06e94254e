/- The contract of spec.MulWords. Conditions: numbers below the modulus. -/
import Derived.Test.YteohenebjcbliaaShift
import Derived.Deep.CutBlock
set_option linter.unusedVariables false
set_option linter.unusedSimpArgs false
namespace Go.Proofs.Yteohenebjcbliaa
open Go.RowKit
open Slx (wd W)

theorem bit_word (B i : Nat) : wordAt B (i / 64) / 2 ^ (i % 64) % 2 = B / 2 ^ i % 2 := by
  have h64 : i % 64 < 64 := Nat.mod_lt _ (by decide)
  unfold wordAt
  rw [show W = 2 ^ 64 from rfl, ← Nat.pow_mul]
  have hs : (2 : Nat) ^ 64 = 2 ^ (i % 64) * (2 * 2 ^ (63 - i % 64)) := by
    rw [← Nat.pow_succ', ← Nat.pow_add]
    congr 1
    omega
  conv => lhs; rw [hs]
  rw [Nat.mod_mul_right_div_self, Nat.mod_mod_of_dvd _ (Nat.dvd_mul_right 2 _), Nat.div_div_eq_div_mul, ← Nat.pow_add]
  rw [Nat.div_add_mod]

theorem mulX_step0 {A B k : Nat} (h : B / 2 ^ k % 2 = 0) : addQ (A * (B / 2 ^ (k + 1)) % Q) (A * (B / 2 ^ (k + 1)) % Q) = A * (B / 2 ^ k) % Q := by
  have e : B / 2 ^ k = 2 * (B / 2 ^ (k + 1)) := by
    rw [Nat.pow_succ, ← Nat.div_div_eq_div_mul]; omega
  unfold addQ
  rw [← Nat.add_mod, e]
  congr 1
  rw [Nat.mul_left_comm]; omega
theorem mulX_step1 {A B k : Nat} (h : B / 2 ^ k % 2 = 1) : addQ (addQ (A * (B / 2 ^ (k + 1)) % Q) (A * (B / 2 ^ (k + 1)) % Q)) A = A * (B / 2 ^ k) % Q := by
  have e : B / 2 ^ k = 2 * (B / 2 ^ (k + 1)) + 1 := by
    rw [Nat.pow_succ, ← Nat.div_div_eq_div_mul]; omega
  unfold addQ
  rw [← Nat.add_mod, Nat.mod_add_mod, e]
  congr 1
  rw [Nat.mul_add, Nat.mul_left_comm]; omega

theorem isSl_zero (w : World) : Fx.IsSl (w.alloc (.cells #[.int .u64 0, .int .u64 0, .int .u64 0, .int .u64 0] 22)) (.slice (some ⟨w.heap.size, 0, none⟩) 4 4) 0 := by
  refine ⟨w.heap.size, 0, 4, rfl, by simp, ?_⟩
  apply four <;> (rw [World.cell?_alloc_new]; simp [wordAt, Slx.wd])

set_option maxHeartbeats 1000000 in
theorem mulX_any (w : World) (A B : Nat) (va vb vm : Value) (hA : A < Q) (hB : B < Q) (ha : Fx.IsSl w va A) (hb : Fx.IsSl w vb B) (hm : Fx.IsSl w vm Q) :
    Calls Try.prog 12 #[va, vb, vm] w fun e w' => ∃ v, e = .returned v ∧ Fx.IsSl w' v (A * B % Q) ∧ Below w.heap.size w w' := by
  obtain ⟨ba, oa, ca, rfl⟩ := sl_form ha
  obtain ⟨bb, ob, cb, rfl⟩ := sl_form hb
  have HA := Lib.hid hA
  have HB := Lib.hid hB
  have H1 := Lib.hid ha
  have H2 := Lib.hid hb
  have HM := Lib.hid hm
  clear hA hB ha hb hm
  have hmk := make_n w
  go_enter Try.func12, Try.ntmps12
  go_wp2
  go_loopw [7, 8] (fun v i wr => ∃ k : Nat, k ≤ 256 ∧ i = .int .i64 ((k : Int) - 1) ∧ Fx.IsSl wr v (A * (B / 2 ^ k) % Q) ∧ Below w.heap.size w wr) (fun _ i _ => (intOf i + 1).toNat)
  case atStart =>
    refine ⟨256, Nat.le_refl _, rfl, ?_, (Below.refl _ _).alloc (Nat.le_refl _) _⟩
    rw [Nat.div_eq_of_lt (Nat.lt_trans HB.out (by rw [← R_two]; exact Q_lt)), Nat.mul_zero, Nat.zero_mod]
    exact isSl_zero w
  case round =>
    obtain ⟨k, hk, rfl, hsl, hbel⟩ := hrel
    obtain ⟨b, o, c, rfl⟩ := sl_form hsl
    have HS := Lib.hid hsl
    have HL := Lib.hid hbel
    clear hsl hbel hmk
    rcases Nat.eq_zero_or_pos k with rfl | hpos
    · go_wp2
      go_ret
      exact ⟨_, rfl, by have := HS.out; rwa [Nat.pow_zero, Nat.div_one] at this, HL.out⟩
    · obtain ⟨j, rfl⟩ : ∃ j, k = j + 1 := ⟨k - 1, by omega⟩
      rw [show (((j + 1 : Nat) : Int) - 1) = (j : Int) by omega]
      have q1 : (j : Int) < 256 := by omega
      have q0 : (0 : Int) ≤ j := by omega
      have HJ := Lib.hid hk
      clear hk hpos
      go_wp2_with (go_at_call 20; fail)
      refine (add_any _ _ _ _ _ _ (Nat.mod_lt _ Q_pos) (Nat.mod_lt _ Q_pos) HS.out HS.out (isSl_low HM.out HL.out)).mono ?_
      rintro e w1 ⟨v, rfl, s1, b1⟩
      obtain ⟨b', o', c', rfl⟩ := sl_form s1
      have S1 := Lib.hid s1
      have B1 := Lib.hid (HL.out.trans (b1.mono HL.out.size))
      clear s1 b1
      have g1 : w1.cell? ⟨bb, ob + j / 64, none⟩ = some (.int .u64 (wordAt B (j / 64) : Nat)) := by
        obtain ⟨_, _, _, he, _, hc⟩ := isSl_low H2.out B1.out
        cases he
        exact hc (j / 64) (by have := HJ.out; omega)
      go_upto_region 6 with fail
      iterate 26 go_step
      have hsh : ((wordAt B (j / 64) : Nat) : Int) / 2 ^ (j % 64) = ((wordAt B (j / 64) / 2 ^ (j % 64) : Nat) : Int) := by push_cast; rfl
      have hbit := bit_word B j
      rw [hsh]
      clear hsh
      generalize wordAt B (j / 64) / 2 ^ (j % 64) = m at *
      rcases (by omega : m % 2 = 0 ∨ m % 2 = 1) with hm2 | hm2
      · rw [hm2] at hbit
        have HB2 := Lib.hid hbit.symm
        have r1 : ((m : Int) % 2 == 1) = false := by simp; omega
        clear hbit hm2
        go_wp2
        go_roundw
        case rel => exact ⟨j, by have := HJ.out; omega, rfl, by rw [← mulX_step0 HB2.out]; exact S1.out, B1.out⟩
        case measure => simp [intOf]
      · rw [hm2] at hbit
        have HB2 := Lib.hid hbit.symm
        have r1 : ((m : Int) % 2 == 1) = true := by simp; omega
        clear hbit hm2
        go_wp2_with (go_at_call 20; fail)
        refine (add_any _ _ _ _ _ _ (addQ_lt _ _) HA.out S1.out (isSl_low H1.out B1.out) (isSl_low HM.out B1.out)).mono ?_
        rintro e w2 ⟨v, rfl, s2, b2⟩
        have S2 := Lib.hid s2
        have B2 := Lib.hid (B1.out.trans (b2.mono B1.out.size))
        clear s2 b2
        go_wp2
        go_roundw
        case rel => exact ⟨j, by have := HJ.out; omega, rfl, by rw [← mulX_step1 HB2.out]; exact S2.out, B2.out⟩
        case measure => simp [intOf]
end Go.Proofs.Yteohenebjcbliaa
