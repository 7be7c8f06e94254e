/- The contracts of spec.Shifted and spec.MulWords. Conditions: numbers below the modulus. -/
import Derived.Test.YteohenebjcbliaaAddW
set_option linter.unusedVariables false
set_option linter.unusedSimpArgs false
namespace Go.Proofs.Yteohenebjcbliaa
open Go.RowKit
open Slx (wd W)

theorem addQ_lt (a b : Nat) : addQ a b < Q := Nat.mod_lt _ Q_pos
theorem addQ_shift (A k : Nat) : addQ (A * 2 ^ k % Q) (A * 2 ^ k % Q) = A * 2 ^ (k + 1) % Q := by
  unfold addQ
  rw [← Nat.add_mod]
  congr 1
  rw [Nat.pow_succ, ← Nat.mul_assoc]
  omega
theorem R_two : R = 2 ^ 256 := by decide

theorem sl_form {w : World} {v : Value} {N : Nat} (h : Fx.IsSl w v N) : ∃ b o c, v = .slice (some ⟨b, o, none⟩) 4 c := by
  obtain ⟨b, o, c, hv, _⟩ := h
  exact ⟨b, o, c, hv⟩

set_option maxHeartbeats 1000000 in
theorem shift_any (w : World) (A : Nat) (va vm : Value) (hA : A < Q) (ha : Fx.IsSl w va A) (hm : Fx.IsSl w vm Q) :
    Calls Try.prog 11 #[va, vm] w fun e w' => ∃ v, e = .returned v ∧ Fx.IsSl w' v (A * R % Q) ∧ Below w.heap.size w w' := by
  have HA := Lib.hid hA
  have H1 := Lib.hid ha
  have HM := Lib.hid hm
  clear hA ha hm
  go_enter Try.func11, Try.ntmps11
  go_wp2
  go_loopw [0, 5] (fun v i wr => ∃ k : Nat, k ≤ 256 ∧ i = .int .i64 k ∧ Fx.IsSl wr v (A * 2 ^ k % Q) ∧ Below w.heap.size w wr) (fun _ i _ => 256 - (intOf i).toNat)
  case atStart => exact ⟨0, Nat.zero_le _, rfl, by rw [Nat.pow_zero, Nat.mul_one, Nat.mod_eq_of_lt HA.out]; exact H1.out, Below.refl _ _⟩
  case round =>
    obtain ⟨k, hk, rfl, hsl, hbel⟩ := hrel
    obtain ⟨b, o, c, rfl⟩ := sl_form hsl
    have HS := Lib.hid hsl
    have HB := Lib.hid hbel
    clear hsl hbel
    rcases Nat.eq_or_lt_of_le hk with hkn | hlt
    · subst hkn
      clear hk
      go_wp2
      go_ret
      exact ⟨_, rfl, by rw [R_two]; exact HS.out, HB.out⟩
    · have q1 : (k : Int) < 256 := by omega
      have q0 : (0 : Int) ≤ k := by omega
      have HK := Lib.hid hlt
      clear hk hlt
      go_wp2_with (go_at_call 20; fail)
      refine (add_any _ _ _ _ _ _ (Nat.mod_lt _ Q_pos) (Nat.mod_lt _ Q_pos) HS.out HS.out (isSl_low HM.out HB.out)).mono ?_
      rintro e w1 ⟨v, rfl, s1, b1⟩
      have S1 := Lib.hid s1
      have B1 := Lib.hid b1
      clear s1 b1
      go_wp2
      go_roundw
      case rel => exact ⟨k + 1, HK.out, by push_cast; rfl, by rw [← addQ_shift]; exact S1.out, HB.out.trans (B1.out.mono HB.out.size)⟩
      case measure => have := HK.out; simp [intOf]; omega

end Go.Proofs.Yteohenebjcbliaa
