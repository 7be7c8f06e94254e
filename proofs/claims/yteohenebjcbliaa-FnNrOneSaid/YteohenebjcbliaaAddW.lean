/- The contract of spec.AddWords. Conditions: numbers below the modulus. -/
import Derived.Test.YteohenebjcbliaaLessen
import Derived.Test.YteohenebjcbliaaFx
set_option linter.unusedVariables false
set_option linter.unusedSimpArgs false
namespace Go.Proofs.Yteohenebjcbliaa
open Go.RowKit
open Slx (wd W)

def addQ (a b : Nat) : Nat := (a + b) % Q
theorem add_over {A B : Nat} (hA : A < Q) (hB : B < Q) (h : R ≤ A + B) : (A + B) % R + R - Q = addQ A B := by
  unfold addQ
  have := Q_lt
  have hq := Q_pos
  have e : (A + B) % R = A + B - R := by
    rw [Nat.mod_eq_sub_mod h, Nat.mod_eq_of_lt (by omega)]
  have e2 : (A + B) % Q = A + B - Q := by
    rw [Nat.mod_eq_sub_mod (by omega), Nat.mod_eq_of_lt (by omega)]
  rw [e, e2]; omega
theorem add_ge {A B : Nat} (hA : A < Q) (hB : B < Q) (h : ¬ A + B < Q) : A + B - Q = addQ A B := by
  unfold addQ
  rw [Nat.mod_eq_sub_mod (by omega), Nat.mod_eq_of_lt (by omega)]
theorem add_lt {A B : Nat} (h : A + B < Q) : A + B = addQ A B := (Nat.mod_eq_of_lt h).symm

theorem addQ_words {A B : Nat} (hA : A < Q) (hB : B < Q) (h : ¬ A + B < Q) {i : Nat} (hi : i < 4) : wordAt ((A + B) % R + R - Q) i = wordAt (addQ A B) i := by
  have hq := Q_lt
  by_cases hr : R ≤ A + B
  · rw [add_over hA hB hr]
  · rw [Nat.mod_eq_of_lt (by omega), ← wordAt_modR _ hi]
    have : A + B + R - Q = (A + B - Q) + R := by omega
    rw [this, Nat.add_mod_right, ← add_ge hA hB h, wordAt_modR _ hi]

theorem cy_last' {A B : Nat} (hA : A < R) (hB : B < R) : (decide (cyAt A B 4 = 1)) = decide (R ≤ A + B) := by
  rw [cy_last hA hB]
  apply decide_eq_decide.2
  constructor
  · intro h
    exact Nat.le_of_not_lt fun hh => by rw [Nat.div_eq_of_lt hh] at h; cases h
  · intro h
    rw [Nat.div_eq_sub_div (by decide) h, Nat.div_eq_of_lt (by omega)]

theorem isSl_filled {w w1 : World} {N : Nat} (h : Filled w w1 N 4) : Fx.IsSl w1 (.slice (some ⟨w.heap.size, 0, none⟩) 4 4) (N % R) :=
  ⟨w.heap.size, 0, 4, rfl, h.size, fun i hi => by rw [wordAt_modR _ hi]; exact h.done i hi⟩
theorem isSl_same {w : World} {v : Value} {N M : Nat} (h : Fx.IsSl w v N) (he : ∀ i, i < 4 → wordAt N i = wordAt M i) : Fx.IsSl w v M := by
  obtain ⟨b, o, c, hv, hb, hc⟩ := h
  exact ⟨b, o, c, hv, hb, fun i hi => by rw [← he i hi]; exact hc i hi⟩

theorem lessen_sl (w : World) (A B : Nat) (va vb : Value) (hA : A < R) (hB : B < R) (ha : Fx.IsSl w va A) (hb : Fx.IsSl w vb B) :
    Calls Try.prog 32 #[va, vb] w fun e w' => ∃ c, e = .returned (.tuple #[.slice (some ⟨w.heap.size, 0, none⟩) 4 4, .bool c]) ∧ Filled w w' (A + R - B) 4 := by
  obtain ⟨b1, o1, c1, rfl, hb1, h1⟩ := ha
  obtain ⟨b2, o2, c2, rfl, hb2, h2⟩ := hb
  exact (lessen_any w b1 o1 c1 b2 o2 c2 A B hA hB hb1 hb2 h1 h2).mono fun _ _ ⟨he, hf⟩ => ⟨_, he, hf⟩
theorem plus_sl (w : World) (A B : Nat) (va vb : Value) (hA : A < R) (hB : B < R) (ha : Fx.IsSl w va A) (hb : Fx.IsSl w vb B) :
    Calls Try.prog 31 #[va, vb] w fun e w' => e = .returned (.tuple #[.slice (some ⟨w.heap.size, 0, none⟩) 4 4, .bool (decide (R ≤ A + B))]) ∧ Filled w w' (A + B) 4 := by
  obtain ⟨b1, o1, c1, rfl, hb1, h1⟩ := ha
  obtain ⟨b2, o2, c2, rfl, hb2, h2⟩ := hb
  rw [← cy_last' hA hB]
  exact plus_any w b1 o1 c1 b2 o2 c2 A B hb1 hb2 h1 h2
theorem less_sl (w : World) (A B : Nat) (va vb : Value) (hA : A < R) (hB : B < R) (ha : Fx.IsSl w va A) (hb : Fx.IsSl w vb B) :
    Calls Try.prog 7 #[va, vb] w fun e w' => e = .returned (.bool (decide (A < B))) ∧ Below w.heap.size w w' := by
  obtain ⟨b1, o1, c1, rfl, _, g1⟩ := ha
  obtain ⟨b2, o2, c2, rfl, _, g2⟩ := hb
  exact (less_any w b1 o1 c1 b2 o2 c2 A B hA hB g1 g2).mono fun _ _ ⟨he, d, hw⟩ => ⟨he, by rw [hw]; exact ⟨rfl, rfl, rfl, Nat.le_refl _, fun _ _ => rfl⟩⟩
theorem isSl_low {w w' : World} {v : Value} {N : Nat} (h : Fx.IsSl w v N) (hb : Below w.heap.size w w') : Fx.IsSl w' v N := by
  obtain ⟨b, o, c, rfl, hlt, hc⟩ := h
  exact ⟨b, o, c, rfl, Nat.lt_of_lt_of_le hlt hb.size, fun i hi => (hb.cell (p := ⟨b, o + i, none⟩) hlt).trans (hc i hi)⟩
theorem R_gt : 0 < R := by decide
theorem modR_lt (x : Nat) : x % R < R := Nat.mod_lt _ R_gt

set_option maxHeartbeats 1000000 in
theorem add_any (w : World) (A B : Nat) (va vb vm : Value) (hA : A < Q) (hB : B < Q) (ha : Fx.IsSl w va A) (hb : Fx.IsSl w vb B) (hm : Fx.IsSl w vm Q) :
    Calls Try.prog 20 #[va, vb, vm] w fun e w' => ∃ v, e = .returned v ∧ Fx.IsSl w' v (addQ A B) ∧ Below w.heap.size w w' := by
  have hAR := Nat.lt_trans hA Q_lt
  have hBR := Nat.lt_trans hB Q_lt
  have HP := Lib.hid (plus_sl w A B va vb hAR hBR ha hb)
  have HA := Lib.hid hA
  have HB := Lib.hid hB
  have HM := Lib.hid hm
  clear hA hB hAR hBR ha hb hm
  by_cases hr : R ≤ A + B
  · rw [decide_eq_true hr] at HP
    have HR := Lib.hid hr
    clear hr
    go_enter Try.func20, Try.ntmps20
    go_wp2_with (go_at_call 31; fail)
    refine HP.out.mono ?_
    rintro e w1 ⟨rfl, F1⟩
    have HF := Lib.hid F1
    clear F1
    go_wp2_with (go_at_call 32; fail)
    refine (lessen_sl w1 _ _ _ _ (modR_lt (A + B)) Q_lt (isSl_filled HF.out) (isSl_low HM.out HF.out.bel)).mono ?_
    rintro e w2 ⟨c, rfl, F2⟩
    have HG := Lib.hid F2
    clear F2
    go_wp2
    go_ret
    refine ⟨_, rfl, isSl_same (isSl_filled HG.out) fun i hi => ?_, HF.out.bel.trans (HG.out.bel.mono (Nat.le_of_lt HF.out.size))⟩
    rw [wordAt_modR _ hi]
    exact addQ_words HA.out HB.out (by have := HR.out; have := Q_lt; omega) hi
  · rw [decide_eq_false hr] at HP
    have HR := Lib.hid hr
    clear hr
    go_enter Try.func20, Try.ntmps20
    go_wp2_with (go_at_call 31; fail)
    refine HP.out.mono ?_
    rintro e w1 ⟨rfl, F1⟩
    have HF := Lib.hid F1
    clear F1
    go_wp2_with (go_at_call 7; fail)
    refine (less_sl w1 _ _ _ _ (modR_lt (A + B)) Q_lt (isSl_filled HF.out) (isSl_low HM.out HF.out.bel)).mono ?_
    rintro e w2 ⟨rfl, B2⟩
    have HB2 := Lib.hid B2
    clear B2
    rw [show (A + B) % R = A + B from Nat.mod_eq_of_lt (by have := HR.out; omega)]
    by_cases hs : A + B < Q
    · rw [decide_eq_true hs]
      have HS := Lib.hid hs
      clear hs
      go_wp2
      go_ret
      refine ⟨_, rfl, isSl_same (isSl_low (isSl_filled HF.out) HB2.out) fun i hi => ?_, HF.out.bel.trans (HB2.out.mono (Nat.le_of_lt HF.out.size))⟩
      rw [wordAt_modR _ hi, ← add_lt HS.out]
    · rw [decide_eq_false hs]
      have HS := Lib.hid hs
      clear hs
      go_wp2_with (go_at_call 32; fail)
      refine (lessen_sl w2 _ _ _ _ (modR_lt (A + B)) Q_lt (isSl_low (isSl_filled HF.out) HB2.out) (isSl_low HM.out (HF.out.bel.trans (HB2.out.mono (Nat.le_of_lt HF.out.size))))).mono ?_
      rintro e w3 ⟨c, rfl, F2⟩
      have HG := Lib.hid F2
      clear F2
      go_wp2
      go_ret
      refine ⟨_, rfl, isSl_same (isSl_filled HG.out) fun i hi => ?_, (HF.out.bel.trans (HB2.out.mono (Nat.le_of_lt HF.out.size))).trans (HG.out.bel.mono (Nat.le_trans (Nat.le_of_lt HF.out.size) HB2.out.size))⟩
      rw [wordAt_modR _ hi]
      exact addQ_words HA.out HB.out HS.out hi
end Go.Proofs.Yteohenebjcbliaa
