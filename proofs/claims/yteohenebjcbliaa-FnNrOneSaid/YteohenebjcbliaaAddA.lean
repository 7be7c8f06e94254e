/- Sums and differences of numbers, word by word: the plain laws. No conditions but the bounds that stand in each. -/
import Derived.Test.YteohenebjcbliaaWrap
set_option linter.unusedVariables false
namespace Go.Proofs.Yteohenebjcbliaa
open Go.RowKit
open Slx (wd W W_eq)

theorem Wpow_pos (k : Nat) : 0 < W ^ k := Nat.pow_pos Slx.W_pos
theorem R_W : R = W ^ 4 := by decide
theorem R_split {k : Nat} (hk : k < 4) : ∃ T, 0 < T ∧ R = W ^ k * (W * T) := by
  refine ⟨W ^ (4 - 1 - k), Wpow_pos _, ?_⟩
  rw [← Nat.pow_succ', ← Nat.pow_add, R_W]
  congr 1
  omega

theorem wordAt_modR (X : Nat) {k : Nat} (hk : k < 4) : wordAt (X % R) k = wordAt X k := by
  obtain ⟨T, _, hT⟩ := R_split hk
  unfold wordAt
  rw [hT, Nat.mod_mul_right_div_self, Nat.mod_mod_of_dvd _ (Nat.dvd_mul_right W T)]

def cyAt (A B k : Nat) : Nat := (A % W ^ k + B % W ^ k) / W ^ k
theorem cy_le (A B k : Nat) : cyAt A B k ≤ 1 := by
  unfold cyAt
  have h1 := Nat.mod_lt A (Wpow_pos k)
  have h2 := Nat.mod_lt B (Wpow_pos k)
  have : (A % W ^ k + B % W ^ k) / W ^ k < 2 := by
    rw [Nat.div_lt_iff_lt_mul (Wpow_pos k)]
    omega
  omega
theorem cy_zero (A B : Nat) : cyAt A B 0 = 0 := by simp [cyAt, Nat.mod_one]
theorem split_div (P A B : Nat) (hP : 0 < P) : (A + B) / P = A / P + B / P + (A % P + B % P) / P := by
  have e : A + B = (A % P + B % P) + P * (A / P + B / P) := by
    rw [Nat.mul_add]
    have h1 := Nat.mod_add_div A P
    have h2 := Nat.mod_add_div B P
    omega
  rw [e, Nat.add_mul_div_left _ _ hP]
  omega
theorem add_word (A B k : Nat) : wordAt (A + B) k = (wordAt A k + wordAt B k + cyAt A B k) % W := by
  unfold wordAt cyAt
  rw [split_div _ _ _ (Wpow_pos k)]
  simp [Nat.add_mod]
theorem mod_next (A P : Nat) : A % (P * W) = A % P + P * (A / P % W) := Nat.mod_mul
theorem cy_next (A B k : Nat) : cyAt A B (k + 1) = (wordAt A k + wordAt B k + cyAt A B k) / W := by
  unfold wordAt cyAt
  rw [Nat.pow_succ, mod_next, mod_next, ← Nat.div_div_eq_div_mul]
  congr 1
  have : A % W ^ k + W ^ k * (A / W ^ k % W) + (B % W ^ k + W ^ k * (B / W ^ k % W)) = (A % W ^ k + B % W ^ k) + W ^ k * (A / W ^ k % W + B / W ^ k % W) := by
    rw [Nat.mul_add]; omega
  rw [this, Nat.add_mul_div_left _ _ (Wpow_pos k)]
  omega
theorem cy_last {A B : Nat} (hA : A < R) (hB : B < R) : cyAt A B 4 = (A + B) / R := by
  unfold cyAt
  rw [← R_W, Nat.mod_eq_of_lt hA, Nat.mod_eq_of_lt hB]

def bwAt (A B k : Nat) : Nat := if A % W ^ k < B % W ^ k then 1 else 0
theorem bw_le (A B k : Nat) : bwAt A B k ≤ 1 := by unfold bwAt; split <;> omega
theorem bw_zero (A B : Nat) : bwAt A B 0 = 0 := by simp [bwAt, Nat.mod_one]
theorem bw_next (A B k : Nat) : bwAt A B (k + 1) = if wordAt A k < wordAt B k + bwAt A B k then 1 else 0 := by
  unfold wordAt bwAt
  rw [Nat.pow_succ, mod_next, mod_next]
  generalize A / W ^ k % W = a
  generalize B / W ^ k % W = b
  have h1 := Nat.mod_lt A (Wpow_pos k)
  have h2 := Nat.mod_lt B (Wpow_pos k)
  generalize A % W ^ k = r at *
  generalize B % W ^ k = s at *
  generalize W ^ k = P at *
  congr 1
  rw [eq_iff_iff]
  rcases Nat.lt_trichotomy a b with h | h | h
  · have : P * (a + 1) ≤ P * b := Nat.mul_le_mul_left P h
    rw [Nat.mul_add, Nat.mul_one] at this
    split <;> constructor <;> omega
  · subst h
    split <;> constructor <;> omega
  · have : P * (b + 1) ≤ P * a := Nat.mul_le_mul_left P h
    rw [Nat.mul_add, Nat.mul_one] at this
    split <;> constructor <;> omega

theorem sub_word {A B k : Nat} (hk : k < 4) (hA : A < R) (hB : B < R) : wordAt (A + R - B) k = (wordAt A k + W - wordAt B k - bwAt A B k) % W := by
  obtain ⟨T, hT, hR⟩ := R_split hk
  have h1 := Nat.mod_lt A (Wpow_pos k)
  have h2 := Nat.mod_lt B (Wpow_pos k)
  have a1 := Nat.mod_add_div A (W ^ k)
  have b1 := Nat.mod_add_div B (W ^ k)
  have a2 := Nat.mod_add_div (A / W ^ k) W
  have b2 := Nat.mod_add_div (B / W ^ k) W
  have a3 : A / W ^ k % W < W := Nat.mod_lt _ Slx.W_pos
  have b3 : B / W ^ k % W < W := Nat.mod_lt _ Slx.W_pos
  have b4 : B / W ^ k / W < T := by
    rw [Nat.div_div_eq_div_mul, Nat.div_lt_iff_lt_mul (Nat.mul_pos (Wpow_pos k) Slx.W_pos)]
    rw [hR] at hB
    rw [Nat.mul_comm T, Nat.mul_assoc]
    exact hB
  have hP := Wpow_pos k
  unfold wordAt bwAt
  generalize W ^ k = P at *
  generalize A / P = x at *
  generalize B / P = y at *
  generalize A % P = r at *
  generalize B % P = s at *
  generalize x / W = x1 at *
  generalize y / W = y1 at *
  generalize x % W = a at *
  generalize y % W = b at *
  obtain ⟨t, rfl⟩ : ∃ t, T = y1 + 1 + t := ⟨T - (y1 + 1), by omega⟩
  have e : A + R - B = (if r < s then P + r - s else r - s) + P * ((a + W - b - (if r < s then 1 else 0)) + W * (x1 + t)) := by
    rw [hR, ← a1, ← b1, ← a2, ← b2]
    have e1 : P * (W * (y1 + 1 + t)) = P * (W * y1) + P * W + P * (W * t) := by simp only [Nat.mul_add, Nat.mul_one]
    rw [e1]
    simp only [Nat.mul_add]
    split
    · obtain ⟨u, hu⟩ : ∃ u, W = b + 1 + u := ⟨W - (b + 1), by omega⟩
      have e2 : a + W - b - 1 = a + u := by omega
      have e3 : P * W = P * b + P + P * u := by rw [hu]; simp only [Nat.mul_add, Nat.mul_one]
      rw [e2, e3, Nat.mul_add]
      omega
    · obtain ⟨u, hu⟩ : ∃ u, W = b + u := ⟨W - b, by omega⟩
      have e2 : a + W - b - 0 = a + u := by omega
      have e3 : P * W = P * b + P * u := by rw [hu]; simp only [Nat.mul_add]
      rw [e2, e3, Nat.mul_add]
      omega
  rw [e, Nat.add_mul_div_left _ _ hP]
  have z : (if r < s then P + r - s else r - s) / P = 0 := by
    apply Nat.div_eq_of_lt
    split <;> omega
  rw [z, Nat.zero_add, Nat.add_mul_mod_self_left]

end Go.Proofs.Yteohenebjcbliaa
