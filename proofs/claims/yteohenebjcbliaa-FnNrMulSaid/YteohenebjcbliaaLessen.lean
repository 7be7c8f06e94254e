/- The contract of spec.lessen. Conditions: slices of 4 words. -/
import Derived.Test.YteohenebjcbliaaPlus
set_option linter.unusedVariables false
set_option linter.unusedSimpArgs false
namespace Go.Proofs.Yteohenebjcbliaa
open Go.RowKit Slx

theorem wrap_sub (a c : Nat) (hc : c ≤ 18446744073709551616) : IntKind.u64.wrap ((a : Int) - (c : Int)) = (((a + 18446744073709551616 - c) % 18446744073709551616 : Nat) : Int) := by
  rw [Go.IntKind.wrap_u64]; omega

theorem lessen_step {A B k : Nat} (hk : k < 4) (hA : A < R) (hB : B < R) {x o c' : Nat} (hx : x = (wordAt A k + 18446744073709551616 - bwAt A B k) % 18446744073709551616) (ho : o = (x + 18446744073709551616 - wordAt B k) % 18446744073709551616)
    (hc : c' = if wordAt A k < bwAt A B k ∨ x < wordAt B k then 1 else 0) : o = wordAt (A + R - B) k ∧ c' = bwAt A B (k + 1) := by
  rw [sub_word hk hA hB, bw_next]
  have h1 := wordAt_lt A k
  have h2 := wordAt_lt B k
  have h3 := bw_le A B k
  rw [Slx.W_eq] at *
  constructor
  · omega
  · subst hc
    split <;> split <;> omega

set_option maxHeartbeats 1000000 in
theorem lessen_any (w : World) (b1 o1 c1 b2 o2 c2 : Nat) (A B : Nat) (hA : A < R) (hB : B < R) (hb1 : b1 < w.heap.size) (hb2 : b2 < w.heap.size)
    (h1 : ∀ i, i < 4 → w.cell? ⟨b1, o1 + i, none⟩ = some (wd (wordAt A i))) (h2 : ∀ i, i < 4 → w.cell? ⟨b2, o2 + i, none⟩ = some (wd (wordAt B i))) :
    Calls Try.prog 32 #[.slice (some ⟨b1, o1, none⟩) 4 c1, .slice (some ⟨b2, o2, none⟩) 4 c2] w fun e w' =>
      e = .returned (.tuple #[.slice (some ⟨w.heap.size, 0, none⟩) 4 4, .bool (decide (bwAt A B 4 = 1))]) ∧ Filled w w' (A + R - B) 4 := by
  have HAA := Lib.hid hA
  have HBB := Lib.hid hB
  have H1 := Lib.hid h1
  have H2 := Lib.hid h2
  clear h1 h2 hA hB
  have hmk := make_n w
  go_enter Try.func32, Try.ntmps32
  go_wp2
  go_loopw [7, 8] (fun c i wr => ∃ k : Nat, k ≤ 4 ∧ i = .int .i64 k ∧ c = wd (bwAt A B k) ∧ Filled w wr (A + R - B) k) (fun _ i _ => 4 - (intOf i).toNat)
  case atStart => exact ⟨0, Nat.zero_le _, rfl, by rw [bw_zero]; rfl, Filled.start w _⟩
  case round =>
    obtain ⟨k, hk, rfl, rfl, hfill⟩ := hrel
    have HB := Lib.hid hfill
    clear hfill hmk
    rcases Nat.eq_or_lt_of_le hk with hkn | hlt
    · subst hkn
      clear hk
      generalize hc : bwAt A B 4 = c at *
      have HH := Lib.hid hc
      clear hc
      simp only [wd]
      go_wp2
      refine bodyPost_ret (v := .tuple #[.slice (some ⟨w.heap.size, 0, none⟩) 4 4, .bool ((c : Int) == 1)]) (by simp [results, Try.results32, go_sem]) rfl ⟨?_, HB.out⟩
      rw [HH.out]
      have hcc : ((c : Int) == 1) = decide (c = 1) := by rw [Bool.eq_iff_iff]; simp; omega
      rw [hcc]
    · have g1 : wr.cell? ⟨b1, o1 + k, none⟩ = some (wd (wordAt A k)) := (HB.out.bel.cell (p := ⟨b1, o1 + k, none⟩) hb1).trans (H1.out k hlt)
      have g2 : wr.cell? ⟨b2, o2 + k, none⟩ = some (wd (wordAt B k)) := (HB.out.bel.cell (p := ⟨b2, o2 + k, none⟩) hb2).trans (H2.out k hlt)
      obtain ⟨v0, g3⟩ := HB.out.cell k hlt
      have g4 := HB.out.frz k hlt
      have HK0 : k < 4 := hlt
      have lb : wordAt B k ≤ 18446744073709551616 := by have := wordAt_lt B k; rw [Slx.W_eq] at this; omega
      have lc : bwAt A B k ≤ 18446744073709551616 := by have := bw_le A B k; omega
      have st := @lessen_step A B k HK0 HAA.out HBB.out
      generalize hc : bwAt A B k = c at *
      generalize ha : wordAt A k = a at *
      generalize hb : wordAt B k = b at *
      simp only [wd, Nat.zero_add] at g1 g2 g3 g4 ⊢
      have q1 : (k : Int) < 4 := by omega
      have q0 : (0 : Int) ≤ k := by omega
      have e1 := wrap_sub a c lc
      generalize hx : (a + 18446744073709551616 - c) % 18446744073709551616 = x at *
      have e2 := wrap_sub x b lb
      generalize ho : (x + 18446744073709551616 - b) % 18446744073709551616 = o at *
      have ST := Lib.hid (fun c' => @st x o c' rfl ho.symm)
      have HK := Lib.hid hlt
      clear hc ha hb hk hlt hx ho st HK0 lb lc
      go_wp2
      all_goals
        go_roundw
        case measure => have := HK.out; simp [intOf]; omega
        case rel =>
          refine ⟨k + 1, HK.out, by push_cast; rfl, ?_, HB.out.next HK.out ?_⟩
          · first
            | (rw [← (ST.out 1 (by rw [if_pos (by omega)])).2]; rfl)
            | (rw [← (ST.out 0 (by rw [if_neg (by omega)])).2]; rfl)
          · rw [(ST.out _ rfl).1]
end Go.Proofs.Yteohenebjcbliaa
