/- The contract of spec.plus. Conditions: slices of 4 words. -/
import Derived.Test.YteohenebjcbliaaAddA
import Derived.Below
set_option linter.unusedVariables false
set_option linter.unusedSimpArgs false
namespace Go.Proofs.Yteohenebjcbliaa
open Go.RowKit Slx

theorem make_n (w : World) : (Instr.makeSlice 25 (.int .i64 4) (.int .i64 4)).run Try.prog w = .ok (.slice (some ⟨w.heap.size, 0, none⟩) 4 4) (w.alloc (.cells #[.int .u64 0, .int .u64 0, .int .u64 0, .int .u64 0] 22)) := by kernel_rfl

theorem wrap_nat (x : Nat) : IntKind.u64.wrap (x : Int) = ((x % 18446744073709551616 : Nat) : Int) := by
  rw [Go.IntKind.wrap_u64]; omega
theorem wrap_add (a c : Nat) : IntKind.u64.wrap ((a : Int) + (c : Int)) = (((a + c) % 18446744073709551616 : Nat) : Int) := by
  rw [← wrap_nat]; congr 1

/-- The row that is filled so far. -/
structure Filled (w wr : World) (N k : Nat) : Prop where
  size : w.heap.size < wr.heap.size
  done : ∀ j, j < k → wr.cell? ⟨w.heap.size, 0 + j, none⟩ = some (wd (wordAt N j))
  cell : ∀ j, j < 4 → ∃ v, wr.cell? ⟨w.heap.size, 0 + j, none⟩ = some v
  frz : ∀ j, j < 4 → wr.frozen? ⟨w.heap.size, 0 + j, none⟩ = false
  bel : Below w.heap.size w wr

theorem Filled.start (w : World) (N : Nat) : Filled w (w.alloc (.cells #[.int .u64 0, .int .u64 0, .int .u64 0, .int .u64 0] 22)) N 0 := by
  refine ⟨by simp, fun j h => absurd h (Nat.not_lt_zero _), ?_, ?_, (Below.refl _ _).alloc (Nat.le_refl _) _⟩
  · apply four <;> (rw [World.cell?_alloc_new]; exact ⟨_, rfl⟩)
  · apply four <;> exact World.frozen?_alloc_new ..

theorem Filled.next {w wr : World} {N k : Nat} (h : Filled w wr N k) (hk : k < 4) {o : Int} (ho : o = (wordAt N k : Nat)) : Filled w (wr.setCell ⟨w.heap.size, k, none⟩ (.int .u64 o)) N (k + 1) := by
  subst ho
  refine ⟨by simpa using h.size, fun j hj => ?_, fun j hj => ?_, fun j hj => ?_, h.bel.setCell (Nat.le_refl _) _⟩
  · obtain ⟨v, hv⟩ := h.cell k hk
    rw [Nat.zero_add] at hv
    by_cases hjk : j = k
    · subst hjk
      rw [Nat.zero_add]
      exact World.cell?_setCell_same wr _ _ hv
    · rw [World.cell?_setCell_other _ _ _ _ (by first | (simp; done) | (simp; omega))]
      exact h.done j (by omega)
  · obtain ⟨v, hv⟩ := h.cell j hj
    exact cell?_setCell_some hv
  · rw [World.frozen?_setCell]
    exact h.frz j hj

theorem plus_step {A B k : Nat} {x o c' : Nat} (hx : x = (wordAt A k + cyAt A B k) % 18446744073709551616) (ho : o = (x + wordAt B k) % 18446744073709551616)
    (hc : c' = if x < cyAt A B k ∨ o < x then 1 else 0) : o = wordAt (A + B) k ∧ c' = cyAt A B (k + 1) := by
  rw [add_word, cy_next]
  have h1 := wordAt_lt A k
  have h2 := wordAt_lt B k
  have h3 := cy_le A B k
  rw [Slx.W_eq] at *
  constructor
  · omega
  · split at hc <;> omega

set_option maxHeartbeats 1000000 in
theorem plus_any (w : World) (b1 o1 c1 b2 o2 c2 : Nat) (A B : Nat) (hb1 : b1 < w.heap.size) (hb2 : b2 < w.heap.size)
    (h1 : ∀ i, i < 4 → w.cell? ⟨b1, o1 + i, none⟩ = some (wd (wordAt A i))) (h2 : ∀ i, i < 4 → w.cell? ⟨b2, o2 + i, none⟩ = some (wd (wordAt B i))) :
    Calls Try.prog 31 #[.slice (some ⟨b1, o1, none⟩) 4 c1, .slice (some ⟨b2, o2, none⟩) 4 c2] w fun e w' =>
      e = .returned (.tuple #[.slice (some ⟨w.heap.size, 0, none⟩) 4 4, .bool (decide (cyAt A B 4 = 1))]) ∧ Filled w w' (A + B) 4 := by
  have H1 := Lib.hid h1
  have H2 := Lib.hid h2
  clear h1 h2
  have hmk := make_n w
  go_enter Try.func31, Try.ntmps31
  go_wp2
  go_loopw [7, 8] (fun c i wr => ∃ k : Nat, k ≤ 4 ∧ i = .int .i64 k ∧ c = wd (cyAt A B k) ∧ Filled w wr (A + B) k) (fun _ i _ => 4 - (intOf i).toNat)
  case atStart => exact ⟨0, Nat.zero_le _, rfl, by rw [cy_zero]; rfl, Filled.start w _⟩
  case round =>
    obtain ⟨k, hk, rfl, rfl, hfill⟩ := hrel
    have HB := Lib.hid hfill
    clear hfill hmk
    rcases Nat.eq_or_lt_of_le hk with hkn | hlt
    · subst hkn
      clear hk
      generalize hc : cyAt A B 4 = c at *
      have HH := Lib.hid hc
      clear hc
      simp only [wd]
      go_wp2
      refine bodyPost_ret (v := .tuple #[.slice (some ⟨w.heap.size, 0, none⟩) 4 4, .bool ((c : Int) == 1)]) (by simp [results, Try.results31, go_sem]) rfl ⟨?_, HB.out⟩
      rw [HH.out]
      have hcc : ((c : Int) == 1) = decide (c = 1) := by rw [Bool.eq_iff_iff]; simp; omega
      rw [hcc]
    · have g1 : wr.cell? ⟨b1, o1 + k, none⟩ = some (wd (wordAt A k)) := (HB.out.bel.cell (p := ⟨b1, o1 + k, none⟩) hb1).trans (H1.out k hlt)
      have g2 : wr.cell? ⟨b2, o2 + k, none⟩ = some (wd (wordAt B k)) := (HB.out.bel.cell (p := ⟨b2, o2 + k, none⟩) hb2).trans (H2.out k hlt)
      obtain ⟨v0, g3⟩ := HB.out.cell k hlt
      have g4 := HB.out.frz k hlt
      have st := @plus_step A B k
      generalize hc : cyAt A B k = c at *
      generalize ha : wordAt A k = a at *
      generalize hb : wordAt B k = b at *
      simp only [wd, Nat.zero_add] at g1 g2 g3 g4 ⊢
      have q1 : (k : Int) < 4 := by omega
      have q0 : (0 : Int) ≤ k := by omega
      have e1 := wrap_add a c
      generalize hx : (a + c) % 18446744073709551616 = x at *
      have e2 := wrap_add x b
      generalize ho : (x + b) % 18446744073709551616 = o at *
      have ST := Lib.hid (fun c' => @st x o c' rfl ho.symm)
      have HK := Lib.hid hlt
      clear hc ha hb hk hlt hx ho st
      go_wp2
      all_goals
        go_roundw
        case measure => have := HK.out; simp [intOf]; omega
        case rel =>
          refine ⟨k + 1, HK.out, by push_cast; rfl, ?_, HB.out.next HK.out ?_⟩
          · first
            | (rw [← (ST.out 1 (by rw [if_pos (by omega)])).2]; rfl)
            | (rw [← (ST.out 0 (by rw [if_neg (by omega)])).2]; rfl)
          · rw [(ST.out _ rfl).1]
end Go.Proofs.Yteohenebjcbliaa
