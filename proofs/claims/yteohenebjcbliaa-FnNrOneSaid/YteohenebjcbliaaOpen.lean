/- An element that came in as an argument is a number below 2^(64 4). No conditions. -/
import Derived.Test.YteohenebjcbliaaFxB
import Derived.ProofKit
import Derived.OpenShut
import Derived.ChangeOld
import Derived.Below
set_option linter.unusedVariables false
set_option linter.unusedSimpArgs false
namespace Go.Proofs.Yteohenebjcbliaa
open Go.ChangeShapes Go.WideShapes Go.ChangeAt Go.RowKit
open Slx (wd W)

theorem own : ownKnob Try.prog.godebug = none := by kernel_rfl
theorem laidOut : laidOutB Try.prog = true := by kernel_rfl

theorem open_el {H : Type} {enc : TypeId × Value → H} {w : World} {base : Nat} {v : Value} {d : DataW H} {p : List MemPlace}
    (hv : Value.okWide Try.prog w .any base 23 v) (h : DataW.Trod enc Try.prog w 0 (fun _ => true) true 23 v d p) : ∃ X, X < R ∧ v = elv X := by
  have hu : Try.prog.underlying 23 = some (.array 4 22) := by kernel_rfl
  have hue : Try.prog.underlying 22 = some (.int .u64) := by kernel_rfl
  have hc : Try.prog.cellsOf 23 = 4 := by kernel_rfl
  have hce : Try.prog.cellsOf 22 = 1 := by kernel_rfl
  unfold Value.okWide at hv
  rw [hu] at hv
  obtain ⟨cs, rfl, hsz, _⟩ := hv
  obtain ⟨fuel, hf⟩ := h
  obtain ⟨xs, m, _, _, _, hxs, hel⟩ := DataW.trod_array hu hf
  rw [hce] at hel
  obtain ⟨c0, c1, c2, c3, hcs⟩ : ∃ c0 c1 c2 c3 : Value, cs = #[c0, c1, c2, c3] := by
    have hl : cs.toList.length = 4 := by rw [Array.length_toList, hsz, hc]
    match hh : cs.toList, hl with
    | [c0, c1, c2, c3], _ => exact ⟨c0, c1, c2, c3, by rw [← hh]⟩
  subst hcs
  obtain ⟨k0, w0, e0⟩ : ∃ k : Nat, k < W ∧ c0 = .int .u64 (k : Int) := by
    have hj := hel 0 (by decide)
    have hlt : 0 < xs.length := by rw [hxs]; decide
    rw [List.getElem?_eq_getElem hlt] at hj
    obtain ⟨q, hq, _, hw⟩ := DataW.trod_int hue hj
    have hq' : c0 = .int .u64 q := by simpa [Value.cells] using hq
    have hb := bounds_u64 hw
    refine ⟨q.toNat, ?_, ?_⟩
    · rw [Slx.W_eq]; omega
    · rw [hq']; congr 1; omega
  obtain ⟨k1, w1, e1⟩ : ∃ k : Nat, k < W ∧ c1 = .int .u64 (k : Int) := by
    have hj := hel 1 (by decide)
    have hlt : 1 < xs.length := by rw [hxs]; decide
    rw [List.getElem?_eq_getElem hlt] at hj
    obtain ⟨q, hq, _, hw⟩ := DataW.trod_int hue hj
    have hq' : c1 = .int .u64 q := by simpa [Value.cells] using hq
    have hb := bounds_u64 hw
    refine ⟨q.toNat, ?_, ?_⟩
    · rw [Slx.W_eq]; omega
    · rw [hq']; congr 1; omega
  obtain ⟨k2, w2, e2⟩ : ∃ k : Nat, k < W ∧ c2 = .int .u64 (k : Int) := by
    have hj := hel 2 (by decide)
    have hlt : 2 < xs.length := by rw [hxs]; decide
    rw [List.getElem?_eq_getElem hlt] at hj
    obtain ⟨q, hq, _, hw⟩ := DataW.trod_int hue hj
    have hq' : c2 = .int .u64 q := by simpa [Value.cells] using hq
    have hb := bounds_u64 hw
    refine ⟨q.toNat, ?_, ?_⟩
    · rw [Slx.W_eq]; omega
    · rw [hq']; congr 1; omega
  obtain ⟨k3, w3, e3⟩ : ∃ k : Nat, k < W ∧ c3 = .int .u64 (k : Int) := by
    have hj := hel 3 (by decide)
    have hlt : 3 < xs.length := by rw [hxs]; decide
    rw [List.getElem?_eq_getElem hlt] at hj
    obtain ⟨q, hq, _, hw⟩ := DataW.trod_int hue hj
    have hq' : c3 = .int .u64 q := by simpa [Value.cells] using hq
    have hb := bounds_u64 hw
    refine ⟨q.toNat, ?_, ?_⟩
    · rw [Slx.W_eq]; omega
    · rw [hq']; congr 1; omega
  subst e0 e1 e2 e3
  refine ⟨k0 + 18446744073709551616 * k1 + 340282366920938463463374607431768211456 * k2 + 6277101735386680763835789423207666416102355444464034512896 * k3, ?_, ?_⟩
  · unfold R
    rw [Slx.W_eq] at *
    omega
  · unfold elv
    rw [word_of_0 w0 w1 w2 w3, word_of_1 w0 w1 w2 w3, word_of_2 w0 w1 w2 w3, word_of_3 w0 w1 w2 w3]

end Go.Proofs.Yteohenebjcbliaa

