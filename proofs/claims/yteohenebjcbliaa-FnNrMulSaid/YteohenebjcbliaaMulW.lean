/- The contracts of Element.smallerThanModulus and Element.Mul: what they hand back, and what memory is behind them. Conditions: the factors' words make numbers, the second below the modulus. -/
import Derived.Test.YteohenebjcbliaaBase
import Derived.Test.YteohenebjcbliaaCells
import Derived.Test.YteohenebjcbliaaMulM
set_option linter.unusedVariables false
set_option linter.unusedSimpArgs false
namespace Go.Proofs.Yteohenebjcbliaa
open Go.RowKit Slx

/-- A number's word. -/
def wordAt (X i : Nat) : Nat := X / W ^ i % W
theorem wordAt_lt (X i : Nat) : wordAt X i < W := Nat.mod_lt _ W_pos

theorem wordAt_0 (X : Nat) : wordAt X 0 = X % 18446744073709551616 := by simp [wordAt, W_eq]
theorem wordAt_1 (X : Nat) : wordAt X 1 = X / 18446744073709551616 % 18446744073709551616 := by simp [wordAt, W_eq]
theorem wordAt_2 (X : Nat) : wordAt X 2 = X / 340282366920938463463374607431768211456 % 18446744073709551616 := by simp [wordAt, W_eq]
theorem wordAt_3 (X : Nat) : wordAt X 3 = X / 6277101735386680763835789423207666416102355444464034512896 % 18446744073709551616 := by simp [wordAt, W_eq]

theorem words_sum {X : Nat} (h : X < R) : wordAt X 0 + 18446744073709551616 * wordAt X 1 + 340282366920938463463374607431768211456 * wordAt X 2 + 6277101735386680763835789423207666416102355444464034512896 * wordAt X 3 = X := by
  simp only [wordAt_0, wordAt_1, wordAt_2, wordAt_3]
  unfold R at h
  omega

theorem word_of_0 {z0 z1 z2 z3 : Nat} (h0 : z0 < W) (h1 : z1 < W) (h2 : z2 < W) (h3 : z3 < W) : wordAt (z0 + 18446744073709551616 * z1 + 340282366920938463463374607431768211456 * z2 + 6277101735386680763835789423207666416102355444464034512896 * z3) 0 = z0 := by
  rw [wordAt_0]
  rw [W_eq] at *
  omega

theorem word_of_1 {z0 z1 z2 z3 : Nat} (h0 : z0 < W) (h1 : z1 < W) (h2 : z2 < W) (h3 : z3 < W) : wordAt (z0 + 18446744073709551616 * z1 + 340282366920938463463374607431768211456 * z2 + 6277101735386680763835789423207666416102355444464034512896 * z3) 1 = z1 := by
  rw [wordAt_1]
  rw [W_eq] at *
  omega

theorem word_of_2 {z0 z1 z2 z3 : Nat} (h0 : z0 < W) (h1 : z1 < W) (h2 : z2 < W) (h3 : z3 < W) : wordAt (z0 + 18446744073709551616 * z1 + 340282366920938463463374607431768211456 * z2 + 6277101735386680763835789423207666416102355444464034512896 * z3) 2 = z2 := by
  rw [wordAt_2]
  rw [W_eq] at *
  omega

theorem word_of_3 {z0 z1 z2 z3 : Nat} (h0 : z0 < W) (h1 : z1 < W) (h2 : z2 < W) (h3 : z3 < W) : wordAt (z0 + 18446744073709551616 * z1 + 340282366920938463463374607431768211456 * z2 + 6277101735386680763835789423207666416102355444464034512896 * z3) 3 = z3 := by
  rw [wordAt_3]
  rw [W_eq] at *
  omega


/-- The number, written into the cells. -/
def putw (w : World) (b o : Nat) (z0 z1 z2 z3 : Nat) : World :=
  (((w.setCell ⟨b, o + 0, none⟩ (wd z0)).setCell ⟨b, o + 1, none⟩ (wd z1)).setCell ⟨b, o + 2, none⟩ (wd z2)).setCell ⟨b, o + 3, none⟩ (wd z3)
def putn (w : World) (b o Z : Nat) : World := putw w b o (wordAt Z 0) (wordAt Z 1) (wordAt Z 2) (wordAt Z 3)

theorem putw_twice (w : World) (b o : Nat) (z0 z1 z2 z3 u0 u1 u2 u3 : Nat) : putw (putw w b o z0 z1 z2 z3) b o u0 u1 u2 u3 = putw w b o u0 u1 u2 u3 := by
  simp only [putw]

  rw [setCell_comm _ (show (⟨b, o + 3, none⟩ : Addr) ≠ ⟨b, o + 0, none⟩ by simp) rfl rfl (wd z3) (wd u0)]
  rw [setCell_comm _ (show (⟨b, o + 2, none⟩ : Addr) ≠ ⟨b, o + 0, none⟩ by simp) rfl rfl (wd z2) (wd u0)]
  rw [setCell_comm _ (show (⟨b, o + 1, none⟩ : Addr) ≠ ⟨b, o + 0, none⟩ by simp) rfl rfl (wd z1) (wd u0)]
  rw [setCell_twice _ ⟨b, o + 0, none⟩ (wd z0) (wd u0)]
  rw [setCell_comm _ (show (⟨b, o + 3, none⟩ : Addr) ≠ ⟨b, o + 1, none⟩ by simp) rfl rfl (wd z3) (wd u1)]
  rw [setCell_comm _ (show (⟨b, o + 2, none⟩ : Addr) ≠ ⟨b, o + 1, none⟩ by simp) rfl rfl (wd z2) (wd u1)]
  rw [setCell_twice _ ⟨b, o + 1, none⟩ (wd z1) (wd u1)]
  rw [setCell_comm _ (show (⟨b, o + 3, none⟩ : Addr) ≠ ⟨b, o + 2, none⟩ by simp) rfl rfl (wd z3) (wd u2)]
  rw [setCell_twice _ ⟨b, o + 2, none⟩ (wd z2) (wd u2)]
  rw [setCell_twice _ ⟨b, o + 3, none⟩ (wd z3) (wd u3)]


/-- The product of two elements. -/
def mm (x y : Nat) : Nat := x * y * 9915499612839321149637521777990102151350674507940716049588462388200839649614 % Q
theorem Q_pos : 0 < Q := by decide
theorem Q_lt : Q < R := by decide
theorem mm_lt (x y : Nat) : mm x y < Q := Nat.mod_lt _ Q_pos
theorem mm_of {T M X Y Z : Nat} (h : T * R = X * Y + M * Q) (hz : Z = T ∨ Z + Q = T) (hlt : Z < Q) : Z = mm X Y := by
  have hr : R * 9915499612839321149637521777990102151350674507940716049588462388200839649614 % Q = 1 := by decide
  have h1 : T * (R * 9915499612839321149637521777990102151350674507940716049588462388200839649614) % Q = T % Q := by rw [Nat.mul_mod, hr, Nat.mul_one, Nat.mod_mod]
  have h2 : T * (R * 9915499612839321149637521777990102151350674507940716049588462388200839649614) = X * Y * 9915499612839321149637521777990102151350674507940716049588462388200839649614 + M * 9915499612839321149637521777990102151350674507940716049588462388200839649614 * Q := by
    rw [← Nat.mul_assoc, h, Nat.add_mul, Nat.mul_right_comm M]
  rw [h2, Nat.add_mul_mod_self_right] at h1
  unfold mm
  rw [h1]
  rcases hz with rfl | hz
  · exact (Nat.mod_eq_of_lt hlt).symm
  · rw [← hz, Nat.add_mod_right]; exact (Nat.mod_eq_of_lt hlt).symm

/-- What an outcome says. -/
theorem out_of {E : Env} {ρ : Nat → Nat} {x : X × St} {a : Act} {w : World} (I : Inv E ρ x.2 a w) {slot : Nat} {s : Sum} (h : sum slot x = s) {sv : SV} (hs : s.res = some sv) :
    x.1 = s.x ∧ At E ρ s.nd ∧ (∃ d, w = { wof E ρ s.mem with drawn := d }) ∧ (∀ e ∈ s.path, e.1.val E ρ = e.2) ∧ a.tmps.getD slot undef = sv.den E ρ ∧ a.defers = [] ∧ (∀ j, j < s.nd.length → ρ j < W) := by
  subst h
  refine ⟨rfl, sat_at I.sat, I.wld, fun e he => (I.path e he).2, ?_, I.df, fun j hj => ?_⟩
  · have := (I.slots slot sv hs).1
    simp [this]
  · refine I.bnd j ?_
    have := sat_len I.sat
    simp only [sum, List.length_reverse] at hj
    omega

def dtSm : Dt := { N := 50, mul64 := 0, add64 := 0, sub64 := 0, sm := 0, arr := 39, u64 := 22, len := 4, np := 1, wr := fun _ => false, dj := fun _ _ => false }
def stSm : St := { sl := [(0, .wp 0)], nd := [], nn := 0, mem := [], path := [] }
noncomputable def bodySm : Code := match Try.f29.body with | some c => c | none => .skip

def smSums : List Sum := [
  ⟨.ret, [], [], [(.lt (.cel 0 3) (.lit 3486998266802970665), true)], some (.wv (.bool true))⟩,
  ⟨.ret, [], [], [(.lt (.cel 0 2) (.lit 13281191951274694749), true), (.eq (.cel 0 3) (.lit 3486998266802970665), true), (.lt (.cel 0 3) (.lit 3486998266802970665), false)], some (.wv (.bool true))⟩,
  ⟨.ret, [], [], [(.lt (.cel 0 1) (.lit 2896914383306846353), true), (.eq (.cel 0 2) (.lit 13281191951274694749), true), (.lt (.cel 0 2) (.lit 13281191951274694749), false), (.eq (.cel 0 3) (.lit 3486998266802970665), true), (.lt (.cel 0 3) (.lit 3486998266802970665), false)], some (.wv (.bool true))⟩,
  ⟨.ret, [], [], [(.eq (.cel 0 1) (.lit 2896914383306846353), true), (.lt (.cel 0 1) (.lit 2896914383306846353), false), (.eq (.cel 0 2) (.lit 13281191951274694749), true), (.lt (.cel 0 2) (.lit 13281191951274694749), false), (.eq (.cel 0 3) (.lit 3486998266802970665), true), (.lt (.cel 0 3) (.lit 3486998266802970665), false)], some (.wb (.lt (.cel 0 0) (.lit 4891460686036598785)) true)⟩,
  ⟨.ret, [], [], [(.eq (.cel 0 1) (.lit 2896914383306846353), false), (.lt (.cel 0 1) (.lit 2896914383306846353), false), (.eq (.cel 0 2) (.lit 13281191951274694749), true), (.lt (.cel 0 2) (.lit 13281191951274694749), false), (.eq (.cel 0 3) (.lit 3486998266802970665), true), (.lt (.cel 0 3) (.lit 3486998266802970665), false)], some (.wv (.bool false))⟩,
  ⟨.ret, [], [], [(.eq (.cel 0 2) (.lit 13281191951274694749), false), (.lt (.cel 0 2) (.lit 13281191951274694749), false), (.eq (.cel 0 3) (.lit 3486998266802970665), true), (.lt (.cel 0 3) (.lit 3486998266802970665), false)], some (.wv (.bool false))⟩,
  ⟨.ret, [], [], [(.eq (.cel 0 3) (.lit 3486998266802970665), false), (.lt (.cel 0 3) (.lit 3486998266802970665), false)], some (.wv (.bool false))⟩]
theorem sm_runs : (runC dtSm 4000 [bodySm] stSm).map (List.map (sum 2)) = some smSums := by kernel_rfl

def envSm (w : World) (b o : Nat) (l : List Nat) : Env := { toDt := dtSm, blk := fun _ => b, off := fun _ => o, mv := fun _ i => l.getD i 0, w0 := w, Qm := Q }

theorem follows_mixed : Try.prog.follows .mixedOrders = true := by kernel_rfl

theorem fitSm (w : World) (b o : Nat) (l : List Nat) (hl : l.length = 4) (hc : ∀ i x, l[i]? = some x → x < W ∧ w.cell? ⟨b, o + i, none⟩ = some (wd x)) : Fit Try.prog (envSm w b o l) where
  mo := follows_mixed
  hmul h := absurd rfl h
  hmule h := absurd rfl h
  hadd h := absurd rfl h
  hsub h := absurd rfl h
  hsme h := absurd rfl h
  hsm h := absurd rfl h
  harr := arr_any
  hload := load_any
  hstore := store_any
  cellv := fun _ i _ hi => by
    have hi' : i < l.length := by rw [hl]; exact hi
    have h1 := hc i l[i] (List.getElem?_eq_getElem hi')
    have h2 : l.getD i 0 = l[i] := by simp [hi']
    exact ⟨by show w.cell? _ = some (wd (l.getD i 0)); rw [h2]; exact h1.2, by show l.getD i 0 < W; rw [h2]; exact h1.1⟩
  frz _ _ _ _ h := Bool.noConfusion h
  disj _ _ h := Bool.noConfusion h

theorem inv_start {E : Env} {w : World} {args : Array Value} {st : St} {m : Nat} (hN : m = E.N) (ha : args.size ≤ m) (hst : st.nd = [] ∧ st.nn = 0 ∧ st.mem = [] ∧ st.path = []) (hw : w = E.w0)
    (hs : ∀ (t : Nat) (sv : SV), Slx.look st.sl t = some sv → args[t]? = some (sv.den E (fun _ => 0)) ∧ sv.Ok E (fun _ => 0) 0) :
    Inv E (fun _ => 0) st { tmps := args ++ Array.replicate (m - args.size) undef, defers := [] } w := by
  obtain ⟨h1, h2, h3, h4⟩ := hst
  refine ⟨by simp; omega, rfl, fun t sv h => ?_, fun j hj => by omega, by rw [h1, h2]; rfl, fun e he => (by rw [h3] at he; cases he), ⟨w.drawn, by rw [h3, hw]; rfl⟩, fun e he => (by rw [h4] at he; cases he)⟩
  obtain ⟨g1, g2⟩ := hs t sv h
  rw [h2]
  refine ⟨?_, g2⟩
  have : t < args.size := (Array.getElem?_eq_some_iff.1 g1).1
  simp [Array.getElem?_append, this]
  simpa [this] using g1

theorem list_n {l : List Nat} (h : l.length = 4) : ∃ a0 a1 a2 a3, l = [a0, a1, a2, a3] := by
  match l, h with
  | [a0, a1, a2, a3], _ => exact ⟨a0, a1, a2, a3, rfl⟩

set_option maxHeartbeats 1000000 in
/-- smallerThanModulus tells whether the number in the cells is below the modulus. -/
theorem sm_any (w : World) (b o : Nat) (l : List Nat) (hl : l.length = 4) (hc : ∀ i x, l[i]? = some x → x < W ∧ w.cell? ⟨b, o + i, none⟩ = some (wd x)) :
    Calls Try.prog 29 #[.pointer (some ⟨b, o, none⟩)] w fun e w' => e = .returned (.bool (decide (num l < Q))) ∧ ∃ d, w' = { w with drawn := d } := by
  have F := fitSm w b o l hl hc
  obtain ⟨L, hL, hs⟩ := sum_some sm_runs
  have I0 : Inv (envSm w b o l) (fun _ => 0) stSm { tmps := #[.pointer (some ⟨b, o, none⟩)] ++ Array.replicate (Try.f29.ntmps - 1) undef, defers := [] } w :=
    inv_start Try.ntmps29 (by rw [Try.ntmps29]; exact Nat.le_of_ble_eq_true rfl) ⟨rfl, rfl, rfl, rfl⟩ rfl fun t sv h => by
      simp only [stSm, Slx.look] at h
      split at h
      · rename_i ht
        simp only [Option.some.injEq] at h
        subst ht; subst h
        exact ⟨rfl, Nat.lt_irrefl 0 |> fun _ => Nat.zero_lt_one⟩
      · cases h
  refine calls_slx F Try.func29 rfl I0 hL fun x hx ρ' a' w' _ I => ?_
  have hmem := hs x hx
  have fin : ∀ (v : Bool), x.1 = .ret → a'.tmps.getD 2 undef = .bool v → a'.defers = [] → (∃ d, w' = { w with drawn := d }) → v = decide (num l < Q) →
      bodyPost Try.prog Try.f29 (fun e w' => e = .returned (.bool (decide (num l < Q))) ∧ ∃ d, w' = { w with drawn := d }) x.1.exit a' w' := by
    intro v h1 h2 h3 h4 h5
    rw [h1]
    exact bodyPost_ret (v := .bool v) (by rw [results_tmp rfl, h2]) h3 ⟨by rw [h5], h4⟩
  obtain ⟨a0, a1, a2, a3, rfl⟩ := list_n hl
  have b0 := (hc 0 a0 rfl).1
  have b1 := (hc 1 a1 rfl).1
  have b2 := (hc 2 a2 rfl).1
  have b3 := (hc 3 a3 rfl).1
  rw [W_eq] at b0 b1 b2 b3
  rw [num_eq] at fin ⊢
  simp only [smSums, List.mem_cons, List.not_mem_nil, or_false] at hmem
  rcases hmem with h | h | h | h | h | h | h
  all_goals
    obtain ⟨k1, _, k3, k4, k5, k6, _⟩ := out_of I h rfl
    simp only [List.mem_cons, List.not_mem_nil, or_false, forall_eq_or_imp, forall_eq, false_implies, implies_true] at k4
    refine fin _ k1 k5 k6 k3 ?_
    clear fin k1 k3 k5 k6 h hs hL F I0 I hc hx
    simp only [C.val, A.val, envSm, decide_eq_true_eq, decide_eq_false_iff_not, List.getD_cons_zero, List.getD_cons_succ, beq_true] at *
    unfold Q
    first
      | (symm; rw [decide_eq_true_eq]; omega)
      | (symm; rw [decide_eq_false_iff_not]; omega)
      | (rw [decide_eq_decide]; omega)

end Go.Proofs.Yteohenebjcbliaa

