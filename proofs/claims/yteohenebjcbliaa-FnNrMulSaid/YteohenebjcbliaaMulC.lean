/- The contract of Element.Mul: it writes the Montgomery product into the receiver's cells. Conditions: the factors' words make numbers, the second below the modulus. -/
import Derived.Test.YteohenebjcbliaaMulW
set_option linter.unusedVariables false
set_option linter.unusedSimpArgs false
namespace Go.Proofs.Yteohenebjcbliaa
open Go.RowKit Slx

def dtMul : Dt := { N := 838, mul64 := 27, add64 := 28, sub64 := 30, sm := 29, arr := 39, u64 := 22, len := 4, np := 3, wr := fun k => k == 0, dj := fun _ _ => false }
def stMul : St := { sl := [(0, .wp 0), (1, .wp 1), (2, .wp 2)], nd := [], nn := 0, mem := [], path := [] }
noncomputable def bodyMul : Code := match Try.f19.body with | some c => c | none => .skip
def mulSums : List Sum := [
  ⟨.ret, mulNodes, [((0, 3), .node 216), ((0, 2), .node 214), ((0, 1), .node 208), ((0, 0), .node 206)], [(.ms [.node 206, .node 208, .node 214, .node 216], true)], some (.wp 0)⟩,
  ⟨.ret, mulNodes ++ subNodes, [((0, 3), .node 224), ((0, 2), .node 222), ((0, 1), .node 220), ((0, 0), .node 218), ((0, 3), .node 216), ((0, 2), .node 214), ((0, 1), .node 208), ((0, 0), .node 206)], [(.ms [.node 206, .node 208, .node 214, .node 216], false)], some (.wp 0)⟩]
theorem mul_runs : (runC dtMul 20000 [bodyMul] stMul).map (List.map (sum 6)) = some mulSums := by kernel_rfl

def three (x y z : Nat) : Nat → Nat := fun k => if k = 0 then x else if k = 1 then y else z
def envMul (w : World) (bz oz bx ox by_ oy : Nat) (zc : Nat → Nat) (X Y : Nat) : Env :=
  { toDt := dtMul, blk := three bz bx by_, off := three oz ox oy, mv := fun p i => if p = 0 then zc i else if p = 1 then wordAt X i else wordAt Y i, w0 := w, Qm := Q }

theorem fitMul (w : World) (bz oz bx ox by_ oy : Nat) (zc : Nat → Nat) (X Y : Nat)
    (hz : ∀ i, i < 4 → w.cell? ⟨bz, oz + i, none⟩ = some (wd (zc i)) ∧ zc i < W) (hf : ∀ i, i < 4 → w.frozen? ⟨bz, oz + i, none⟩ = false)
    (hx : ∀ i, i < 4 → w.cell? ⟨bx, ox + i, none⟩ = some (wd (wordAt X i))) (hy : ∀ i, i < 4 → w.cell? ⟨by_, oy + i, none⟩ = some (wd (wordAt Y i))) :
    Fit Try.prog (envMul w bz oz bx ox by_ oy zc X Y) where
  mo := follows_mixed
  hmul _ x y hx hy w := mul64_any x y hx hy w
  hmule _ := mul64_enters
  hadd _ := add64_any
  hsub _ := sub64_any
  hsme _ := fun args w => enters_of' Try.func29 (by kernel_rfl) (by kernel_rfl) args w
  hsm _ := fun k w l _ hl hc => sm_any w _ _ l hl hc
  harr := arr_any
  hload := load_any
  hstore := store_any
  cellv := fun p i hp hi => by
    have hi' : i < 4 := hi
    have hp' : p = 0 ∨ p = 1 ∨ p = 2 := by have : p < 3 := hp; omega
    rcases hp' with rfl | rfl | rfl
    · exact hz i hi'
    · exact ⟨hx i hi', wordAt_lt _ _⟩
    · exact ⟨hy i hi', wordAt_lt _ _⟩
  frz := fun p i hp hi h => by
    have hp0 : p = 0 := by simpa [envMul, dtMul] using h
    subst hp0
    exact hf i hi
  disj _ _ h := Bool.noConfusion h

theorem at_right {E : Env} {ρ : Nat → Nat} {l1 l2 : List Nd} {k : Nat} (hk : l1.length = k) (S0 : At E ρ (l1 ++ l2)) (i : Nat) (d : Nd) (h : l2[i]? = some d) : ρ (k + i) = d.val E ρ := by
  subst hk
  refine S0 _ d ?_
  rw [List.getElem?_append_right (Nat.le_add_right _ _), Nat.add_sub_cancel_left]
  exact h
theorem mulNodes_len : mulNodes.length = 218 := by kernel_rfl

theorem sub_pair {x y z lo hi : Nat} (hlo : lo = (x + 18446744073709551616 - y - z) % 18446744073709551616) (hhi : hi = if x < y + z then 1 else 0) (hx : x < 18446744073709551616) (hy : y < 18446744073709551616) (hz : z ≤ 1) :
    lo + y + z = x + 18446744073709551616 * hi ∧ hi ≤ 1 := by
  subst hlo; subst hhi
  by_cases h : x < y + z
  · rw [if_pos h]; omega
  · rw [if_neg h]; omega
theorem sub_pair0 {x y lo hi : Nat} (hlo : lo = (x + 18446744073709551616 - y - 0) % 18446744073709551616) (hhi : hi = if x < y then 1 else 0) (hx : x < 18446744073709551616) (hy : y < 18446744073709551616) :
    lo + y = x + 18446744073709551616 * hi ∧ hi ≤ 1 := by
  subst hlo; subst hhi
  by_cases h : x < y
  · rw [if_pos h]; omega
  · rw [if_neg h]; omega

/-- What the subtraction computes. -/
theorem sub_nodes {E : Env} {ρ : Nat → Nat} (S0 : At E ρ (mulNodes ++ subNodes)) (hb : ∀ i, i < 226 → ρ i < W) (hQ : Q ≤ ρ 206 + 18446744073709551616 * ρ 208 + 340282366920938463463374607431768211456 * ρ 214 + 6277101735386680763835789423207666416102355444464034512896 * ρ 216) :
    ρ 218 + 18446744073709551616 * ρ 220 + 340282366920938463463374607431768211456 * ρ 222 + 6277101735386680763835789423207666416102355444464034512896 * ρ 224 + Q = ρ 206 + 18446744073709551616 * ρ 208 + 340282366920938463463374607431768211456 * ρ 214 + 6277101735386680763835789423207666416102355444464034512896 * ρ 216 := by
  have S : ∀ i d, subNodes[i]? = some d → ρ (218 + i) = d.val E ρ := at_right mulNodes_len S0

  have hi0 := S 1 _ rfl
  have lo0 := S 0 _ rfl
  simp only [Nd.val, A.val, Nat.reduceAdd] at hi0 lo0
  have hi1 := S 3 _ rfl
  have lo1 := S 2 _ rfl
  simp only [Nd.val, A.val, Nat.reduceAdd] at hi1 lo1
  have hi2 := S 5 _ rfl
  have lo2 := S 4 _ rfl
  simp only [Nd.val, A.val, Nat.reduceAdd] at hi2 lo2
  have hi3 := S 7 _ rfl
  have lo3 := S 6 _ rfl
  simp only [Nd.val, A.val, Nat.reduceAdd] at hi3 lo3
  have w206 := hb 206 (by decide)
  have w208 := hb 208 (by decide)
  have w214 := hb 214 (by decide)
  have w216 := hb 216 (by decide)
  have w218 := hb 218 (by decide)
  have w220 := hb 220 (by decide)
  have w222 := hb 222 (by decide)
  have w224 := hb 224 (by decide)
  clear S S0 hb
  rw [W_eq] at *
  unfold Q at *
  have p0 := sub_pair0 lo0 hi0 (by omega) (by decide)
  clear lo0 hi0
  have p1 := sub_pair lo1 hi1 (by omega) (by decide) p0.2
  clear lo1 hi1
  have p2 := sub_pair lo2 hi2 (by omega) (by decide) p1.2
  clear lo2 hi2
  have p3 := sub_pair lo3 hi3 (by omega) (by decide) p2.2
  clear lo3 hi3
  omega

set_option maxHeartbeats 1000000 in
/-- Element.Mul: the receiver's cells hold the product's words behind the call; nothing else turns. -/
theorem mul_any (w : World) (bz oz bx ox by_ oy : Nat) (zc : Nat → Nat) (X Y : Nat) (hX : X < R) (hY : Y < Q)
    (hz : ∀ i, i < 4 → w.cell? ⟨bz, oz + i, none⟩ = some (wd (zc i)) ∧ zc i < W) (hf : ∀ i, i < 4 → w.frozen? ⟨bz, oz + i, none⟩ = false)
    (hx : ∀ i, i < 4 → w.cell? ⟨bx, ox + i, none⟩ = some (wd (wordAt X i))) (hy : ∀ i, i < 4 → w.cell? ⟨by_, oy + i, none⟩ = some (wd (wordAt Y i))) :
    Calls Try.prog 19 #[.pointer (some ⟨bz, oz, none⟩), .pointer (some ⟨bx, ox, none⟩), .pointer (some ⟨by_, oy, none⟩)] w fun e w' =>
      e = .returned (.pointer (some ⟨bz, oz, none⟩)) ∧ ∃ d, w' = { putn w bz oz (mm X Y) with drawn := d } := by
  have F := fitMul w bz oz bx ox by_ oy zc X Y hz hf hx hy
  obtain ⟨L, hL, hs⟩ := sum_some mul_runs
  have I0 : Inv (envMul w bz oz bx ox by_ oy zc X Y) (fun _ => 0) stMul
      { tmps := #[.pointer (some ⟨bz, oz, none⟩), .pointer (some ⟨bx, ox, none⟩), .pointer (some ⟨by_, oy, none⟩)] ++ Array.replicate (Try.f19.ntmps - 3) undef, defers := [] } w :=
    inv_start Try.ntmps19 (by rw [Try.ntmps19]; exact Nat.le_of_ble_eq_true rfl) ⟨rfl, rfl, rfl, rfl⟩ rfl fun t sv h => by
      simp only [stMul, Slx.look] at h
      split at h
      · rename_i ht
        simp only [Option.some.injEq] at h
        subst ht; subst h
        exact ⟨rfl, (by decide : 0 < 3)⟩
      · split at h
        · rename_i _ ht
          simp only [Option.some.injEq] at h
          subst ht; subst h
          exact ⟨rfl, (by decide : 1 < 3)⟩
        · split at h
          · rename_i _ _ ht
            simp only [Option.some.injEq] at h
            subst ht; subst h
            exact ⟨rfl, (by decide : 2 < 3)⟩
          · cases h
  have mx : ∀ i, (envMul w bz oz bx ox by_ oy zc X Y).mv 1 i = wordAt X i := fun _ => rfl
  have my : ∀ i, (envMul w bz oz bx ox by_ oy zc X Y).mv 2 i = wordAt Y i := fun _ => rfl
  have sx := words_sum hX
  have sy := words_sum (X := Y) (Nat.lt_trans hY Q_lt)
  have fin : ∀ (a' : Act) (w' : World) (d : Nat), a'.tmps.getD 6 undef = .pointer (some ⟨bz, oz, none⟩) → a'.defers = [] → w' = { putn w bz oz (mm X Y) with drawn := d } →
      bodyPost Try.prog Try.f19 (fun e w' => e = .returned (.pointer (some ⟨bz, oz, none⟩)) ∧ ∃ d, w' = { putn w bz oz (mm X Y) with drawn := d }) .ret a' w' := fun a' w' d h1 h2 h3 =>
    bodyPost_ret (v := .pointer (some ⟨bz, oz, none⟩)) (by rw [results_tmp rfl, h1]) h2 ⟨rfl, d, h3⟩
  refine calls_slx F Try.func19 rfl I0 hL fun x hxL ρ' a' w' _ I => ?_
  have hmem := hs x hxL
  clear hs hL hxL I0 F
  simp only [mulSums, List.mem_cons, List.not_mem_nil, or_false] at hmem
  rcases hmem with h | h
  · obtain ⟨k1, k2, ⟨d, k3⟩, k4, k5, k6, k7⟩ := out_of I h rfl
    have hb : ∀ i, i < 218 → ρ' i < W := fun i hi => k7 i hi
    obtain ⟨M, hT, hM⟩ := mul_rounds (.inl rfl) k2 hb (fun i _ => by rw [mx]; exact wordAt_lt _ _) (by simp only [my]; rw [sy]; exact hY)
    simp only [mx, my] at hM
    rw [sx, sy] at hM
    have hlt : ρ' 206 + 18446744073709551616 * ρ' 208 + 340282366920938463463374607431768211456 * ρ' 214 + 6277101735386680763835789423207666416102355444464034512896 * ρ' 216 < Q := by
      have := k4 _ (List.mem_cons_self ..)
      simp only [C.val, decide_eq_true_eq, List.map_cons, List.map_nil, A.val] at this
      rw [num_eq] at this
      exact this
    have hmm := mm_of hM (.inl rfl) hlt
    rw [k1]
    refine fin a' w' d k5 k6 ?_
    rw [k3, ← hmm]
    unfold putn
    rw [word_of_0 (hb 206 (by decide)) (hb 208 (by decide)) (hb 214 (by decide)) (hb 216 (by decide)), word_of_1 (hb 206 (by decide)) (hb 208 (by decide)) (hb 214 (by decide)) (hb 216 (by decide)), word_of_2 (hb 206 (by decide)) (hb 208 (by decide)) (hb 214 (by decide)) (hb 216 (by decide)), word_of_3 (hb 206 (by decide)) (hb 208 (by decide)) (hb 214 (by decide)) (hb 216 (by decide))]
    rfl
  · obtain ⟨k1, k2, ⟨d, k3⟩, k4, k5, k6, k7⟩ := out_of I h rfl
    have hb : ∀ i, i < 226 → ρ' i < W := fun i hi => k7 i hi
    obtain ⟨M, hT, hM⟩ := mul_rounds (.inr rfl) k2 (fun i hi => hb i (by omega)) (fun i _ => by rw [mx]; exact wordAt_lt _ _) (by simp only [my]; rw [sy]; exact hY)
    simp only [mx, my] at hM
    rw [sx, sy] at hM
    have hge : Q ≤ ρ' 206 + 18446744073709551616 * ρ' 208 + 340282366920938463463374607431768211456 * ρ' 214 + 6277101735386680763835789423207666416102355444464034512896 * ρ' 216 := by
      have := k4 _ (List.mem_cons_self ..)
      simp only [C.val, decide_eq_false_iff_not, List.map_cons, List.map_nil, A.val] at this
      rw [num_eq] at this
      exact Nat.le_of_not_lt this
    have hsub := sub_nodes k2 hb hge
    have hmm := mm_of hM (.inr hsub) (by omega)
    rw [k1]
    refine fin a' w' d k5 k6 ?_
    rw [k3, ← hmm]
    unfold putn
    rw [word_of_0 (hb 218 (by decide)) (hb 220 (by decide)) (hb 222 (by decide)) (hb 224 (by decide)), word_of_1 (hb 218 (by decide)) (hb 220 (by decide)) (hb 222 (by decide)) (hb 224 (by decide)), word_of_2 (hb 218 (by decide)) (hb 220 (by decide)) (hb 222 (by decide)) (hb 224 (by decide)), word_of_3 (hb 218 (by decide)) (hb 220 (by decide)) (hb 222 (by decide)) (hb 224 (by decide))]
    rw [← putw_twice w bz oz (ρ' 206) (ρ' 208) (ρ' 214) (ρ' 216) (ρ' 218) (ρ' 220) (ρ' 222) (ρ' 224)]
    rfl

end Go.Proofs.Yteohenebjcbliaa

