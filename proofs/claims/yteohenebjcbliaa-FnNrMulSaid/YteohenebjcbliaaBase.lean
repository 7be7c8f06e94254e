/- The contracts of math/bits Mul64, Add64, Sub64 in this program, and the facts of one-word cells. No conditions beyond words of 64 bits. -/
import Derived.Test.YteohenebjcbliaaProg
import Derived.Test.YteohenebjcbliaaSlxU
import Derived.Lib.Mul64
import Derived.Laws.Bits64b
import Derived.Laws.Externs
import Derived.KernelRfl
namespace Go.Proofs.Yteohenebjcbliaa
open Go.RowKit Go.Lib Slx

namespace Mulk
theorem maskN (a : Nat) (ha : a < 18446744073709551616) : bits .and .u64 (a : Int) 4294967295 = ((a % 4294967296 : Nat) : Int) := by
  have h := bits_and_u64_nat a 4294967295 ha (by omega)
  have e : a &&& 4294967295 = a % 4294967296 := Nat.and_two_pow_sub_one_eq_mod a 32
  rw [e] at h
  exact h
theorem divN (a : Nat) : (a : Int) / 4294967296 = ((a / 4294967296 : Nat) : Int) := by omega
theorem mulN (a b : Nat) : (a : Int) * (b : Int) = ((a * b : Nat) : Int) := (Int.natCast_mul a b).symm
theorem addN (a b : Nat) : (a : Int) + (b : Int) = ((a + b : Nat) : Int) := (Int.natCast_add a b).symm
theorem wrapN (a : Nat) (ha : a < 18446744073709551616) : IntKind.u64.wrap (a : Int) = (a : Int) := by rw [Go.IntKind.wrap_u64]; omega
theorem wrapM (a : Nat) : IntKind.u64.wrap (a : Int) = ((a % 18446744073709551616 : Nat) : Int) := by rw [Go.IntKind.wrap_u64]; omega
end Mulk

set_option maxHeartbeats 1000000 in
theorem mul64_any (x y : Nat) (hx : x < 18446744073709551616) (hy : y < 18446744073709551616) (w : World) :
    Calls Try.prog 27 #[.int .u64 x, .int .u64 y] w fun e w' => e = .returned (.tuple #[.int .u64 ((x * y / 18446744073709551616 : Nat) : Int), .int .u64 ((x * y % 18446744073709551616 : Nat) : Int)]) ∧ w' = w := by
  obtain ⟨bd, bt, bw, hhi⟩ := Lib.mul64_hi x y hx hy
  have ba := Lib.half_mul_le (a := x / 4294967296) (b := y / 4294967296) (by omega) (by omega)
  have bb := Lib.half_mul_le (a := x / 4294967296) (b := y % 4294967296) (by omega) (by omega)
  have bc := Lib.half_mul_le (a := x % 4294967296) (b := y / 4294967296) (by omega) (by omega)
  have ba' : x / 4294967296 * (y / 4294967296) < 18446744073709551616 := by omega
  have bb' : x / 4294967296 * (y % 4294967296) < 18446744073709551616 := by omega
  have bc' : x % 4294967296 * (y / 4294967296) < 18446744073709551616 := by omega
  have bh1 : x / 4294967296 * (y / 4294967296) + (x / 4294967296 * (y % 4294967296) + x % 4294967296 * (y % 4294967296) / 4294967296) / 4294967296 < 18446744073709551616 := by omega
  have bh : x / 4294967296 * (y / 4294967296) + (x / 4294967296 * (y % 4294967296) + x % 4294967296 * (y % 4294967296) / 4294967296) / 4294967296 + ((x / 4294967296 * (y % 4294967296) + x % 4294967296 * (y % 4294967296) / 4294967296) % 4294967296 + x % 4294967296 * (y / 4294967296)) / 4294967296 < 18446744073709551616 := by omega
  go_enter Try.func27, Try.ntmps27
  go_wp2
  simp only [Mulk.maskN x hx, Mulk.maskN y hy, Mulk.divN, Mulk.mulN, Mulk.addN, Mulk.wrapN _ bd, Mulk.wrapN _ bb', Mulk.wrapN _ bt, Mulk.maskN _ bt, Mulk.wrapN _ bc', Mulk.wrapN _ bw, Mulk.wrapN _ ba', Mulk.wrapN _ bh1, Mulk.wrapN _ bh, Mulk.wrapM (x * y)]
  rw [hhi]
  go_ret2
  exact ⟨rfl, rfl⟩

theorem enters_of' {P : Program} {f : FuncId} {fn : Func} (hf : P.funcs[f]? = some fn) (hname : (fn.name == "runtime.NumGoroutine") = false) (hb : fn.body.isNone = false) (args : Array Value) (w : World) :
    (callFunc f args).run P w = .ok (.enter f args) w := by
  have h1 : fn.name ≠ "runtime.NumGoroutine" := by simpa using hname
  have h2 : fn.body ≠ none := fun h => by rw [h] at hb; cases hb
  simp [callFunc, hf, h1, h2]

theorem mul64_enters (args : Array Value) (w : World) : (callFunc 27 args).run Try.prog w = .ok (.enter 27 args) w :=
  enters_of' Try.func27 (by kernel_rfl) (by kernel_rfl) args w

theorem add64_any (x y z : Nat) (hz : z ≤ 1) (w : World) :
    (callFunc 28 #[wd x, wd y, wd z]).run Try.prog w = .ok (.value (.tuple #[wd ((x + y + z) % W), wd ((x + y + z) / W)])) w := by
  have := run_callFunc_extern (P := Try.prog) (f := 28) Try.func28 (by kernel_rfl) (by kernel_rfl) (by kernel_rfl) (e := add64Entry) (by kernel_rfl) #[wd x, wd y, wd z] w
  rw [this]
  have h2 := run_add64 (P := Try.prog) x y z (by omega) (by omega) (by omega) (by omega) w
  simp only [wd] at *
  rw [h2]
  simp only [Result.andThen, W_eq]
  congr 5

def sub64Entry : Array Value → Sem Value := fun args => do
  let (x, y, b) ← Extern.MathBitsCarry.three "Sub64" args
  pure (Extern.MathBitsCarry.pair ((x + Extern.MathBitsCarry.m64 - y - b) % Extern.MathBitsCarry.m64) (if x < y + b then 1 else 0))

theorem run_sub64 {P : Program} (x y b : Nat) (hb : b ≤ 1) (w : World) :
    (sub64Entry #[.int .u64 x, .int .u64 y, .int .u64 b]).run P w =
      .ok (.tuple #[.int .u64 (((x + 18446744073709551616 - y - b) % 18446744073709551616 : Nat) : Int), .int .u64 ((if x < y + b then 1 else 0 : Nat) : Int)]) w := by
  have : b = 0 ∨ b = 1 := by omega
  rcases this with rfl | rfl <;> rfl

theorem sub64_any (x y z : Nat) (hz : z ≤ 1) (w : World) :
    (callFunc 30 #[wd x, wd y, wd z]).run Try.prog w = .ok (.value (.tuple #[wd ((x + W - y - z) % W), wd (if x < y + z then 1 else 0)])) w := by
  have := run_callFunc_extern (P := Try.prog) (f := 30) Try.func30 (by kernel_rfl) (by kernel_rfl) (by kernel_rfl) (e := sub64Entry) (by kernel_rfl) #[wd x, wd y, wd z] w
  rw [this]
  have h2 := run_sub64 (P := Try.prog) x y z hz w
  simp only [wd] at *
  rw [h2]
  rfl

theorem arr_any (a : Addr) (i : Nat) (w : World) (h : i < 4) : (Instr.indexAt 39 (.pointer (some a)) (.int .i64 (.ofNat i))).run Try.prog w = .ok (.pointer (some (a.add i))) w := by
  have h1 := run_indexAt_array (P := Try.prog) w 39 a .i64 (.ofNat i) (by kernel_rfl)
  rw [h1]
  have e1 : Try.prog.arrayLen 39 = 4 := by kernel_rfl
  have e2 : Try.prog.elem 39 = 22 := by kernel_rfl
  have e3 : ∀ w, (sizeOf 22).run Try.prog w = .ok 1 w := fun w => by kernel_rfl
  rw [e1, e2, e3]
  have : (0 : Int) ≤ Int.ofNat i ∧ Int.ofNat i < ((4 : Nat) : Int) := by
    constructor
    · exact Int.natCast_nonneg i
    · exact Int.ofNat_lt.2 h
  rw [if_pos this]
  simp [Result.andThen]

theorem load_any (a : Addr) (v : Value) (w : World) (h : w.cell? a = some v) : (Instr.loadAt 22 (.pointer (some a))).run Try.prog w = .ok v w := by
  have e : ∀ w, (isAgg 22).run Try.prog w = .ok false w := fun w => by kernel_rfl
  simp [Instr.loadAt, Instr.sureAddr, loadVar, e, h]

theorem store_any (a : Addr) (v : Value) (n : Nat) (w : World) (h : w.cell? a = some v) (hf : w.frozen? a = false) :
    (Instr.storeAt 22 (.pointer (some a)) (wd n)).run Try.prog w = .ok () (w.setCell a (wd n)) := by
  have e3 : ∀ w, (sizeOf 22).run Try.prog w = .ok 1 w := fun w => by kernel_rfl
  have hs := run_store Try.prog w a (wd n) .plain rfl
  rw [h] at hs
  simp only [hf] at hs
  simp [Instr.storeAt, Instr.sureAddr, storeVar, e3, wd, Value.cells, storeCells, Addr.add] at *
  rw [hs]

end Go.Proofs.Yteohenebjcbliaa
