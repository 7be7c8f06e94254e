/-
  No cell of these rows narrows 'for every input' (looked for: loops, veiled, ifaces, maps, wideKeys, modest, calm, conditions, laid).
  DERIVED. THE GIVEN ROWS OF THIS SEAT. 4 by the template 'for every input the law returns true; each argument reads behind the call as it read before'; 0 by the template 'total and deterministic' (their statements: YteohenebjcbliaaTotals.lean).
  GIVEN WITH THE SEED: the statements are not yours to turn. If you find one false, say at which input.
  Laid BY PROGRAM, IN A SANDBOX (cutbox-rows.mjs): the forced cells as the released guide's own fill.sh prints them over the translation e4e5bc83f53be1a2… (all of the seat's roots in one cut). By AI agents, Wed Nov 11 2026. No macro, syntax, notation, axiom, sorry.
-/
import Derived.Test.YteohenebjcbliaaChecked
import GoSem.Claim
import GoSem.ClaimJoined
import GoSem.ClaimMapViews
import Derived.JoinedTies
import Derived.KernelRfl
namespace Go.Proofs.Yteohenebjcbliaa
/- THE CELL 'sum', in the pinned program and in every row, IS THE sha256 OF THE DUMP (.gsa) THAT YteohenebjcbliaaProg.lean LOADS. Nothing in Lean hashes anything: it is a label: what it is worth is what the hold of that sum in a sandbox is worth. -/
noncomputable def Try.pinned : Pinned := { name := "yteohenebjcbliaa", sum := "e4e5bc83f53be1a284ebc4093557038f22248b83568084a106b1dc1aa4303760", checked := Try.checked }
namespace Rows
def none {H : Type} : Left H := { results := [], args := [] }

/-- 'laws.FnNrMul': WHATEVER THE INPUT: true; the input reads as it did. -/
def fnNrMulSpec : ChangeSpec := { name := "fnNrMul", fn := fun _ => fun
  | [d1, d2] => { results := [.lit (.bool true)], args := [d1, d2] }
  | _ => none }
def fnNrMulRow : OpenClaim := { program := "yteohenebjcbliaa", sum := "e4e5bc83f53be1a284ebc4093557038f22248b83568084a106b1dc1aa4303760", func := "loop.example/pub-g03342/laws.FnNrMul", spec := "fnNrMul", inPlace := ["math/bits.Add64", "math/bits.Sub64"], apart := false }
def FnNrMulSaid : Prop := fnNrMulRow.holds Try.pinned (OpenSpec.ofChange fnNrMulSpec)

/-- ITS FALSE NEIGHBOUR: 'it returns false'. Refute it at one input. -/
def fnNrMulWrong : ChangeSpec := { name := "fnNrMul", fn := fun _ => fun
  | [d1, d2] => { results := [.lit (.bool false)], args := [d1, d2] }
  | _ => none }
def FnNrMulWrongFalsely : Prop := fnNrMulRow.holds Try.pinned (OpenSpec.ofChange fnNrMulWrong)

/-- 'laws.FnNrMulGroup': WHATEVER THE INPUT: true; the input reads as it did. -/
def fnNrMulGroupSpec : ChangeSpec := { name := "fnNrMulGroup", fn := fun _ => fun
  | [d1, d2, d3] => { results := [.lit (.bool true)], args := [d1, d2, d3] }
  | _ => none }
def fnNrMulGroupRow : OpenClaim := { program := "yteohenebjcbliaa", sum := "e4e5bc83f53be1a284ebc4093557038f22248b83568084a106b1dc1aa4303760", func := "loop.example/pub-g03342/laws.FnNrMulGroup", spec := "fnNrMulGroup", inPlace := ["math/bits.Add64", "math/bits.Sub64"], apart := false }
def FnNrMulGroupSaid : Prop := fnNrMulGroupRow.holds Try.pinned (OpenSpec.ofChange fnNrMulGroupSpec)

/-- ITS FALSE NEIGHBOUR: 'it returns false'. Refute it at one input. -/
def fnNrMulGroupWrong : ChangeSpec := { name := "fnNrMulGroup", fn := fun _ => fun
  | [d1, d2, d3] => { results := [.lit (.bool false)], args := [d1, d2, d3] }
  | _ => none }
def FnNrMulGroupWrongFalsely : Prop := fnNrMulGroupRow.holds Try.pinned (OpenSpec.ofChange fnNrMulGroupWrong)

/-- 'laws.FnNrOne': WHATEVER THE INPUT: true; the input reads as it did. -/
def fnNrOneSpec : ChangeSpec := { name := "fnNrOne", fn := fun _ => fun
  | [d] => { results := [.lit (.bool true)], args := [d] }
  | _ => none }
def fnNrOneRow : OpenClaim := { program := "yteohenebjcbliaa", sum := "e4e5bc83f53be1a284ebc4093557038f22248b83568084a106b1dc1aa4303760", func := "loop.example/pub-g03342/laws.FnNrOne", spec := "fnNrOne", inPlace := ["math/bits.Add64", "math/bits.Sub64"], apart := false }
def FnNrOneSaid : Prop := fnNrOneRow.holds Try.pinned (OpenSpec.ofChange fnNrOneSpec)

/-- ITS FALSE NEIGHBOUR: 'it returns false'. Refute it at one input. -/
def fnNrOneWrong : ChangeSpec := { name := "fnNrOne", fn := fun _ => fun
  | [d] => { results := [.lit (.bool false)], args := [d] }
  | _ => none }
def FnNrOneWrongFalsely : Prop := fnNrOneRow.holds Try.pinned (OpenSpec.ofChange fnNrOneWrong)

/-- 'laws.FnNrVecScale': WHATEVER THE INPUT: true; the input reads as it did. -/
def fnNrVecScaleSpec : ChangeSpec := { name := "fnNrVecScale", fn := fun _ => fun
  | [d1, d2] => { results := [.lit (.bool true)], args := [d1, d2] }
  | _ => none }
def fnNrVecScaleRow : OpenClaim := { program := "yteohenebjcbliaa", sum := "e4e5bc83f53be1a284ebc4093557038f22248b83568084a106b1dc1aa4303760", func := "loop.example/pub-g03342/laws.FnNrVecScale", spec := "fnNrVecScale", inPlace := ["math/bits.Add64", "math/bits.Sub64"], apart := false }
def FnNrVecScaleSaid : Prop := fnNrVecScaleRow.holds Try.pinned (OpenSpec.ofChange fnNrVecScaleSpec)

/-- ITS FALSE NEIGHBOUR: 'it returns false'. Refute it at one input. -/
def fnNrVecScaleWrong : ChangeSpec := { name := "fnNrVecScale", fn := fun _ => fun
  | [d1, d2] => { results := [.lit (.bool false)], args := [d1, d2] }
  | _ => none }
def FnNrVecScaleWrongFalsely : Prop := fnNrVecScaleRow.holds Try.pinned (OpenSpec.ofChange fnNrVecScaleWrong)

/- THE SECOND FORM. 'bulk': how many values and letters a reading holds, each counted each time it is reached (what is shared counts as often as it is met; a slice's spare places count too). A statement '..UptoSaid' is the law's where the arguments, and the package variables that the reading takes, are together of bulk at most 1048576: NARROWER than '..Said'. Prove '..Said' where nothing that the law and all that it calls make is longer than what came in: it says more and counts as full. Else prove '..UptoSaid'. A law counts once. -/
mutual
def uptoBulk {H : Type} : DataW H → Nat
  | .lit (.string bytes) => bytes.length + 1
  | .lit _ => 1
  | .nil => 1
  | .ptr d => uptoBulk d + 1
  | .slice elems spare => uptoBulkAll elems + uptoBulkAll spare + 1
  | .agg parts => uptoBulkAll parts + 1
  | .iface _ d => uptoBulk d + 1
  | .map entries => uptoBulkEntries entries + 1
  | .held _ => 1
def uptoBulkAll {H : Type} : List (DataW H) → Nat
  | [] => 0
  | d :: r => uptoBulk d + uptoBulkAll r
def uptoBulkEntries {H : Type} : List (Lit × DataW H) → Nat
  | [] => 0
  | x :: r => uptoBulkEntry x + uptoBulkEntries r
def uptoBulkEntry {H : Type} : Lit × DataW H → Nat
  | (.string bytes, d) => bytes.length + uptoBulk d + 1
  | (_, d) => uptoBulk d + 1
 end
def uptoSmall : (H : Type) → List (DataW H) → Bool := fun _ ds => decide (uptoBulkAll ds ≤ 1048576)
def OpenSpec.upto (s : _root_.Go.ChangeSpec) : _root_.Go.OpenSpec := { _root_.Go.OpenSpec.ofChange s with cond := some uptoSmall }

/-- 'laws.FnNrMul', WHERE WHAT IT READS IS OF BULK AT MOST 1048576: true; the input reads as it did. -/
def fnNrMulUptoRow : OpenClaim := { program := "yteohenebjcbliaa", sum := "e4e5bc83f53be1a284ebc4093557038f22248b83568084a106b1dc1aa4303760", func := "loop.example/pub-g03342/laws.FnNrMul", spec := "fnNrMul", inPlace := ["math/bits.Add64", "math/bits.Sub64"], apart := false, narrowed := true }
def FnNrMulUptoSaid : Prop := fnNrMulUptoRow.holds Try.pinned (OpenSpec.upto fnNrMulSpec)

/-- 'laws.FnNrMulGroup', WHERE WHAT IT READS IS OF BULK AT MOST 1048576: true; the input reads as it did. -/
def fnNrMulGroupUptoRow : OpenClaim := { program := "yteohenebjcbliaa", sum := "e4e5bc83f53be1a284ebc4093557038f22248b83568084a106b1dc1aa4303760", func := "loop.example/pub-g03342/laws.FnNrMulGroup", spec := "fnNrMulGroup", inPlace := ["math/bits.Add64", "math/bits.Sub64"], apart := false, narrowed := true }
def FnNrMulGroupUptoSaid : Prop := fnNrMulGroupUptoRow.holds Try.pinned (OpenSpec.upto fnNrMulGroupSpec)

/-- 'laws.FnNrOne', WHERE WHAT IT READS IS OF BULK AT MOST 1048576: true; the input reads as it did. -/
def fnNrOneUptoRow : OpenClaim := { program := "yteohenebjcbliaa", sum := "e4e5bc83f53be1a284ebc4093557038f22248b83568084a106b1dc1aa4303760", func := "loop.example/pub-g03342/laws.FnNrOne", spec := "fnNrOne", inPlace := ["math/bits.Add64", "math/bits.Sub64"], apart := false, narrowed := true }
def FnNrOneUptoSaid : Prop := fnNrOneUptoRow.holds Try.pinned (OpenSpec.upto fnNrOneSpec)

/-- 'laws.FnNrVecScale', WHERE WHAT IT READS IS OF BULK AT MOST 1048576: true; the input reads as it did. -/
def fnNrVecScaleUptoRow : OpenClaim := { program := "yteohenebjcbliaa", sum := "e4e5bc83f53be1a284ebc4093557038f22248b83568084a106b1dc1aa4303760", func := "loop.example/pub-g03342/laws.FnNrVecScale", spec := "fnNrVecScale", inPlace := ["math/bits.Add64", "math/bits.Sub64"], apart := false, narrowed := true }
def FnNrVecScaleUptoSaid : Prop := fnNrVecScaleUptoRow.holds Try.pinned (OpenSpec.upto fnNrVecScaleSpec)

end Rows
end Go.Proofs.Yteohenebjcbliaa
