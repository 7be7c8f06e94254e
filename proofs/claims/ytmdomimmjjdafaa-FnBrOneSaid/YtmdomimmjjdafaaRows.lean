/-
  No cell of these rows narrows 'for every input' (looked for: loops, veiled, ifaces, maps, wideKeys, modest, calm, conditions, laid).
  DERIVED. THE GIVEN ROWS OF THIS SEAT. 4 by the template 'for every input the law returns true; each argument reads behind the call as it read before'; 0 by the template 'total and deterministic' (their statements: YtmdomimmjjdafaaTotals.lean).
  GIVEN WITH THE SEED: the statements are not yours to turn. If you find one false, say at which input.
  Laid BY PROGRAM, IN A SANDBOX (cutbox-rows.mjs): the forced cells as the released guide's own fill.sh prints them over the translation f19cef2f0d32258b… (all of the seat's roots in one cut). By AI agents, Wed Nov 11 2026. No macro, syntax, notation, axiom, sorry.
-/
import Derived.Test.YtmdomimmjjdafaaChecked
import GoSem.Claim
import GoSem.ClaimJoined
import GoSem.ClaimMapViews
import Derived.JoinedTies
import Derived.KernelRfl
namespace Go.Proofs.Ytmdomimmjjdafaa
/- THE CELL 'sum', in the pinned program and in every row, IS THE sha256 OF THE DUMP (.gsa) THAT YtmdomimmjjdafaaProg.lean LOADS. Nothing in Lean hashes anything: it is a label: what it is worth is what the hold of that sum in a sandbox is worth. -/
noncomputable def Try.pinned : Pinned := { name := "ytmdomimmjjdafaa", sum := "f19cef2f0d32258b704168e14e01ed48a32b585d5d342f42932e3d3e3750cfb7", checked := Try.checked }
namespace Rows
def none {H : Type} : Left H := { results := [], args := [] }

/-- 'laws.FnBrMul': WHATEVER THE INPUT: true; the input reads as it did. -/
def fnBrMulSpec : ChangeSpec := { name := "fnBrMul", fn := fun _ => fun
  | [d1, d2] => { results := [.lit (.bool true)], args := [d1, d2] }
  | _ => none }
def fnBrMulRow : OpenClaim := { program := "ytmdomimmjjdafaa", sum := "f19cef2f0d32258b704168e14e01ed48a32b585d5d342f42932e3d3e3750cfb7", func := "loop.example/pub-g03342/laws.FnBrMul", spec := "fnBrMul", inPlace := ["math/bits.Add64", "math/bits.Sub64"], apart := false }
def FnBrMulSaid : Prop := fnBrMulRow.holds Try.pinned (OpenSpec.ofChange fnBrMulSpec)

/-- ITS FALSE NEIGHBOUR: 'it returns false'. Refute it at one input. -/
def fnBrMulWrong : ChangeSpec := { name := "fnBrMul", fn := fun _ => fun
  | [d1, d2] => { results := [.lit (.bool false)], args := [d1, d2] }
  | _ => none }
def FnBrMulWrongFalsely : Prop := fnBrMulRow.holds Try.pinned (OpenSpec.ofChange fnBrMulWrong)

/-- 'laws.FnBrMulGroup': WHATEVER THE INPUT: true; the input reads as it did. -/
def fnBrMulGroupSpec : ChangeSpec := { name := "fnBrMulGroup", fn := fun _ => fun
  | [d1, d2, d3] => { results := [.lit (.bool true)], args := [d1, d2, d3] }
  | _ => none }
def fnBrMulGroupRow : OpenClaim := { program := "ytmdomimmjjdafaa", sum := "f19cef2f0d32258b704168e14e01ed48a32b585d5d342f42932e3d3e3750cfb7", func := "loop.example/pub-g03342/laws.FnBrMulGroup", spec := "fnBrMulGroup", inPlace := ["math/bits.Add64", "math/bits.Sub64"], apart := false }
def FnBrMulGroupSaid : Prop := fnBrMulGroupRow.holds Try.pinned (OpenSpec.ofChange fnBrMulGroupSpec)

/-- ITS FALSE NEIGHBOUR: 'it returns false'. Refute it at one input. -/
def fnBrMulGroupWrong : ChangeSpec := { name := "fnBrMulGroup", fn := fun _ => fun
  | [d1, d2, d3] => { results := [.lit (.bool false)], args := [d1, d2, d3] }
  | _ => none }
def FnBrMulGroupWrongFalsely : Prop := fnBrMulGroupRow.holds Try.pinned (OpenSpec.ofChange fnBrMulGroupWrong)

/-- 'laws.FnBrOne': WHATEVER THE INPUT: true; the input reads as it did. -/
def fnBrOneSpec : ChangeSpec := { name := "fnBrOne", fn := fun _ => fun
  | [d] => { results := [.lit (.bool true)], args := [d] }
  | _ => none }
def fnBrOneRow : OpenClaim := { program := "ytmdomimmjjdafaa", sum := "f19cef2f0d32258b704168e14e01ed48a32b585d5d342f42932e3d3e3750cfb7", func := "loop.example/pub-g03342/laws.FnBrOne", spec := "fnBrOne", inPlace := ["math/bits.Add64", "math/bits.Sub64"], apart := false }
def FnBrOneSaid : Prop := fnBrOneRow.holds Try.pinned (OpenSpec.ofChange fnBrOneSpec)

/-- ITS FALSE NEIGHBOUR: 'it returns false'. Refute it at one input. -/
def fnBrOneWrong : ChangeSpec := { name := "fnBrOne", fn := fun _ => fun
  | [d] => { results := [.lit (.bool false)], args := [d] }
  | _ => none }
def FnBrOneWrongFalsely : Prop := fnBrOneRow.holds Try.pinned (OpenSpec.ofChange fnBrOneWrong)

/-- 'laws.FnBrVecScale': WHATEVER THE INPUT: true; the input reads as it did. -/
def fnBrVecScaleSpec : ChangeSpec := { name := "fnBrVecScale", fn := fun _ => fun
  | [d1, d2] => { results := [.lit (.bool true)], args := [d1, d2] }
  | _ => none }
def fnBrVecScaleRow : OpenClaim := { program := "ytmdomimmjjdafaa", sum := "f19cef2f0d32258b704168e14e01ed48a32b585d5d342f42932e3d3e3750cfb7", func := "loop.example/pub-g03342/laws.FnBrVecScale", spec := "fnBrVecScale", inPlace := ["math/bits.Add64", "math/bits.Sub64"], apart := false }
def FnBrVecScaleSaid : Prop := fnBrVecScaleRow.holds Try.pinned (OpenSpec.ofChange fnBrVecScaleSpec)

/-- ITS FALSE NEIGHBOUR: 'it returns false'. Refute it at one input. -/
def fnBrVecScaleWrong : ChangeSpec := { name := "fnBrVecScale", fn := fun _ => fun
  | [d1, d2] => { results := [.lit (.bool false)], args := [d1, d2] }
  | _ => none }
def FnBrVecScaleWrongFalsely : Prop := fnBrVecScaleRow.holds Try.pinned (OpenSpec.ofChange fnBrVecScaleWrong)

/- THE SECOND FORM. 'bulk': how many values and letters a reading holds, each counted each time it is reached (what is shared counts as often as it is met; a slice's spare places count too). A statement '..UptoSaid' is the law's where the arguments, and the package variables that the reading takes, are together of bulk at most 1048576: NARROWER than '..Said'. Prove '..Said' where nothing that the law and all that it calls make is longer than what came in: it says more and counts as full. Else prove '..UptoSaid'. A law counts once. -/
mutual
def uptoBulk {H : Type} : DataW H → Nat
  | .lit (.string bytes) => bytes.length + 1
  | .lit _ => 1
  | .nil => 1
  | .ptr d => uptoBulk d + 1
  | .slice elems spare => uptoBulkAll elems + uptoBulkAll spare + 1
  | .agg parts => uptoBulkAll parts + 1
  | .iface _ d => uptoBulk d + 1
  | .map entries => uptoBulkEntries entries + 1
  | .held _ => 1
def uptoBulkAll {H : Type} : List (DataW H) → Nat
  | [] => 0
  | d :: r => uptoBulk d + uptoBulkAll r
def uptoBulkEntries {H : Type} : List (Lit × DataW H) → Nat
  | [] => 0
  | x :: r => uptoBulkEntry x + uptoBulkEntries r
def uptoBulkEntry {H : Type} : Lit × DataW H → Nat
  | (.string bytes, d) => bytes.length + uptoBulk d + 1
  | (_, d) => uptoBulk d + 1
 end
def uptoSmall : (H : Type) → List (DataW H) → Bool := fun _ ds => decide (uptoBulkAll ds ≤ 1048576)
def OpenSpec.upto (s : _root_.Go.ChangeSpec) : _root_.Go.OpenSpec := { _root_.Go.OpenSpec.ofChange s with cond := some uptoSmall }

/-- 'laws.FnBrMul', WHERE WHAT IT READS IS OF BULK AT MOST 1048576: true; the input reads as it did. -/
def fnBrMulUptoRow : OpenClaim := { program := "ytmdomimmjjdafaa", sum := "f19cef2f0d32258b704168e14e01ed48a32b585d5d342f42932e3d3e3750cfb7", func := "loop.example/pub-g03342/laws.FnBrMul", spec := "fnBrMul", inPlace := ["math/bits.Add64", "math/bits.Sub64"], apart := false, narrowed := true }
def FnBrMulUptoSaid : Prop := fnBrMulUptoRow.holds Try.pinned (OpenSpec.upto fnBrMulSpec)

/-- 'laws.FnBrMulGroup', WHERE WHAT IT READS IS OF BULK AT MOST 1048576: true; the input reads as it did. -/
def fnBrMulGroupUptoRow : OpenClaim := { program := "ytmdomimmjjdafaa", sum := "f19cef2f0d32258b704168e14e01ed48a32b585d5d342f42932e3d3e3750cfb7", func := "loop.example/pub-g03342/laws.FnBrMulGroup", spec := "fnBrMulGroup", inPlace := ["math/bits.Add64", "math/bits.Sub64"], apart := false, narrowed := true }
def FnBrMulGroupUptoSaid : Prop := fnBrMulGroupUptoRow.holds Try.pinned (OpenSpec.upto fnBrMulGroupSpec)

/-- 'laws.FnBrOne', WHERE WHAT IT READS IS OF BULK AT MOST 1048576: true; the input reads as it did. -/
def fnBrOneUptoRow : OpenClaim := { program := "ytmdomimmjjdafaa", sum := "f19cef2f0d32258b704168e14e01ed48a32b585d5d342f42932e3d3e3750cfb7", func := "loop.example/pub-g03342/laws.FnBrOne", spec := "fnBrOne", inPlace := ["math/bits.Add64", "math/bits.Sub64"], apart := false, narrowed := true }
def FnBrOneUptoSaid : Prop := fnBrOneUptoRow.holds Try.pinned (OpenSpec.upto fnBrOneSpec)

/-- 'laws.FnBrVecScale', WHERE WHAT IT READS IS OF BULK AT MOST 1048576: true; the input reads as it did. -/
def fnBrVecScaleUptoRow : OpenClaim := { program := "ytmdomimmjjdafaa", sum := "f19cef2f0d32258b704168e14e01ed48a32b585d5d342f42932e3d3e3750cfb7", func := "loop.example/pub-g03342/laws.FnBrVecScale", spec := "fnBrVecScale", inPlace := ["math/bits.Add64", "math/bits.Sub64"], apart := false, narrowed := true }
def FnBrVecScaleUptoSaid : Prop := fnBrVecScaleUptoRow.holds Try.pinned (OpenSpec.upto fnBrVecScaleSpec)

end Rows
end Go.Proofs.Ytmdomimmjjdafaa
