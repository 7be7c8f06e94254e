/-
  No cell of these rows narrows 'for every input' (looked for: loops, veiled, ifaces, maps, wideKeys, modest, calm, conditions, laid).
  DERIVED. THE GIVEN ROWS OF THIS SEAT. 4 by the template 'for every input the law returns true; each argument reads behind the call as it read before'; 0 by the template 'total and deterministic' (their statements: YtefbplajjnmcpaaTotals.lean).
  GIVEN WITH THE SEED: the statements are not yours to turn. If you find one false, say at which input.
  Laid BY PROGRAM, IN A SANDBOX (cutbox-rows.mjs): the forced cells as the released guide's own fill.sh prints them over the translation 6f35d1522a69a375… (all of the seat's roots in one cut). By AI agents, Wed Nov 11 2026. No macro, syntax, notation, axiom, sorry.
-/
import Derived.Test.YtefbplajjnmcpaaChecked
import GoSem.Claim
import GoSem.ClaimJoined
import GoSem.ClaimMapViews
import Derived.JoinedTies
import Derived.KernelRfl
namespace Go.Proofs.Ytefbplajjnmcpaa
/- THE CELL 'sum', in the pinned program and in every row, IS THE sha256 OF THE DUMP (.gsa) THAT YtefbplajjnmcpaaProg.lean LOADS. Nothing in Lean hashes anything: it is a label: what it is worth is what the hold of that sum in a sandbox is worth. -/
noncomputable def Try.pinned : Pinned := { name := "ytefbplajjnmcpaa", sum := "6f35d1522a69a37558b7f41b237b64961dca27f193fdb4df64b92a43b12a35c8", checked := Try.checked }
namespace Rows
def none {H : Type} : Left H := { results := [], args := [] }

/-- 'laws.FnNpMul': WHATEVER THE INPUT: true; the input reads as it did. -/
def fnNpMulSpec : ChangeSpec := { name := "fnNpMul", fn := fun _ => fun
  | [d1, d2] => { results := [.lit (.bool true)], args := [d1, d2] }
  | _ => none }
def fnNpMulRow : OpenClaim := { program := "ytefbplajjnmcpaa", sum := "6f35d1522a69a37558b7f41b237b64961dca27f193fdb4df64b92a43b12a35c8", func := "loop.example/pub-g03342/laws.FnNpMul", spec := "fnNpMul", inPlace := ["math/bits.Add64", "math/bits.Sub64"], apart := false }
def FnNpMulSaid : Prop := fnNpMulRow.holds Try.pinned (OpenSpec.ofChange fnNpMulSpec)

/-- ITS FALSE NEIGHBOUR: 'it returns false'. Refute it at one input. -/
def fnNpMulWrong : ChangeSpec := { name := "fnNpMul", fn := fun _ => fun
  | [d1, d2] => { results := [.lit (.bool false)], args := [d1, d2] }
  | _ => none }
def FnNpMulWrongFalsely : Prop := fnNpMulRow.holds Try.pinned (OpenSpec.ofChange fnNpMulWrong)

/-- 'laws.FnNpMulGroup': WHATEVER THE INPUT: true; the input reads as it did. -/
def fnNpMulGroupSpec : ChangeSpec := { name := "fnNpMulGroup", fn := fun _ => fun
  | [d1, d2, d3] => { results := [.lit (.bool true)], args := [d1, d2, d3] }
  | _ => none }
def fnNpMulGroupRow : OpenClaim := { program := "ytefbplajjnmcpaa", sum := "6f35d1522a69a37558b7f41b237b64961dca27f193fdb4df64b92a43b12a35c8", func := "loop.example/pub-g03342/laws.FnNpMulGroup", spec := "fnNpMulGroup", inPlace := ["math/bits.Add64", "math/bits.Sub64"], apart := false }
def FnNpMulGroupSaid : Prop := fnNpMulGroupRow.holds Try.pinned (OpenSpec.ofChange fnNpMulGroupSpec)

/-- ITS FALSE NEIGHBOUR: 'it returns false'. Refute it at one input. -/
def fnNpMulGroupWrong : ChangeSpec := { name := "fnNpMulGroup", fn := fun _ => fun
  | [d1, d2, d3] => { results := [.lit (.bool false)], args := [d1, d2, d3] }
  | _ => none }
def FnNpMulGroupWrongFalsely : Prop := fnNpMulGroupRow.holds Try.pinned (OpenSpec.ofChange fnNpMulGroupWrong)

/-- 'laws.FnNpOne': WHATEVER THE INPUT: true; the input reads as it did. -/
def fnNpOneSpec : ChangeSpec := { name := "fnNpOne", fn := fun _ => fun
  | [d] => { results := [.lit (.bool true)], args := [d] }
  | _ => none }
def fnNpOneRow : OpenClaim := { program := "ytefbplajjnmcpaa", sum := "6f35d1522a69a37558b7f41b237b64961dca27f193fdb4df64b92a43b12a35c8", func := "loop.example/pub-g03342/laws.FnNpOne", spec := "fnNpOne", inPlace := ["math/bits.Add64", "math/bits.Sub64"], apart := false }
def FnNpOneSaid : Prop := fnNpOneRow.holds Try.pinned (OpenSpec.ofChange fnNpOneSpec)

/-- ITS FALSE NEIGHBOUR: 'it returns false'. Refute it at one input. -/
def fnNpOneWrong : ChangeSpec := { name := "fnNpOne", fn := fun _ => fun
  | [d] => { results := [.lit (.bool false)], args := [d] }
  | _ => none }
def FnNpOneWrongFalsely : Prop := fnNpOneRow.holds Try.pinned (OpenSpec.ofChange fnNpOneWrong)

/-- 'laws.FnNpVecScale': WHATEVER THE INPUT: true; the input reads as it did. -/
def fnNpVecScaleSpec : ChangeSpec := { name := "fnNpVecScale", fn := fun _ => fun
  | [d1, d2] => { results := [.lit (.bool true)], args := [d1, d2] }
  | _ => none }
def fnNpVecScaleRow : OpenClaim := { program := "ytefbplajjnmcpaa", sum := "6f35d1522a69a37558b7f41b237b64961dca27f193fdb4df64b92a43b12a35c8", func := "loop.example/pub-g03342/laws.FnNpVecScale", spec := "fnNpVecScale", inPlace := ["math/bits.Add64", "math/bits.Sub64"], apart := false }
def FnNpVecScaleSaid : Prop := fnNpVecScaleRow.holds Try.pinned (OpenSpec.ofChange fnNpVecScaleSpec)

/-- ITS FALSE NEIGHBOUR: 'it returns false'. Refute it at one input. -/
def fnNpVecScaleWrong : ChangeSpec := { name := "fnNpVecScale", fn := fun _ => fun
  | [d1, d2] => { results := [.lit (.bool false)], args := [d1, d2] }
  | _ => none }
def FnNpVecScaleWrongFalsely : Prop := fnNpVecScaleRow.holds Try.pinned (OpenSpec.ofChange fnNpVecScaleWrong)

/- THE SECOND FORM. 'bulk': how many values and letters a reading holds, each counted each time it is reached (what is shared counts as often as it is met; a slice's spare places count too). A statement '..UptoSaid' is the law's where the arguments, and the package variables that the reading takes, are together of bulk at most 1048576: NARROWER than '..Said'. Prove '..Said' where nothing that the law and all that it calls make is longer than what came in: it says more and counts as full. Else prove '..UptoSaid'. A law counts once. -/
mutual
def uptoBulk {H : Type} : DataW H → Nat
  | .lit (.string bytes) => bytes.length + 1
  | .lit _ => 1
  | .nil => 1
  | .ptr d => uptoBulk d + 1
  | .slice elems spare => uptoBulkAll elems + uptoBulkAll spare + 1
  | .agg parts => uptoBulkAll parts + 1
  | .iface _ d => uptoBulk d + 1
  | .map entries => uptoBulkEntries entries + 1
  | .held _ => 1
def uptoBulkAll {H : Type} : List (DataW H) → Nat
  | [] => 0
  | d :: r => uptoBulk d + uptoBulkAll r
def uptoBulkEntries {H : Type} : List (Lit × DataW H) → Nat
  | [] => 0
  | x :: r => uptoBulkEntry x + uptoBulkEntries r
def uptoBulkEntry {H : Type} : Lit × DataW H → Nat
  | (.string bytes, d) => bytes.length + uptoBulk d + 1
  | (_, d) => uptoBulk d + 1
 end
def uptoSmall : (H : Type) → List (DataW H) → Bool := fun _ ds => decide (uptoBulkAll ds ≤ 1048576)
def OpenSpec.upto (s : _root_.Go.ChangeSpec) : _root_.Go.OpenSpec := { _root_.Go.OpenSpec.ofChange s with cond := some uptoSmall }

/-- 'laws.FnNpMul', WHERE WHAT IT READS IS OF BULK AT MOST 1048576: true; the input reads as it did. -/
def fnNpMulUptoRow : OpenClaim := { program := "ytefbplajjnmcpaa", sum := "6f35d1522a69a37558b7f41b237b64961dca27f193fdb4df64b92a43b12a35c8", func := "loop.example/pub-g03342/laws.FnNpMul", spec := "fnNpMul", inPlace := ["math/bits.Add64", "math/bits.Sub64"], apart := false, narrowed := true }
def FnNpMulUptoSaid : Prop := fnNpMulUptoRow.holds Try.pinned (OpenSpec.upto fnNpMulSpec)

/-- 'laws.FnNpMulGroup', WHERE WHAT IT READS IS OF BULK AT MOST 1048576: true; the input reads as it did. -/
def fnNpMulGroupUptoRow : OpenClaim := { program := "ytefbplajjnmcpaa", sum := "6f35d1522a69a37558b7f41b237b64961dca27f193fdb4df64b92a43b12a35c8", func := "loop.example/pub-g03342/laws.FnNpMulGroup", spec := "fnNpMulGroup", inPlace := ["math/bits.Add64", "math/bits.Sub64"], apart := false, narrowed := true }
def FnNpMulGroupUptoSaid : Prop := fnNpMulGroupUptoRow.holds Try.pinned (OpenSpec.upto fnNpMulGroupSpec)

/-- 'laws.FnNpOne', WHERE WHAT IT READS IS OF BULK AT MOST 1048576: true; the input reads as it did. -/
def fnNpOneUptoRow : OpenClaim := { program := "ytefbplajjnmcpaa", sum := "6f35d1522a69a37558b7f41b237b64961dca27f193fdb4df64b92a43b12a35c8", func := "loop.example/pub-g03342/laws.FnNpOne", spec := "fnNpOne", inPlace := ["math/bits.Add64", "math/bits.Sub64"], apart := false, narrowed := true }
def FnNpOneUptoSaid : Prop := fnNpOneUptoRow.holds Try.pinned (OpenSpec.upto fnNpOneSpec)

/-- 'laws.FnNpVecScale', WHERE WHAT IT READS IS OF BULK AT MOST 1048576: true; the input reads as it did. -/
def fnNpVecScaleUptoRow : OpenClaim := { program := "ytefbplajjnmcpaa", sum := "6f35d1522a69a37558b7f41b237b64961dca27f193fdb4df64b92a43b12a35c8", func := "loop.example/pub-g03342/laws.FnNpVecScale", spec := "fnNpVecScale", inPlace := ["math/bits.Add64", "math/bits.Sub64"], apart := false, narrowed := true }
def FnNpVecScaleUptoSaid : Prop := fnNpVecScaleUptoRow.holds Try.pinned (OpenSpec.upto fnNpVecScaleSpec)

end Rows
end Go.Proofs.Ytefbplajjnmcpaa
