/-
  No cell of these rows narrows 'for every input' (looked for: loops, veiled, ifaces, maps, wideKeys, modest, calm, conditions, laid).
  DERIVED. THE GIVEN ROWS OF THIS SEAT. 3 by the template 'for every input the law returns true; each argument reads behind the call as it read before'; 0 by the template 'total and deterministic' (their statements: YtihokhfjbcjhdaaTotals.lean).
  GIVEN WITH THE SEED: the statements are not yours to turn. If you find one false, say at which input.
  Laid BY PROGRAM, IN A SANDBOX (cutbox-rows.mjs): the forced cells as the released guide's own fill.sh prints them over the translation 5f0aa6f3ba102fb0… (all of the seat's roots in one cut). By AI agents, Wed Nov 11 2026. No macro, syntax, notation, axiom, sorry.
-/
import Derived.Test.YtihokhfjbcjhdaaChecked
import GoSem.Claim
import GoSem.ClaimJoined
import GoSem.ClaimMapViews
import Derived.JoinedTies
import Derived.KernelRfl
namespace Go.Proofs.Ytihokhfjbcjhdaa
/- THE CELL 'sum', in the pinned program and in every row, IS THE sha256 OF THE DUMP (.gsa) THAT YtihokhfjbcjhdaaProg.lean LOADS. Nothing in Lean hashes anything: it is a label: what it is worth is what the hold of that sum in a sandbox is worth. -/
noncomputable def Try.pinned : Pinned := { name := "ytihokhfjbcjhdaa", sum := "5f0aa6f3ba102fb002b567d1919ef8d053636f6956de059ad2fbce379c04f204", checked := Try.checked }
namespace Rows
def none {H : Type} : Left H := { results := [], args := [] }

/-- 'laws.FnBrInverse': WHATEVER THE INPUT: true; the input reads as it did. -/
def fnBrInverseSpec : ChangeSpec := { name := "fnBrInverse", fn := fun _ => fun
  | [d] => { results := [.lit (.bool true)], args := [d] }
  | _ => none }
def fnBrInverseRow : OpenClaim := { program := "ytihokhfjbcjhdaa", sum := "5f0aa6f3ba102fb002b567d1919ef8d053636f6956de059ad2fbce379c04f204", func := "loop.example/pub-g03342/laws.FnBrInverse", spec := "fnBrInverse", inPlace := ["math/bits.Sub64", "math/bits.Add64"], apart := false }
def FnBrInverseSaid : Prop := fnBrInverseRow.holds Try.pinned (OpenSpec.ofChange fnBrInverseSpec)

/-- ITS FALSE NEIGHBOUR: 'it returns false'. Refute it at one input. -/
def fnBrInverseWrong : ChangeSpec := { name := "fnBrInverse", fn := fun _ => fun
  | [d] => { results := [.lit (.bool false)], args := [d] }
  | _ => none }
def FnBrInverseWrongFalsely : Prop := fnBrInverseRow.holds Try.pinned (OpenSpec.ofChange fnBrInverseWrong)

/-- 'laws.FnBrBatchInvert': WHATEVER THE INPUT: true; the input reads as it did. -/
def fnBrBatchInvertSpec : ChangeSpec := { name := "fnBrBatchInvert", fn := fun _ => fun
  | [d] => { results := [.lit (.bool true)], args := [d] }
  | _ => none }
def fnBrBatchInvertRow : OpenClaim := { program := "ytihokhfjbcjhdaa", sum := "5f0aa6f3ba102fb002b567d1919ef8d053636f6956de059ad2fbce379c04f204", func := "loop.example/pub-g03342/laws.FnBrBatchInvert", spec := "fnBrBatchInvert", inPlace := ["math/bits.Add64", "math/bits.Sub64"], apart := false }
def FnBrBatchInvertSaid : Prop := fnBrBatchInvertRow.holds Try.pinned (OpenSpec.ofChange fnBrBatchInvertSpec)

/-- ITS FALSE NEIGHBOUR: 'it returns false'. Refute it at one input. -/
def fnBrBatchInvertWrong : ChangeSpec := { name := "fnBrBatchInvert", fn := fun _ => fun
  | [d] => { results := [.lit (.bool false)], args := [d] }
  | _ => none }
def FnBrBatchInvertWrongFalsely : Prop := fnBrBatchInvertRow.holds Try.pinned (OpenSpec.ofChange fnBrBatchInvertWrong)

/-- 'laws.FnBrLegendreMul': WHATEVER THE INPUT: true; the input reads as it did. -/
def fnBrLegendreMulSpec : ChangeSpec := { name := "fnBrLegendreMul", fn := fun _ => fun
  | [d1, d2] => { results := [.lit (.bool true)], args := [d1, d2] }
  | _ => none }
def fnBrLegendreMulRow : OpenClaim := { program := "ytihokhfjbcjhdaa", sum := "5f0aa6f3ba102fb002b567d1919ef8d053636f6956de059ad2fbce379c04f204", func := "loop.example/pub-g03342/laws.FnBrLegendreMul", spec := "fnBrLegendreMul", inPlace := ["math/bits.Add64", "math/bits.Sub64"], apart := false }
def FnBrLegendreMulSaid : Prop := fnBrLegendreMulRow.holds Try.pinned (OpenSpec.ofChange fnBrLegendreMulSpec)

/-- ITS FALSE NEIGHBOUR: 'it returns false'. Refute it at one input. -/
def fnBrLegendreMulWrong : ChangeSpec := { name := "fnBrLegendreMul", fn := fun _ => fun
  | [d1, d2] => { results := [.lit (.bool false)], args := [d1, d2] }
  | _ => none }
def FnBrLegendreMulWrongFalsely : Prop := fnBrLegendreMulRow.holds Try.pinned (OpenSpec.ofChange fnBrLegendreMulWrong)

/- THE SECOND FORM. 'bulk': how many values and letters a reading holds, each counted each time it is reached (what is shared counts as often as it is met; a slice's spare places count too). A statement '..UptoSaid' is the law's where the arguments, and the package variables that the reading takes, are together of bulk at most 1048576: NARROWER than '..Said'. Prove '..Said' where nothing that the law and all that it calls make is longer than what came in: it says more and counts as full. Else prove '..UptoSaid'. A law counts once. -/
mutual
def uptoBulk {H : Type} : DataW H → Nat
  | .lit (.string bytes) => bytes.length + 1
  | .lit _ => 1
  | .nil => 1
  | .ptr d => uptoBulk d + 1
  | .slice elems spare => uptoBulkAll elems + uptoBulkAll spare + 1
  | .agg parts => uptoBulkAll parts + 1
  | .iface _ d => uptoBulk d + 1
  | .map entries => uptoBulkEntries entries + 1
  | .held _ => 1
def uptoBulkAll {H : Type} : List (DataW H) → Nat
  | [] => 0
  | d :: r => uptoBulk d + uptoBulkAll r
def uptoBulkEntries {H : Type} : List (Lit × DataW H) → Nat
  | [] => 0
  | x :: r => uptoBulkEntry x + uptoBulkEntries r
def uptoBulkEntry {H : Type} : Lit × DataW H → Nat
  | (.string bytes, d) => bytes.length + uptoBulk d + 1
  | (_, d) => uptoBulk d + 1
 end
def uptoSmall : (H : Type) → List (DataW H) → Bool := fun _ ds => decide (uptoBulkAll ds ≤ 1048576)
def OpenSpec.upto (s : _root_.Go.ChangeSpec) : _root_.Go.OpenSpec := { _root_.Go.OpenSpec.ofChange s with cond := some uptoSmall }

/-- 'laws.FnBrInverse', WHERE WHAT IT READS IS OF BULK AT MOST 1048576: true; the input reads as it did. -/
def fnBrInverseUptoRow : OpenClaim := { program := "ytihokhfjbcjhdaa", sum := "5f0aa6f3ba102fb002b567d1919ef8d053636f6956de059ad2fbce379c04f204", func := "loop.example/pub-g03342/laws.FnBrInverse", spec := "fnBrInverse", inPlace := ["math/bits.Sub64", "math/bits.Add64"], apart := false, narrowed := true }
def FnBrInverseUptoSaid : Prop := fnBrInverseUptoRow.holds Try.pinned (OpenSpec.upto fnBrInverseSpec)

/-- 'laws.FnBrBatchInvert', WHERE WHAT IT READS IS OF BULK AT MOST 1048576: true; the input reads as it did. -/
def fnBrBatchInvertUptoRow : OpenClaim := { program := "ytihokhfjbcjhdaa", sum := "5f0aa6f3ba102fb002b567d1919ef8d053636f6956de059ad2fbce379c04f204", func := "loop.example/pub-g03342/laws.FnBrBatchInvert", spec := "fnBrBatchInvert", inPlace := ["math/bits.Add64", "math/bits.Sub64"], apart := false, narrowed := true }
def FnBrBatchInvertUptoSaid : Prop := fnBrBatchInvertUptoRow.holds Try.pinned (OpenSpec.upto fnBrBatchInvertSpec)

/-- 'laws.FnBrLegendreMul', WHERE WHAT IT READS IS OF BULK AT MOST 1048576: true; the input reads as it did. -/
def fnBrLegendreMulUptoRow : OpenClaim := { program := "ytihokhfjbcjhdaa", sum := "5f0aa6f3ba102fb002b567d1919ef8d053636f6956de059ad2fbce379c04f204", func := "loop.example/pub-g03342/laws.FnBrLegendreMul", spec := "fnBrLegendreMul", inPlace := ["math/bits.Add64", "math/bits.Sub64"], apart := false, narrowed := true }
def FnBrLegendreMulUptoSaid : Prop := fnBrLegendreMulUptoRow.holds Try.pinned (OpenSpec.upto fnBrLegendreMulSpec)

end Rows
end Go.Proofs.Ytihokhfjbcjhdaa
