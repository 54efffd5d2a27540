/-
  No cell of these rows narrows 'for every input' (looked for: loops, veiled, ifaces, maps, wideKeys, modest, calm, conditions, laid).
  DERIVED. THE GIVEN ROWS OF THIS SEAT. 3 by the template 'for every input the law returns true; each argument reads behind the call as it read before'; 0 by the template 'total and deterministic' (their statements: YtmnenhkjdhbjmaaTotals.lean).
  GIVEN WITH THE SEED: the statements are not yours to turn. If you find one false, say at which input.
  Laid BY PROGRAM, IN A SANDBOX (cutbox-rows.mjs): the forced cells as the released guide's own fill.sh prints them over the translation a6e640a88971fe2b… (all of the seat's roots in one cut). By AI agents, Wed Nov 11 2026. No macro, syntax, notation, axiom, sorry.
-/
import Derived.Test.YtmnenhkjdhbjmaaChecked
import GoSem.Claim
import GoSem.ClaimJoined
import GoSem.ClaimMapViews
import Derived.JoinedTies
import Derived.KernelRfl
namespace Go.Proofs.Ytmnenhkjdhbjmaa
/- THE CELL 'sum', in the pinned program and in every row, IS THE sha256 OF THE DUMP (.gsa) THAT YtmnenhkjdhbjmaaProg.lean LOADS. Nothing in Lean hashes anything: it is a label: what it is worth is what the hold of that sum in a sandbox is worth. -/
noncomputable def Try.pinned : Pinned := { name := "ytmnenhkjdhbjmaa", sum := "a6e640a88971fe2b340c746d6475152cb85fbddf75480c0c1c519625537bcd4c", checked := Try.checked }
namespace Rows
def none {H : Type} : Left H := { results := [], args := [] }

/-- 'laws.FnNrInverse': WHATEVER THE INPUT: true; the input reads as it did. -/
def fnNrInverseSpec : ChangeSpec := { name := "fnNrInverse", fn := fun _ => fun
  | [d] => { results := [.lit (.bool true)], args := [d] }
  | _ => none }
def fnNrInverseRow : OpenClaim := { program := "ytmnenhkjdhbjmaa", sum := "a6e640a88971fe2b340c746d6475152cb85fbddf75480c0c1c519625537bcd4c", func := "loop.example/pub-g03342/laws.FnNrInverse", spec := "fnNrInverse", inPlace := ["math/bits.Sub64", "math/bits.Add64"], apart := false }
def FnNrInverseSaid : Prop := fnNrInverseRow.holds Try.pinned (OpenSpec.ofChange fnNrInverseSpec)

/-- ITS FALSE NEIGHBOUR: 'it returns false'. Refute it at one input. -/
def fnNrInverseWrong : ChangeSpec := { name := "fnNrInverse", fn := fun _ => fun
  | [d] => { results := [.lit (.bool false)], args := [d] }
  | _ => none }
def FnNrInverseWrongFalsely : Prop := fnNrInverseRow.holds Try.pinned (OpenSpec.ofChange fnNrInverseWrong)

/-- 'laws.FnNrBatchInvert': WHATEVER THE INPUT: true; the input reads as it did. -/
def fnNrBatchInvertSpec : ChangeSpec := { name := "fnNrBatchInvert", fn := fun _ => fun
  | [d] => { results := [.lit (.bool true)], args := [d] }
  | _ => none }
def fnNrBatchInvertRow : OpenClaim := { program := "ytmnenhkjdhbjmaa", sum := "a6e640a88971fe2b340c746d6475152cb85fbddf75480c0c1c519625537bcd4c", func := "loop.example/pub-g03342/laws.FnNrBatchInvert", spec := "fnNrBatchInvert", inPlace := ["math/bits.Add64", "math/bits.Sub64"], apart := false }
def FnNrBatchInvertSaid : Prop := fnNrBatchInvertRow.holds Try.pinned (OpenSpec.ofChange fnNrBatchInvertSpec)

/-- ITS FALSE NEIGHBOUR: 'it returns false'. Refute it at one input. -/
def fnNrBatchInvertWrong : ChangeSpec := { name := "fnNrBatchInvert", fn := fun _ => fun
  | [d] => { results := [.lit (.bool false)], args := [d] }
  | _ => none }
def FnNrBatchInvertWrongFalsely : Prop := fnNrBatchInvertRow.holds Try.pinned (OpenSpec.ofChange fnNrBatchInvertWrong)

/-- 'laws.FnNrLegendreMul': WHATEVER THE INPUT: true; the input reads as it did. -/
def fnNrLegendreMulSpec : ChangeSpec := { name := "fnNrLegendreMul", fn := fun _ => fun
  | [d1, d2] => { results := [.lit (.bool true)], args := [d1, d2] }
  | _ => none }
def fnNrLegendreMulRow : OpenClaim := { program := "ytmnenhkjdhbjmaa", sum := "a6e640a88971fe2b340c746d6475152cb85fbddf75480c0c1c519625537bcd4c", func := "loop.example/pub-g03342/laws.FnNrLegendreMul", spec := "fnNrLegendreMul", inPlace := ["math/bits.Add64", "math/bits.Sub64"], apart := false }
def FnNrLegendreMulSaid : Prop := fnNrLegendreMulRow.holds Try.pinned (OpenSpec.ofChange fnNrLegendreMulSpec)

/-- ITS FALSE NEIGHBOUR: 'it returns false'. Refute it at one input. -/
def fnNrLegendreMulWrong : ChangeSpec := { name := "fnNrLegendreMul", fn := fun _ => fun
  | [d1, d2] => { results := [.lit (.bool false)], args := [d1, d2] }
  | _ => none }
def FnNrLegendreMulWrongFalsely : Prop := fnNrLegendreMulRow.holds Try.pinned (OpenSpec.ofChange fnNrLegendreMulWrong)

/- THE SECOND FORM. 'bulk': how many values and letters a reading holds, each counted each time it is reached (what is shared counts as often as it is met; a slice's spare places count too). A statement '..UptoSaid' is the law's where the arguments, and the package variables that the reading takes, are together of bulk at most 1048576: NARROWER than '..Said'. Prove '..Said' where nothing that the law and all that it calls make is longer than what came in: it says more and counts as full. Else prove '..UptoSaid'. A law counts once. -/
mutual
def uptoBulk {H : Type} : DataW H → Nat
  | .lit (.string bytes) => bytes.length + 1
  | .lit _ => 1
  | .nil => 1
  | .ptr d => uptoBulk d + 1
  | .slice elems spare => uptoBulkAll elems + uptoBulkAll spare + 1
  | .agg parts => uptoBulkAll parts + 1
  | .iface _ d => uptoBulk d + 1
  | .map entries => uptoBulkEntries entries + 1
  | .held _ => 1
def uptoBulkAll {H : Type} : List (DataW H) → Nat
  | [] => 0
  | d :: r => uptoBulk d + uptoBulkAll r
def uptoBulkEntries {H : Type} : List (Lit × DataW H) → Nat
  | [] => 0
  | x :: r => uptoBulkEntry x + uptoBulkEntries r
def uptoBulkEntry {H : Type} : Lit × DataW H → Nat
  | (.string bytes, d) => bytes.length + uptoBulk d + 1
  | (_, d) => uptoBulk d + 1
 end
def uptoSmall : (H : Type) → List (DataW H) → Bool := fun _ ds => decide (uptoBulkAll ds ≤ 1048576)
def OpenSpec.upto (s : _root_.Go.ChangeSpec) : _root_.Go.OpenSpec := { _root_.Go.OpenSpec.ofChange s with cond := some uptoSmall }

/-- 'laws.FnNrInverse', WHERE WHAT IT READS IS OF BULK AT MOST 1048576: true; the input reads as it did. -/
def fnNrInverseUptoRow : OpenClaim := { program := "ytmnenhkjdhbjmaa", sum := "a6e640a88971fe2b340c746d6475152cb85fbddf75480c0c1c519625537bcd4c", func := "loop.example/pub-g03342/laws.FnNrInverse", spec := "fnNrInverse", inPlace := ["math/bits.Sub64", "math/bits.Add64"], apart := false, narrowed := true }
def FnNrInverseUptoSaid : Prop := fnNrInverseUptoRow.holds Try.pinned (OpenSpec.upto fnNrInverseSpec)

/-- 'laws.FnNrBatchInvert', WHERE WHAT IT READS IS OF BULK AT MOST 1048576: true; the input reads as it did. -/
def fnNrBatchInvertUptoRow : OpenClaim := { program := "ytmnenhkjdhbjmaa", sum := "a6e640a88971fe2b340c746d6475152cb85fbddf75480c0c1c519625537bcd4c", func := "loop.example/pub-g03342/laws.FnNrBatchInvert", spec := "fnNrBatchInvert", inPlace := ["math/bits.Add64", "math/bits.Sub64"], apart := false, narrowed := true }
def FnNrBatchInvertUptoSaid : Prop := fnNrBatchInvertUptoRow.holds Try.pinned (OpenSpec.upto fnNrBatchInvertSpec)

/-- 'laws.FnNrLegendreMul', WHERE WHAT IT READS IS OF BULK AT MOST 1048576: true; the input reads as it did. -/
def fnNrLegendreMulUptoRow : OpenClaim := { program := "ytmnenhkjdhbjmaa", sum := "a6e640a88971fe2b340c746d6475152cb85fbddf75480c0c1c519625537bcd4c", func := "loop.example/pub-g03342/laws.FnNrLegendreMul", spec := "fnNrLegendreMul", inPlace := ["math/bits.Add64", "math/bits.Sub64"], apart := false, narrowed := true }
def FnNrLegendreMulUptoSaid : Prop := fnNrLegendreMulUptoRow.holds Try.pinned (OpenSpec.upto fnNrLegendreMulSpec)

end Rows
end Go.Proofs.Ytmnenhkjdhbjmaa
