/-
  No cell of these rows narrows 'for every input' (looked for: loops, veiled, ifaces, maps, wideKeys, modest, calm, conditions, laid).
  DERIVED. THE GIVEN ROWS OF THIS SEAT. 3 by the template 'for every input the law returns true; each argument reads behind the call as it read before'; 0 by the template 'total and deterministic' (their statements: YtadknagkpnaehaaTotals.lean).
  GIVEN WITH THE SEED: the statements are not yours to turn. If you find one false, say at which input.
  Laid BY PROGRAM, IN A SANDBOX (cutbox-rows.mjs): the forced cells as the released guide's own fill.sh prints them over the translation 09762f67de3c2da8… (all of the seat's roots in one cut). By AI agents, Wed Nov 11 2026. No macro, syntax, notation, axiom, sorry.
-/
import Derived.Test.YtadknagkpnaehaaChecked
import GoSem.Claim
import GoSem.ClaimJoined
import GoSem.ClaimMapViews
import Derived.JoinedTies
import Derived.KernelRfl
namespace Go.Proofs.Ytadknagkpnaehaa
/- THE CELL 'sum', in the pinned program and in every row, IS THE sha256 OF THE DUMP (.gsa) THAT YtadknagkpnaehaaProg.lean LOADS. Nothing in Lean hashes anything: it is a label: what it is worth is what the hold of that sum in a sandbox is worth. -/
noncomputable def Try.pinned : Pinned := { name := "ytadknagkpnaehaa", sum := "09762f67de3c2da8c00fccceb1455ee31e46638bb1b2fee7f5dd1634ffacefe0", checked := Try.checked }
namespace Rows
def none {H : Type} : Left H := { results := [], args := [] }

/-- 'laws.FnNpInverse': WHATEVER THE INPUT: true; the input reads as it did. -/
def fnNpInverseSpec : ChangeSpec := { name := "fnNpInverse", fn := fun _ => fun
  | [d] => { results := [.lit (.bool true)], args := [d] }
  | _ => none }
def fnNpInverseRow : OpenClaim := { program := "ytadknagkpnaehaa", sum := "09762f67de3c2da8c00fccceb1455ee31e46638bb1b2fee7f5dd1634ffacefe0", func := "loop.example/pub-g03342/laws.FnNpInverse", spec := "fnNpInverse", inPlace := ["math/bits.Sub64", "math/bits.Add64"], apart := false }
def FnNpInverseSaid : Prop := fnNpInverseRow.holds Try.pinned (OpenSpec.ofChange fnNpInverseSpec)

/-- ITS FALSE NEIGHBOUR: 'it returns false'. Refute it at one input. -/
def fnNpInverseWrong : ChangeSpec := { name := "fnNpInverse", fn := fun _ => fun
  | [d] => { results := [.lit (.bool false)], args := [d] }
  | _ => none }
def FnNpInverseWrongFalsely : Prop := fnNpInverseRow.holds Try.pinned (OpenSpec.ofChange fnNpInverseWrong)

/-- 'laws.FnNpBatchInvert': WHATEVER THE INPUT: true; the input reads as it did. -/
def fnNpBatchInvertSpec : ChangeSpec := { name := "fnNpBatchInvert", fn := fun _ => fun
  | [d] => { results := [.lit (.bool true)], args := [d] }
  | _ => none }
def fnNpBatchInvertRow : OpenClaim := { program := "ytadknagkpnaehaa", sum := "09762f67de3c2da8c00fccceb1455ee31e46638bb1b2fee7f5dd1634ffacefe0", func := "loop.example/pub-g03342/laws.FnNpBatchInvert", spec := "fnNpBatchInvert", inPlace := ["math/bits.Add64", "math/bits.Sub64"], apart := false }
def FnNpBatchInvertSaid : Prop := fnNpBatchInvertRow.holds Try.pinned (OpenSpec.ofChange fnNpBatchInvertSpec)

/-- ITS FALSE NEIGHBOUR: 'it returns false'. Refute it at one input. -/
def fnNpBatchInvertWrong : ChangeSpec := { name := "fnNpBatchInvert", fn := fun _ => fun
  | [d] => { results := [.lit (.bool false)], args := [d] }
  | _ => none }
def FnNpBatchInvertWrongFalsely : Prop := fnNpBatchInvertRow.holds Try.pinned (OpenSpec.ofChange fnNpBatchInvertWrong)

/-- 'laws.FnNpLegendreMul': WHATEVER THE INPUT: true; the input reads as it did. -/
def fnNpLegendreMulSpec : ChangeSpec := { name := "fnNpLegendreMul", fn := fun _ => fun
  | [d1, d2] => { results := [.lit (.bool true)], args := [d1, d2] }
  | _ => none }
def fnNpLegendreMulRow : OpenClaim := { program := "ytadknagkpnaehaa", sum := "09762f67de3c2da8c00fccceb1455ee31e46638bb1b2fee7f5dd1634ffacefe0", func := "loop.example/pub-g03342/laws.FnNpLegendreMul", spec := "fnNpLegendreMul", inPlace := ["math/bits.Add64", "math/bits.Sub64"], apart := false }
def FnNpLegendreMulSaid : Prop := fnNpLegendreMulRow.holds Try.pinned (OpenSpec.ofChange fnNpLegendreMulSpec)

/-- ITS FALSE NEIGHBOUR: 'it returns false'. Refute it at one input. -/
def fnNpLegendreMulWrong : ChangeSpec := { name := "fnNpLegendreMul", fn := fun _ => fun
  | [d1, d2] => { results := [.lit (.bool false)], args := [d1, d2] }
  | _ => none }
def FnNpLegendreMulWrongFalsely : Prop := fnNpLegendreMulRow.holds Try.pinned (OpenSpec.ofChange fnNpLegendreMulWrong)

/- THE SECOND FORM. 'bulk': how many values and letters a reading holds, each counted each time it is reached (what is shared counts as often as it is met; a slice's spare places count too). A statement '..UptoSaid' is the law's where the arguments, and the package variables that the reading takes, are together of bulk at most 1048576: NARROWER than '..Said'. Prove '..Said' where nothing that the law and all that it calls make is longer than what came in: it says more and counts as full. Else prove '..UptoSaid'. A law counts once. -/
mutual
def uptoBulk {H : Type} : DataW H → Nat
  | .lit (.string bytes) => bytes.length + 1
  | .lit _ => 1
  | .nil => 1
  | .ptr d => uptoBulk d + 1
  | .slice elems spare => uptoBulkAll elems + uptoBulkAll spare + 1
  | .agg parts => uptoBulkAll parts + 1
  | .iface _ d => uptoBulk d + 1
  | .map entries => uptoBulkEntries entries + 1
  | .held _ => 1
def uptoBulkAll {H : Type} : List (DataW H) → Nat
  | [] => 0
  | d :: r => uptoBulk d + uptoBulkAll r
def uptoBulkEntries {H : Type} : List (Lit × DataW H) → Nat
  | [] => 0
  | x :: r => uptoBulkEntry x + uptoBulkEntries r
def uptoBulkEntry {H : Type} : Lit × DataW H → Nat
  | (.string bytes, d) => bytes.length + uptoBulk d + 1
  | (_, d) => uptoBulk d + 1
 end
def uptoSmall : (H : Type) → List (DataW H) → Bool := fun _ ds => decide (uptoBulkAll ds ≤ 1048576)
def OpenSpec.upto (s : _root_.Go.ChangeSpec) : _root_.Go.OpenSpec := { _root_.Go.OpenSpec.ofChange s with cond := some uptoSmall }

/-- 'laws.FnNpInverse', WHERE WHAT IT READS IS OF BULK AT MOST 1048576: true; the input reads as it did. -/
def fnNpInverseUptoRow : OpenClaim := { program := "ytadknagkpnaehaa", sum := "09762f67de3c2da8c00fccceb1455ee31e46638bb1b2fee7f5dd1634ffacefe0", func := "loop.example/pub-g03342/laws.FnNpInverse", spec := "fnNpInverse", inPlace := ["math/bits.Sub64", "math/bits.Add64"], apart := false, narrowed := true }
def FnNpInverseUptoSaid : Prop := fnNpInverseUptoRow.holds Try.pinned (OpenSpec.upto fnNpInverseSpec)

/-- 'laws.FnNpBatchInvert', WHERE WHAT IT READS IS OF BULK AT MOST 1048576: true; the input reads as it did. -/
def fnNpBatchInvertUptoRow : OpenClaim := { program := "ytadknagkpnaehaa", sum := "09762f67de3c2da8c00fccceb1455ee31e46638bb1b2fee7f5dd1634ffacefe0", func := "loop.example/pub-g03342/laws.FnNpBatchInvert", spec := "fnNpBatchInvert", inPlace := ["math/bits.Add64", "math/bits.Sub64"], apart := false, narrowed := true }
def FnNpBatchInvertUptoSaid : Prop := fnNpBatchInvertUptoRow.holds Try.pinned (OpenSpec.upto fnNpBatchInvertSpec)

/-- 'laws.FnNpLegendreMul', WHERE WHAT IT READS IS OF BULK AT MOST 1048576: true; the input reads as it did. -/
def fnNpLegendreMulUptoRow : OpenClaim := { program := "ytadknagkpnaehaa", sum := "09762f67de3c2da8c00fccceb1455ee31e46638bb1b2fee7f5dd1634ffacefe0", func := "loop.example/pub-g03342/laws.FnNpLegendreMul", spec := "fnNpLegendreMul", inPlace := ["math/bits.Add64", "math/bits.Sub64"], apart := false, narrowed := true }
def FnNpLegendreMulUptoSaid : Prop := fnNpLegendreMulUptoRow.holds Try.pinned (OpenSpec.upto fnNpLegendreMulSpec)

end Rows
end Go.Proofs.Ytadknagkpnaehaa
