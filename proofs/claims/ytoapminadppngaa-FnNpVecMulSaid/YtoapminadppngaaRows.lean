/-
  No cell of these rows narrows 'for every input' (looked for: loops, veiled, ifaces, maps, wideKeys, modest, calm, conditions, laid).
  DERIVED. THE GIVEN ROWS OF THIS SEAT. 5 by the template 'for every input the law returns true; each argument reads behind the call as it read before'; 0 by the template 'total and deterministic' (their statements: YtoapminadppngaaTotals.lean).
  GIVEN WITH THE SEED: the statements are not yours to turn. If you find one false, say at which input.
  Laid BY PROGRAM, IN A SANDBOX (cutbox-rows.mjs): the forced cells as the released guide's own fill.sh prints them over the translation 4f1168873654c30e… (all of the seat's roots in one cut). By AI agents, Wed Nov 11 2026. No macro, syntax, notation, axiom, sorry.
-/
import Derived.Test.YtoapminadppngaaChecked
import GoSem.Claim
import GoSem.ClaimJoined
import GoSem.ClaimMapViews
import Derived.JoinedTies
import Derived.KernelRfl
namespace Go.Proofs.Ytoapminadppngaa
/- THE CELL 'sum', in the pinned program and in every row, IS THE sha256 OF THE DUMP (.gsa) THAT YtoapminadppngaaProg.lean LOADS. Nothing in Lean hashes anything: it is a label: what it is worth is what the hold of that sum in a sandbox is worth. -/
noncomputable def Try.pinned : Pinned := { name := "ytoapminadppngaa", sum := "4f1168873654c30edbc00da3131b144a17587363fa97785940686e698aea547d", checked := Try.checked }
namespace Rows
def none {H : Type} : Left H := { results := [], args := [] }

/-- 'laws.FnNpMulTurned': WHATEVER THE INPUT: true; the input reads as it did. -/
def fnNpMulTurnedSpec : ChangeSpec := { name := "fnNpMulTurned", fn := fun _ => fun
  | [d1, d2] => { results := [.lit (.bool true)], args := [d1, d2] }
  | _ => none }
def fnNpMulTurnedRow : OpenClaim := { program := "ytoapminadppngaa", sum := "4f1168873654c30edbc00da3131b144a17587363fa97785940686e698aea547d", func := "loop.example/pub-g03342/laws.FnNpMulTurned", spec := "fnNpMulTurned", inPlace := ["math/bits.Add64", "math/bits.Sub64"], apart := false }
def FnNpMulTurnedSaid : Prop := fnNpMulTurnedRow.holds Try.pinned (OpenSpec.ofChange fnNpMulTurnedSpec)

/-- ITS FALSE NEIGHBOUR: 'it returns false'. Refute it at one input. -/
def fnNpMulTurnedWrong : ChangeSpec := { name := "fnNpMulTurned", fn := fun _ => fun
  | [d1, d2] => { results := [.lit (.bool false)], args := [d1, d2] }
  | _ => none }
def FnNpMulTurnedWrongFalsely : Prop := fnNpMulTurnedRow.holds Try.pinned (OpenSpec.ofChange fnNpMulTurnedWrong)

/-- 'laws.FnNpVecMul': WHATEVER THE INPUT: true; the input reads as it did. -/
def fnNpVecMulSpec : ChangeSpec := { name := "fnNpVecMul", fn := fun _ => fun
  | [d1, d2] => { results := [.lit (.bool true)], args := [d1, d2] }
  | _ => none }
def fnNpVecMulRow : OpenClaim := { program := "ytoapminadppngaa", sum := "4f1168873654c30edbc00da3131b144a17587363fa97785940686e698aea547d", func := "loop.example/pub-g03342/laws.FnNpVecMul", spec := "fnNpVecMul", inPlace := ["math/bits.Add64", "math/bits.Sub64"], apart := false }
def FnNpVecMulSaid : Prop := fnNpVecMulRow.holds Try.pinned (OpenSpec.ofChange fnNpVecMulSpec)

/-- ITS FALSE NEIGHBOUR: 'it returns false'. Refute it at one input. -/
def fnNpVecMulWrong : ChangeSpec := { name := "fnNpVecMul", fn := fun _ => fun
  | [d1, d2] => { results := [.lit (.bool false)], args := [d1, d2] }
  | _ => none }
def FnNpVecMulWrongFalsely : Prop := fnNpVecMulRow.holds Try.pinned (OpenSpec.ofChange fnNpVecMulWrong)

/-- 'laws.FnNpVecInner': WHATEVER THE INPUT: true; the input reads as it did. -/
def fnNpVecInnerSpec : ChangeSpec := { name := "fnNpVecInner", fn := fun _ => fun
  | [d1, d2] => { results := [.lit (.bool true)], args := [d1, d2] }
  | _ => none }
def fnNpVecInnerRow : OpenClaim := { program := "ytoapminadppngaa", sum := "4f1168873654c30edbc00da3131b144a17587363fa97785940686e698aea547d", func := "loop.example/pub-g03342/laws.FnNpVecInner", spec := "fnNpVecInner", inPlace := ["math/bits.Add64", "math/bits.Sub64"], apart := false }
def FnNpVecInnerSaid : Prop := fnNpVecInnerRow.holds Try.pinned (OpenSpec.ofChange fnNpVecInnerSpec)

/-- ITS FALSE NEIGHBOUR: 'it returns false'. Refute it at one input. -/
def fnNpVecInnerWrong : ChangeSpec := { name := "fnNpVecInner", fn := fun _ => fun
  | [d1, d2] => { results := [.lit (.bool false)], args := [d1, d2] }
  | _ => none }
def FnNpVecInnerWrongFalsely : Prop := fnNpVecInnerRow.holds Try.pinned (OpenSpec.ofChange fnNpVecInnerWrong)

/-- 'laws.FnNpSetInt64': WHATEVER THE INPUT: true; the input reads as it did. -/
def fnNpSetInt64Spec : ChangeSpec := { name := "fnNpSetInt64", fn := fun _ => fun
  | [d] => { results := [.lit (.bool true)], args := [d] }
  | _ => none }
def fnNpSetInt64Row : OpenClaim := { program := "ytoapminadppngaa", sum := "4f1168873654c30edbc00da3131b144a17587363fa97785940686e698aea547d", func := "loop.example/pub-g03342/laws.FnNpSetInt64", spec := "fnNpSetInt64", inPlace := ["math/bits.Add64", "math/bits.Sub64"], apart := false }
def FnNpSetInt64Said : Prop := fnNpSetInt64Row.holds Try.pinned (OpenSpec.ofChange fnNpSetInt64Spec)

/-- ITS FALSE NEIGHBOUR: 'it returns false'. Refute it at one input. -/
def fnNpSetInt64Wrong : ChangeSpec := { name := "fnNpSetInt64", fn := fun _ => fun
  | [d] => { results := [.lit (.bool false)], args := [d] }
  | _ => none }
def FnNpSetInt64WrongFalsely : Prop := fnNpSetInt64Row.holds Try.pinned (OpenSpec.ofChange fnNpSetInt64Wrong)

/-- 'laws.FnNpSquareMul': WHATEVER THE INPUT: true; the input reads as it did. -/
def fnNpSquareMulSpec : ChangeSpec := { name := "fnNpSquareMul", fn := fun _ => fun
  | [d] => { results := [.lit (.bool true)], args := [d] }
  | _ => none }
def fnNpSquareMulRow : OpenClaim := { program := "ytoapminadppngaa", sum := "4f1168873654c30edbc00da3131b144a17587363fa97785940686e698aea547d", func := "loop.example/pub-g03342/laws.FnNpSquareMul", spec := "fnNpSquareMul", inPlace := ["math/bits.Add64", "math/bits.Sub64"], apart := false }
def FnNpSquareMulSaid : Prop := fnNpSquareMulRow.holds Try.pinned (OpenSpec.ofChange fnNpSquareMulSpec)

/-- ITS FALSE NEIGHBOUR: 'it returns false'. Refute it at one input. -/
def fnNpSquareMulWrong : ChangeSpec := { name := "fnNpSquareMul", fn := fun _ => fun
  | [d] => { results := [.lit (.bool false)], args := [d] }
  | _ => none }
def FnNpSquareMulWrongFalsely : Prop := fnNpSquareMulRow.holds Try.pinned (OpenSpec.ofChange fnNpSquareMulWrong)

/- THE SECOND FORM. 'bulk': how many values and letters a reading holds, each counted each time it is reached (what is shared counts as often as it is met; a slice's spare places count too). A statement '..UptoSaid' is the law's where the arguments, and the package variables that the reading takes, are together of bulk at most 1048576: NARROWER than '..Said'. Prove '..Said' where nothing that the law and all that it calls make is longer than what came in: it says more and counts as full. Else prove '..UptoSaid'. A law counts once. -/
mutual
def uptoBulk {H : Type} : DataW H → Nat
  | .lit (.string bytes) => bytes.length + 1
  | .lit _ => 1
  | .nil => 1
  | .ptr d => uptoBulk d + 1
  | .slice elems spare => uptoBulkAll elems + uptoBulkAll spare + 1
  | .agg parts => uptoBulkAll parts + 1
  | .iface _ d => uptoBulk d + 1
  | .map entries => uptoBulkEntries entries + 1
  | .held _ => 1
def uptoBulkAll {H : Type} : List (DataW H) → Nat
  | [] => 0
  | d :: r => uptoBulk d + uptoBulkAll r
def uptoBulkEntries {H : Type} : List (Lit × DataW H) → Nat
  | [] => 0
  | x :: r => uptoBulkEntry x + uptoBulkEntries r
def uptoBulkEntry {H : Type} : Lit × DataW H → Nat
  | (.string bytes, d) => bytes.length + uptoBulk d + 1
  | (_, d) => uptoBulk d + 1
 end
def uptoSmall : (H : Type) → List (DataW H) → Bool := fun _ ds => decide (uptoBulkAll ds ≤ 1048576)
def OpenSpec.upto (s : _root_.Go.ChangeSpec) : _root_.Go.OpenSpec := { _root_.Go.OpenSpec.ofChange s with cond := some uptoSmall }

/-- 'laws.FnNpMulTurned', WHERE WHAT IT READS IS OF BULK AT MOST 1048576: true; the input reads as it did. -/
def fnNpMulTurnedUptoRow : OpenClaim := { program := "ytoapminadppngaa", sum := "4f1168873654c30edbc00da3131b144a17587363fa97785940686e698aea547d", func := "loop.example/pub-g03342/laws.FnNpMulTurned", spec := "fnNpMulTurned", inPlace := ["math/bits.Add64", "math/bits.Sub64"], apart := false, narrowed := true }
def FnNpMulTurnedUptoSaid : Prop := fnNpMulTurnedUptoRow.holds Try.pinned (OpenSpec.upto fnNpMulTurnedSpec)

/-- 'laws.FnNpVecMul', WHERE WHAT IT READS IS OF BULK AT MOST 1048576: true; the input reads as it did. -/
def fnNpVecMulUptoRow : OpenClaim := { program := "ytoapminadppngaa", sum := "4f1168873654c30edbc00da3131b144a17587363fa97785940686e698aea547d", func := "loop.example/pub-g03342/laws.FnNpVecMul", spec := "fnNpVecMul", inPlace := ["math/bits.Add64", "math/bits.Sub64"], apart := false, narrowed := true }
def FnNpVecMulUptoSaid : Prop := fnNpVecMulUptoRow.holds Try.pinned (OpenSpec.upto fnNpVecMulSpec)

/-- 'laws.FnNpVecInner', WHERE WHAT IT READS IS OF BULK AT MOST 1048576: true; the input reads as it did. -/
def fnNpVecInnerUptoRow : OpenClaim := { program := "ytoapminadppngaa", sum := "4f1168873654c30edbc00da3131b144a17587363fa97785940686e698aea547d", func := "loop.example/pub-g03342/laws.FnNpVecInner", spec := "fnNpVecInner", inPlace := ["math/bits.Add64", "math/bits.Sub64"], apart := false, narrowed := true }
def FnNpVecInnerUptoSaid : Prop := fnNpVecInnerUptoRow.holds Try.pinned (OpenSpec.upto fnNpVecInnerSpec)

/-- 'laws.FnNpSetInt64', WHERE WHAT IT READS IS OF BULK AT MOST 1048576: true; the input reads as it did. -/
def fnNpSetInt64UptoRow : OpenClaim := { program := "ytoapminadppngaa", sum := "4f1168873654c30edbc00da3131b144a17587363fa97785940686e698aea547d", func := "loop.example/pub-g03342/laws.FnNpSetInt64", spec := "fnNpSetInt64", inPlace := ["math/bits.Add64", "math/bits.Sub64"], apart := false, narrowed := true }
def FnNpSetInt64UptoSaid : Prop := fnNpSetInt64UptoRow.holds Try.pinned (OpenSpec.upto fnNpSetInt64Spec)

/-- 'laws.FnNpSquareMul', WHERE WHAT IT READS IS OF BULK AT MOST 1048576: true; the input reads as it did. -/
def fnNpSquareMulUptoRow : OpenClaim := { program := "ytoapminadppngaa", sum := "4f1168873654c30edbc00da3131b144a17587363fa97785940686e698aea547d", func := "loop.example/pub-g03342/laws.FnNpSquareMul", spec := "fnNpSquareMul", inPlace := ["math/bits.Add64", "math/bits.Sub64"], apart := false, narrowed := true }
def FnNpSquareMulUptoSaid : Prop := fnNpSquareMulUptoRow.holds Try.pinned (OpenSpec.upto fnNpSquareMulSpec)

end Rows
end Go.Proofs.Ytoapminadppngaa
