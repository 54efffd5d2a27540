/-
  No cell of these rows narrows 'for every input' (looked for: loops, veiled, ifaces, maps, wideKeys, modest, calm, conditions, laid).
  DERIVED. THE GIVEN ROWS OF THIS SEAT. 5 by the template 'for every input the law returns true; each argument reads behind the call as it read before'; 0 by the template 'total and deterministic' (their statements: YtocnlhbaahjmfaaTotals.lean).
  GIVEN WITH THE SEED: the statements are not yours to turn. If you find one false, say at which input.
  Laid BY PROGRAM, IN A SANDBOX (cutbox-rows.mjs): the forced cells as the released guide's own fill.sh prints them over the translation 794115dd41844c16… (all of the seat's roots in one cut). By AI agents, Wed Nov 11 2026. No macro, syntax, notation, axiom, sorry.
-/
import Derived.Test.YtocnlhbaahjmfaaChecked
import GoSem.Claim
import GoSem.ClaimJoined
import GoSem.ClaimMapViews
import Derived.JoinedTies
import Derived.KernelRfl
namespace Go.Proofs.Ytocnlhbaahjmfaa
/- THE CELL 'sum', in the pinned program and in every row, IS THE sha256 OF THE DUMP (.gsa) THAT YtocnlhbaahjmfaaProg.lean LOADS. Nothing in Lean hashes anything: it is a label: what it is worth is what the hold of that sum in a sandbox is worth. -/
noncomputable def Try.pinned : Pinned := { name := "ytocnlhbaahjmfaa", sum := "794115dd41844c16c1f204c5464e303c3224c1250301dc050fbcc1f8ff9334ed", checked := Try.checked }
namespace Rows
def none {H : Type} : Left H := { results := [], args := [] }

/-- 'laws.FnBrMulTurned': WHATEVER THE INPUT: true; the input reads as it did. -/
def fnBrMulTurnedSpec : ChangeSpec := { name := "fnBrMulTurned", fn := fun _ => fun
  | [d1, d2] => { results := [.lit (.bool true)], args := [d1, d2] }
  | _ => none }
def fnBrMulTurnedRow : OpenClaim := { program := "ytocnlhbaahjmfaa", sum := "794115dd41844c16c1f204c5464e303c3224c1250301dc050fbcc1f8ff9334ed", func := "loop.example/pub-g03342/laws.FnBrMulTurned", spec := "fnBrMulTurned", inPlace := ["math/bits.Add64", "math/bits.Sub64"], apart := false }
def FnBrMulTurnedSaid : Prop := fnBrMulTurnedRow.holds Try.pinned (OpenSpec.ofChange fnBrMulTurnedSpec)

/-- ITS FALSE NEIGHBOUR: 'it returns false'. Refute it at one input. -/
def fnBrMulTurnedWrong : ChangeSpec := { name := "fnBrMulTurned", fn := fun _ => fun
  | [d1, d2] => { results := [.lit (.bool false)], args := [d1, d2] }
  | _ => none }
def FnBrMulTurnedWrongFalsely : Prop := fnBrMulTurnedRow.holds Try.pinned (OpenSpec.ofChange fnBrMulTurnedWrong)

/-- 'laws.FnBrVecMul': WHATEVER THE INPUT: true; the input reads as it did. -/
def fnBrVecMulSpec : ChangeSpec := { name := "fnBrVecMul", fn := fun _ => fun
  | [d1, d2] => { results := [.lit (.bool true)], args := [d1, d2] }
  | _ => none }
def fnBrVecMulRow : OpenClaim := { program := "ytocnlhbaahjmfaa", sum := "794115dd41844c16c1f204c5464e303c3224c1250301dc050fbcc1f8ff9334ed", func := "loop.example/pub-g03342/laws.FnBrVecMul", spec := "fnBrVecMul", inPlace := ["math/bits.Add64", "math/bits.Sub64"], apart := false }
def FnBrVecMulSaid : Prop := fnBrVecMulRow.holds Try.pinned (OpenSpec.ofChange fnBrVecMulSpec)

/-- ITS FALSE NEIGHBOUR: 'it returns false'. Refute it at one input. -/
def fnBrVecMulWrong : ChangeSpec := { name := "fnBrVecMul", fn := fun _ => fun
  | [d1, d2] => { results := [.lit (.bool false)], args := [d1, d2] }
  | _ => none }
def FnBrVecMulWrongFalsely : Prop := fnBrVecMulRow.holds Try.pinned (OpenSpec.ofChange fnBrVecMulWrong)

/-- 'laws.FnBrVecInner': WHATEVER THE INPUT: true; the input reads as it did. -/
def fnBrVecInnerSpec : ChangeSpec := { name := "fnBrVecInner", fn := fun _ => fun
  | [d1, d2] => { results := [.lit (.bool true)], args := [d1, d2] }
  | _ => none }
def fnBrVecInnerRow : OpenClaim := { program := "ytocnlhbaahjmfaa", sum := "794115dd41844c16c1f204c5464e303c3224c1250301dc050fbcc1f8ff9334ed", func := "loop.example/pub-g03342/laws.FnBrVecInner", spec := "fnBrVecInner", inPlace := ["math/bits.Add64", "math/bits.Sub64"], apart := false }
def FnBrVecInnerSaid : Prop := fnBrVecInnerRow.holds Try.pinned (OpenSpec.ofChange fnBrVecInnerSpec)

/-- ITS FALSE NEIGHBOUR: 'it returns false'. Refute it at one input. -/
def fnBrVecInnerWrong : ChangeSpec := { name := "fnBrVecInner", fn := fun _ => fun
  | [d1, d2] => { results := [.lit (.bool false)], args := [d1, d2] }
  | _ => none }
def FnBrVecInnerWrongFalsely : Prop := fnBrVecInnerRow.holds Try.pinned (OpenSpec.ofChange fnBrVecInnerWrong)

/-- 'laws.FnBrSetInt64': WHATEVER THE INPUT: true; the input reads as it did. -/
def fnBrSetInt64Spec : ChangeSpec := { name := "fnBrSetInt64", fn := fun _ => fun
  | [d] => { results := [.lit (.bool true)], args := [d] }
  | _ => none }
def fnBrSetInt64Row : OpenClaim := { program := "ytocnlhbaahjmfaa", sum := "794115dd41844c16c1f204c5464e303c3224c1250301dc050fbcc1f8ff9334ed", func := "loop.example/pub-g03342/laws.FnBrSetInt64", spec := "fnBrSetInt64", inPlace := ["math/bits.Add64", "math/bits.Sub64"], apart := false }
def FnBrSetInt64Said : Prop := fnBrSetInt64Row.holds Try.pinned (OpenSpec.ofChange fnBrSetInt64Spec)

/-- ITS FALSE NEIGHBOUR: 'it returns false'. Refute it at one input. -/
def fnBrSetInt64Wrong : ChangeSpec := { name := "fnBrSetInt64", fn := fun _ => fun
  | [d] => { results := [.lit (.bool false)], args := [d] }
  | _ => none }
def FnBrSetInt64WrongFalsely : Prop := fnBrSetInt64Row.holds Try.pinned (OpenSpec.ofChange fnBrSetInt64Wrong)

/-- 'laws.FnBrSquareMul': WHATEVER THE INPUT: true; the input reads as it did. -/
def fnBrSquareMulSpec : ChangeSpec := { name := "fnBrSquareMul", fn := fun _ => fun
  | [d] => { results := [.lit (.bool true)], args := [d] }
  | _ => none }
def fnBrSquareMulRow : OpenClaim := { program := "ytocnlhbaahjmfaa", sum := "794115dd41844c16c1f204c5464e303c3224c1250301dc050fbcc1f8ff9334ed", func := "loop.example/pub-g03342/laws.FnBrSquareMul", spec := "fnBrSquareMul", inPlace := ["math/bits.Add64", "math/bits.Sub64"], apart := false }
def FnBrSquareMulSaid : Prop := fnBrSquareMulRow.holds Try.pinned (OpenSpec.ofChange fnBrSquareMulSpec)

/-- ITS FALSE NEIGHBOUR: 'it returns false'. Refute it at one input. -/
def fnBrSquareMulWrong : ChangeSpec := { name := "fnBrSquareMul", fn := fun _ => fun
  | [d] => { results := [.lit (.bool false)], args := [d] }
  | _ => none }
def FnBrSquareMulWrongFalsely : Prop := fnBrSquareMulRow.holds Try.pinned (OpenSpec.ofChange fnBrSquareMulWrong)

/- THE SECOND FORM. 'bulk': how many values and letters a reading holds, each counted each time it is reached (what is shared counts as often as it is met; a slice's spare places count too). A statement '..UptoSaid' is the law's where the arguments, and the package variables that the reading takes, are together of bulk at most 1048576: NARROWER than '..Said'. Prove '..Said' where nothing that the law and all that it calls make is longer than what came in: it says more and counts as full. Else prove '..UptoSaid'. A law counts once. -/
mutual
def uptoBulk {H : Type} : DataW H → Nat
  | .lit (.string bytes) => bytes.length + 1
  | .lit _ => 1
  | .nil => 1
  | .ptr d => uptoBulk d + 1
  | .slice elems spare => uptoBulkAll elems + uptoBulkAll spare + 1
  | .agg parts => uptoBulkAll parts + 1
  | .iface _ d => uptoBulk d + 1
  | .map entries => uptoBulkEntries entries + 1
  | .held _ => 1
def uptoBulkAll {H : Type} : List (DataW H) → Nat
  | [] => 0
  | d :: r => uptoBulk d + uptoBulkAll r
def uptoBulkEntries {H : Type} : List (Lit × DataW H) → Nat
  | [] => 0
  | x :: r => uptoBulkEntry x + uptoBulkEntries r
def uptoBulkEntry {H : Type} : Lit × DataW H → Nat
  | (.string bytes, d) => bytes.length + uptoBulk d + 1
  | (_, d) => uptoBulk d + 1
 end
def uptoSmall : (H : Type) → List (DataW H) → Bool := fun _ ds => decide (uptoBulkAll ds ≤ 1048576)
def OpenSpec.upto (s : _root_.Go.ChangeSpec) : _root_.Go.OpenSpec := { _root_.Go.OpenSpec.ofChange s with cond := some uptoSmall }

/-- 'laws.FnBrMulTurned', WHERE WHAT IT READS IS OF BULK AT MOST 1048576: true; the input reads as it did. -/
def fnBrMulTurnedUptoRow : OpenClaim := { program := "ytocnlhbaahjmfaa", sum := "794115dd41844c16c1f204c5464e303c3224c1250301dc050fbcc1f8ff9334ed", func := "loop.example/pub-g03342/laws.FnBrMulTurned", spec := "fnBrMulTurned", inPlace := ["math/bits.Add64", "math/bits.Sub64"], apart := false, narrowed := true }
def FnBrMulTurnedUptoSaid : Prop := fnBrMulTurnedUptoRow.holds Try.pinned (OpenSpec.upto fnBrMulTurnedSpec)

/-- 'laws.FnBrVecMul', WHERE WHAT IT READS IS OF BULK AT MOST 1048576: true; the input reads as it did. -/
def fnBrVecMulUptoRow : OpenClaim := { program := "ytocnlhbaahjmfaa", sum := "794115dd41844c16c1f204c5464e303c3224c1250301dc050fbcc1f8ff9334ed", func := "loop.example/pub-g03342/laws.FnBrVecMul", spec := "fnBrVecMul", inPlace := ["math/bits.Add64", "math/bits.Sub64"], apart := false, narrowed := true }
def FnBrVecMulUptoSaid : Prop := fnBrVecMulUptoRow.holds Try.pinned (OpenSpec.upto fnBrVecMulSpec)

/-- 'laws.FnBrVecInner', WHERE WHAT IT READS IS OF BULK AT MOST 1048576: true; the input reads as it did. -/
def fnBrVecInnerUptoRow : OpenClaim := { program := "ytocnlhbaahjmfaa", sum := "794115dd41844c16c1f204c5464e303c3224c1250301dc050fbcc1f8ff9334ed", func := "loop.example/pub-g03342/laws.FnBrVecInner", spec := "fnBrVecInner", inPlace := ["math/bits.Add64", "math/bits.Sub64"], apart := false, narrowed := true }
def FnBrVecInnerUptoSaid : Prop := fnBrVecInnerUptoRow.holds Try.pinned (OpenSpec.upto fnBrVecInnerSpec)

/-- 'laws.FnBrSetInt64', WHERE WHAT IT READS IS OF BULK AT MOST 1048576: true; the input reads as it did. -/
def fnBrSetInt64UptoRow : OpenClaim := { program := "ytocnlhbaahjmfaa", sum := "794115dd41844c16c1f204c5464e303c3224c1250301dc050fbcc1f8ff9334ed", func := "loop.example/pub-g03342/laws.FnBrSetInt64", spec := "fnBrSetInt64", inPlace := ["math/bits.Add64", "math/bits.Sub64"], apart := false, narrowed := true }
def FnBrSetInt64UptoSaid : Prop := fnBrSetInt64UptoRow.holds Try.pinned (OpenSpec.upto fnBrSetInt64Spec)

/-- 'laws.FnBrSquareMul', WHERE WHAT IT READS IS OF BULK AT MOST 1048576: true; the input reads as it did. -/
def fnBrSquareMulUptoRow : OpenClaim := { program := "ytocnlhbaahjmfaa", sum := "794115dd41844c16c1f204c5464e303c3224c1250301dc050fbcc1f8ff9334ed", func := "loop.example/pub-g03342/laws.FnBrSquareMul", spec := "fnBrSquareMul", inPlace := ["math/bits.Add64", "math/bits.Sub64"], apart := false, narrowed := true }
def FnBrSquareMulUptoSaid : Prop := fnBrSquareMulUptoRow.holds Try.pinned (OpenSpec.upto fnBrSquareMulSpec)

end Rows
end Go.Proofs.Ytocnlhbaahjmfaa
